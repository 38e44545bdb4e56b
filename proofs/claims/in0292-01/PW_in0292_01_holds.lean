import PyProof.Rows.All
import Wide.All
import OpenK.AllK
import Wide.FinOn
import Lean
import PySem.Challenge.RW_in0292_01
set_option Elab.async false
set_option linter.all false
set_option genInjectivity false
set_option genSizeOf false
set_option pp.deepTerms false
set_option pp.maxSteps 1500
section
open PySem PySem.W PyProof.Rows
namespace Mine
noncomputable abbrev pr : Program := Challenge.rw_in0292_01.row.prog
noncomputable def stm (i : Nat) : Stmt := (pr.main.body[i]?).getD (.Pass default)
noncomputable def sub (i j : Nat) : Stmt := match stm i with
  | .ClassDef (body := b) .. => (b[j]?).getD (.Pass default)
  | _ => .Pass default
noncomputable abbrev vs (x : Str) (t : Nat) : Value := .str x t
noncomputable abbrev vi (i : Int) (t : Nat) : Value := .int i t
noncomputable abbrev en (P : Params) (x : Str) (t : Nat) (v : Value) : DictEntry := { hash := PyData.keyHash P x, key := .str x t, val := v }
noncomputable def fnO (s : Stmt) (q m : Str) (t : Nat) (d : Value) (c : Addr) : Obj := match s with
  | .FunctionDef n ps b _ _ _ sc _ _ _ => { cls := .type "function", data := .func { name := n, qualname := q, params := ps, body := .stmts b, scope := sc, globals := 3, closure := [], defaults := d, kwdefaults := .none, pyModule := .str m t, code := .ref c } }
  | _ => default
noncomputable abbrev cdV (x q : Str) (t : Nat) (l a f : Int) (r : Addr) (u v w : Value) (k : Nat) : Obj := { cls := .type "code", data := .fields #[.str x t, .str q (t + 1), .str "/claim/cut.py" (t + 2), .int l 0, .int a 0, .int 0 0, .int 0 0, .int f 0, .ref r, .bool true, .int 181 0, .ref (r + 1), .none, u, v, w, .int k 0, .int l 0, .str "/claim/cut.py" (k + 1)] }
noncomputable abbrev cdO (x q : Str) (t : Nat) (l a f : Int) (r : Addr) (k : Nat) : Obj := cdV x q t l a f r (.ref (r + 2)) (.ref (r + 3)) (.ref (r + 4)) k
noncomputable abbrev cdN (x q : Str) (t : Nat) (l a f : Int) (r : Addr) (k : Nat) : Obj := cdV x q t l a f r .none .none (.ref (r + 2)) k
noncomputable abbrev tuO (l : List Value) : Obj := { cls := .type "tuple", data := .seq l.toArray }
noncomputable def heapK (P : Params) : Frag :=
  [(2, { cls := .none, data := .dict #[] }),
   (3, { cls := .type "dict", data := .dict #[en P "__name__" 165 (vs "law_in0292_01" 550), en P "__doc__" 166 (.none), en P "__package__" 167 (.none), en P "__loader__" 168 (.builtin "__main__.__loader__#opaque"), en P "__spec__" 169 (.none), en P "__annotations__" 170 (.ref 6), en P "__builtins__" 171 (.ref 4), en P "__file__" 173 (vs "/claim/cut.py" 172), en P "__cached__" 174 (.none), en P "_wall" 193 (.ref 21), en P "sep" 197 (vs "/" 196), en P "_plain_name" 206 (.ref 28), en P "ABCMeta" 232 (.ref 45), en P "_ABCLike" 275 (.ref 78), en P "_abc_plain_meta" 282 (.ref 87), en P "fspath" 294 (.ref 94), en P "_check_arg_types" 307 (.ref 101), en P "_get_sep" 316 (.ref 108), en P "join" 327 (.ref 115), en P "splitroot" 336 (.ref 122), en P "normpath" 351 (.ref 176), en P "normpath_posixpath" 352 (.ref 129), en P "commonpath" 358 (.ref 134), en P "_kind" 369 (.ref 141), en P "_c_path" 382 (.ref 148), en P "_shelf_fresh" 389 (.ref 155), en P "_splitroot" 398 (.ref 162), en P "_normpath" 413 (.ref 169), en P "normpath_path" 422 (.ref 176), en P "_Ignore" 464 (.ref 199), en P "S_IFMT" 473 (.ref 210), en P "S_IFDIR" 475 (vi 16384 474), en P "S_IFCHR" 477 (vi 8192 476), en P "S_IFBLK" 479 (vi 24576 478), en P "S_IFREG" 481 (vi 32768 480), en P "S_IFIFO" 483 (vi 4096 482), en P "S_IFLNK" 485 (vi 40960 484), en P "S_IFSOCK" 487 (vi 49152 486), en P "S_ISUID" 489 (vi 2048 488), en P "S_ISGID" 491 (vi 1024 490), en P "S_ISVTX" 493 (vi 512 492), en P "S_IRUSR" 495 (vi 256 494), en P "S_IWUSR" 497 (vi 128 496), en P "S_IXUSR" 499 (vi 64 498), en P "S_IRGRP" 501 (vi 32 500), en P "S_IWGRP" 503 (vi 16 502), en P "S_IXGRP" 505 (vi 8 504), en P "S_IROTH" 507 (vi 4 506), en P "S_IWOTH" 509 (vi 2 508), en P "S_IXOTH" 511 (vi 1 510), en P "_filemode_table" 537 (.ref 243), en P "filemode" 549 (.ref 250), en P "_law_way" 561 (.ref 257), en P "_law_rows" 567 (.ref 262), en P "_law_listing" 579 (.ref 269), en P "_law_shared" 590 (.ref 276), en P "_law_met" 604 (.ref 283), en P "_law_dues" 610 (.ref 288), en P "_law_told" 616 (.ref 293), en P "law" 622 (.ref 298)] 60 }),
   (93, cdO "fspath" "fspath" 285 36 1 3 88 292),
   (94, fnO (stm 10) "fspath" "os" 283 (.none) 93),
   (107, cdO "_get_sep" "_get_sep" 310 65 1 3 102 314),
   (108, fnO (stm 14) "_get_sep" "cpy313.posixpath" 308 (.none) 107),
   (114, cdO "join" "join" 317 70 1 7 109 325),
   (115, fnO (stm 15) "join" "cpy313.posixpath" 308 (.none) 114),
   (121, cdO "splitroot" "splitroot" 328 87 1 3 116 334),
   (122, fnO (stm 16) "splitroot" "cpy313.posixpath" 308 (.none) 121),
   (128, cdO "normpath" "normpath" 337 101 1 3 123 349),
   (129, fnO (stm 17) "normpath" "cpy313.posixpath" 308 (.none) 128),
   (133, cdN "commonpath" "commonpath" 353 127 1 3 130 356),
   (134, fnO (stm 19) "commonpath" "cpy313.posixpath" 308 (.none) 133),
   (140, cdO "_kind" "_kind" 361 157 2 3 135 367),
   (141, fnO (stm 21) "_kind" "os.path" 359 (.none) 140),
   (147, cdO "_c_path" "_c_path" 370 178 5 3 142 380),
   (148, fnO (stm 22) "_c_path" "os.path" 359 (.none) 147),
   (154, cdO "_shelf_fresh" "_shelf_fresh" 383 189 1 3 149 387),
   (155, fnO (stm 23) "_shelf_fresh" "os.path" 359 (.none) 154),
   (161, cdO "_splitroot" "_splitroot" 390 191 1 3 156 396),
   (162, fnO (stm 24) "_splitroot" "os.path" 359 (.none) 161),
   (168, cdO "_normpath" "_normpath" 399 200 1 3 163 411),
   (169, fnO (stm 25) "_normpath" "os.path" 359 (.none) 168),
   (175, cdO "normpath" "normpath" 414 221 0 15 170 419),
   (176, fnO (stm 26) "normpath" "os.path" 359 (.none) 175),
   (184, tuO [.none, .none]),
   (188, cdN "__init__" "_Ignore.__init__" 437 227 3 3 185 440),
   (189, fnO (sub 29 0) "_Ignore.__init__" "cpy313.trace" 423 (.ref 184) 188),
   (195, cdO "names" "_Ignore.names" 443 232 3 3 190 451),
   (196, fnO (sub 29 1) "_Ignore.names" "cpy313.trace" 423 (.none) 195),
   (198, { cls := .type "dict", data := .dict #[en P "__module__" 432 (vs "cpy313.trace" 423), en P "__firstlineno__" 436 (vi 225 435), en P "__init__" 442 (.ref 189), en P "names" 453 (.ref 196), en P "__static_attributes__" 457 (.ref 197), en P "__dict__" 459 (.ref 200), en P "__weakref__" 461 (.ref 201), en P "__doc__" 462 (.none)] 4 }),
   (199, { cls := .type "type", data := .cls { name := "_Ignore", bases := [.type "object"], mro := [.ref 199, .type "object"], ns := 198, qualname := "_Ignore" }, slots := #[none, none, some (vs "_Ignore" 425), some (vs "_Ignore" 433), some (.builtin "object.__new__"), some (.bool true)] }),
   (200, { cls := .type "getset_descriptor", data := .fields #[vs "__dict__" 458, .ref 199, .builtin "function.__dict__", .builtin "function.__dict__#set"] }),
   (201, { cls := .type "getset_descriptor", data := .fields #[vs "__weakref__" 460, .ref 199, .builtin "ExceptionGroup.__weakref__", .none] }),
   (209, cdO "S_IFMT" "S_IFMT" 467 252 1 3 204 471),
   (210, fnO (stm 31) "S_IFMT" "cpy313.stat" 465 (.none) 209),
   (211, tuO [vi 40960 484, vs "l" 512]),
   (212, tuO [vi 49152 486, vs "s" 513]),
   (213, tuO [vi 32768 480, vs "-" 514]),
   (214, tuO [vi 24576 478, vs "b" 515]),
   (215, tuO [vi 16384 474, vs "d" 516]),
   (216, tuO [vi 8192 476, vs "c" 517]),
   (217, tuO [vi 4096 482, vs "p" 518]),
   (218, tuO [.ref 211, .ref 212, .ref 213, .ref 214, .ref 215, .ref 216, .ref 217]),
   (219, tuO [vi 256 494, vs "r" 519]),
   (220, tuO [.ref 219]),
   (221, tuO [vi 128 496, vs "w" 520]),
   (222, tuO [.ref 221]),
   (223, tuO [vi 2112 521, vs "s" 522]),
   (224, tuO [vi 2048 488, vs "S" 523]),
   (225, tuO [vi 64 498, vs "x" 524]),
   (226, tuO [.ref 223, .ref 224, .ref 225]),
   (227, tuO [vi 32 500, vs "r" 525]),
   (228, tuO [.ref 227]),
   (229, tuO [vi 16 502, vs "w" 526]),
   (230, tuO [.ref 229]),
   (231, tuO [vi 1032 527, vs "s" 528]),
   (232, tuO [vi 1024 490, vs "S" 529]),
   (233, tuO [vi 8 504, vs "x" 530]),
   (234, tuO [.ref 231, .ref 232, .ref 233]),
   (235, tuO [vi 4 506, vs "r" 531]),
   (236, tuO [.ref 235]),
   (237, tuO [vi 2 508, vs "w" 532]),
   (238, tuO [.ref 237]),
   (239, tuO [vi 513 533, vs "t" 534]),
   (240, tuO [vi 512 492, vs "T" 535]),
   (241, tuO [vi 1 510, vs "x" 536]),
   (242, tuO [.ref 239, .ref 240, .ref 241]),
   (243, tuO [.ref 218, .ref 220, .ref 222, .ref 226, .ref 228, .ref 230, .ref 234, .ref 236, .ref 238, .ref 242]),
   (249, cdO "filemode" "filemode" 538 274 1 3 244 547),
   (250, fnO (stm 52) "filemode" "cpy313.stat" 465 (.none) 249),
   (256, cdO "_law_way" "_law_way" 552 292 1 3 251 559),
   (257, fnO (stm 54) "_law_way" "law_in0292_01" 550 (.none) 256),
   (261, cdN "_law_rows" "_law_rows" 562 301 1 3 258 565),
   (262, fnO (stm 55) "_law_rows" "law_in0292_01" 550 (.none) 261),
   (268, cdO "_law_listing" "_law_listing" 568 316 1 3 263 577),
   (269, fnO (stm 56) "_law_listing" "law_in0292_01" 550 (.none) 268),
   (275, cdO "_law_shared" "_law_shared" 580 323 2 3 270 588),
   (276, fnO (stm 57) "_law_shared" "law_in0292_01" 550 (.none) 275),
   (282, cdO "_law_met" "_law_met" 591 330 4 3 277 602),
   (283, fnO (stm 58) "_law_met" "law_in0292_01" 550 (.none) 282),
   (287, cdN "_law_dues" "_law_dues" 605 340 4 3 284 608),
   (288, fnO (stm 59) "_law_dues" "law_in0292_01" 550 (.none) 287),
   (292, cdN "_law_told" "_law_told" 611 357 3 3 289 614),
   (293, fnO (stm 60) "_law_told" "law_in0292_01" 550 (.none) 292),
   (297, cdN "law" "law" 617 365 1 3 294 620),
   (298, fnO (stm 61) "law" "law_in0292_01" 550 (.none) 297)]
noncomputable def addrs : List Addr := [2, 3, 93, 94, 107, 108, 114, 115, 121, 122, 128, 129, 133, 134, 140, 141, 147, 148, 154, 155, 161, 162, 168, 169, 175, 176, 184, 188, 189, 195, 196, 198, 199, 200, 201, 209, 210, 211, 212, 213, 214, 215, 216, 217, 218, 219, 220, 221, 222, 223, 224, 225, 226, 227, 228, 229, 230, 231, 232, 233, 234, 235, 236, 237, 238, 239, 240, 241, 242, 243, 249, 250, 256, 257, 261, 262, 268, 269, 275, 276, 282, 283, 287, 288, 292, 293, 297, 298]
end Mine
end
section
open PySem PySem.W PyProof.Rows
namespace Mine
noncomputable def lse : List Str := (["_wall", "sep", "_plain_name", "ABCMeta", "_ABCLike", "_abc_plain_meta", "fspath", "_check_arg_types", "_get_sep", "join", "splitroot", "normpath", "normpath_posixpath", "commonpath", "_kind", "_c_path", "_shelf_fresh", "_splitroot", "_normpath", "normpath_path", "_Ignore", "S_IFMT", "S_IFDIR", "S_IFCHR", "S_IFBLK", "S_IFREG", "S_IFIFO", "S_IFLNK", "S_IFSOCK", "S_ISUID", "S_ISGID", "S_ISVTX", "S_IRUSR", "S_IWUSR", "S_IXUSR", "S_IRGRP", "S_IWGRP", "S_IXGRP", "S_IROTH", "S_IWOTH", "S_IXOTH", "_filemode_table", "filemode", "_law_way", "_law_rows", "_law_listing", "_law_shared", "_law_met", "_law_dues", "_law_told"] : List String).map Str.ofString
noncomputable abbrev rw1 : OpenRow := Challenge.rw_in0292_01.row
noncomputable def qv : Program := view pr [61]
set_option maxRecDepth 100000 in
noncomputable def hk : Hook := kHook heapK addrs (fun _ => by kernel_rfl)
noncomputable abbrev stepQ := PySem.W.Fast.tw10156331382660048174
noncomputable abbrev okQ := PySem.W.Fast.tw6613529449190102663
noncomputable abbrev denQ := PySem.W.Fast.tw11892475500146522536
noncomputable abbrev tabQ := PySem.W.Fast.tw14364793385576792824
noncomputable def topT (p : Program) (w : World) (n₀ : Nat) (ann : Option Value) : Nat → SharedT → Thread → Option SharedT
  | 0, _, _ => none
  | n + 1, s, t => match through t with
    | true => some s
    | false => match okQ n₀ ann t with
      | false => none
      | true => match stepQ (denQ tabQ) p w s t with
        | some (s', t') => topT p w n₀ ann n s' t'
        | none => none
theorem topT_of {p : Program} {w : World} {n₀ : Nat} {ann : Option Value} : ∀ {n : Nat} {s s' : SharedT} {t : Thread}, topT p w n₀ ann n s t = some s' → topRun treeTable p w n₀ ann n s.abs t = some s'.abs
  | 0, _, _, _, h => by cases h
  | n + 1, s, s', t, h => by
    unfold topT at h
    unfold topRun
    rw [show okQ = stepOk from PySem.W.Fast.te6613529449190102663.symm, show stepQ = stepT from PySem.W.Fast.te10156331382660048174.symm, show denQ = denote from PySem.W.Fast.te11892475500146522536.symm, show tabQ = treeTable from PySem.W.Fast.te14364793385576792824.symm] at h
    cases ht : through t with
    | true => rw [ht] at h; cases h; rfl
    | false =>
      rw [ht] at h
      cases hk : stepOk n₀ ann t with
      | false => rw [hk] at h; cases h
      | true =>
        rw [hk] at h
        cases hs : stepT (denote treeTable) p w s t with
        | none => rw [hs] at h; cases h
        | some r => obtain ⟨s₂, t₂⟩ := r; rw [hs] at h; dsimp only; rw [stepT_spec hs]; exact topT_of h
noncomputable def T0 (P : Params) : BT := ((((((((((BT.nil.ins 0 (boot_o_0 P)).ins 1 (boot_o_1 P)).ins 2 (boot_o_2 P)).ins 3 (boot_o_3 P)).ins 4 (boot_o_4 P)).ins 5 (boot_o_5 P)).ins 6 (boot_o_6 P)).ins 7 (boot_o_7 P)).ins 8 (boot_o_8 P)).ins 9 (boot_o_9 P)).ins 10 (boot_o_10 P)
noncomputable def sT (w : World) (os : OsState) : SharedT := ⟨T0 w.params, 11, {}, Array.mk [], boot_drawn, boot_toks, os⟩
theorem sT_abs (w : World) (os : OsState) : (sT w os).abs = ⟨boot_heap w.params, Array.mk [], boot_drawn, boot_toks, os⟩ := by kernel_rfl
theorem boot_size (w : World) : ((boot_heap w.params).isNs mainGlobals && (Array.mk [] : Array GenState).size == 0, (boot_heap w.params).objs.size, (boot_heap w.params).nsMap mainGlobals "__annotations__") = (true, 11, some (.ref 6)) := by kernel_rfl
noncomputable def xt : Shared → Bool := fun s => recOk rw1.records s
noncomputable def looks (w : World) (s : Shared) := ((staticsOk (importedModules pr.main.body) (boot_heap w.params) s.heap && namesBound pr s.heap && gensDone s && laidKept (boot_heap w.params) s.heap), openSeen qv lse (importedModules pr.main.body) xt true s, hk.obs s)
set_option maxRecDepth 100000 in
set_option maxHeartbeats 0 in
theorem ran (w : World) (os : OsState) : (topT pr w 11 (some (.ref 6)) 4000 (sT w os) (topStub pr)).map (fun s => looks w s.abs) = some (true, openGood qv lse, hk.val w) := by kernel_rfl
set_option maxRecDepth 100000 in
set_option maxHeartbeats 0 in
theorem said_a : PySem.W.Fast.tw11788848310118352699 pr.main = true := by kernel_rfl
set_option maxRecDepth 100000 in
set_option maxHeartbeats 0 in
theorem said_b : PySem.W.Fast.tw8377067652309620493 pr = true := by kernel_rfl
set_option maxRecDepth 100000 in
set_option maxHeartbeats 0 in
theorem said_c : (PySem.W.Fast.tw18344453789297297638 pr).all (fun n => !PySem.W.Fast.tw14412699480532031325.contains n) = true := by kernel_rfl
set_option maxRecDepth 100000 in
set_option maxHeartbeats 0 in
theorem said_i : moduleNames pr.main.body = [] := by kernel_rfl
set_option maxRecDepth 100000 in
set_option maxHeartbeats 0 in
theorem said_j : importedModules pr.main.body = [] := by kernel_rfl
set_option maxRecDepth 100000 in
set_option maxHeartbeats 0 in
theorem said_k : (["vars", "dir", "locals"] : List Str).filter (readsOut pr pr.main.body) = [] := by kernel_rfl
set_option maxRecDepth 100000 in
set_option maxHeartbeats 0 in
theorem said_d : PySem.W.Fast.tw8326940854005059898 { strict := false, foot := none, bare := [] } pr.main.body = true := by kernel_rfl
set_option maxRecDepth 100000 in
set_option maxHeartbeats 0 in
theorem said_e : PySem.W.Fast.tw17119622794617984870 pr pr.main.body (fun _ n => PySem.W.Fast.tw17868728402115742887 n) = true := by kernel_rfl
set_option maxRecDepth 100000 in
set_option maxHeartbeats 0 in
theorem said_looks : looksOpen pr = true := by
  delta looksOpen
  rw [said_i, said_j, said_k]
  rw [PySem.W.Fast.te11788848310118352699, PySem.W.Fast.te8377067652309620493, PySem.W.Fast.te18344453789297297638, PySem.W.Fast.te14412699480532031325, PySem.W.Fast.te8326940854005059898, PySem.W.Fast.te17119622794617984870, PySem.W.Fast.te17868728402115742887]
  exact look_both (look_both (look_both (look_both (look_both said_a rfl) said_b) said_c) said_d) said_e
set_option maxRecDepth 100000 in
set_option maxHeartbeats 0 in
theorem said_part : rw1.partSaid = true := by
  delta OpenRow.partSaid
  rw [show looksOpen rw1.prog = true from said_looks]
  kernel_rfl
set_option maxRecDepth 100000 in
set_option maxHeartbeats 0 in
theorem said_row : rw1.wellSaid = true := by
  delta OpenRow.wellSaid
  rw [said_part]
  kernel_rfl
set_option maxRecDepth 100000 in
set_option maxHeartbeats 0 in
theorem said0 : Challenge.rw_in0292_01.wellSaid = true := by
  delta OpenLaw.wellSaid
  rw [show Challenge.rw_in0292_01.row.wellSaid = true from said_row]
  rw [PySem.W.Fast.te8326940854005059898, PySem.W.Fast.te17119622794617984870, PySem.W.Fast.te16286561074155671207]
  kernel_rfl
theorem opens (s : Shared) : fenceModules? pr s = some s := by kernel_rfl
theorem opening1 : opening pr = plainProg pr.main.scope.names := by kernel_rfl
theorem bind_at {α β : Type} (x : α) (f : α → Option β) : (some x).bind f = f x := rfl
theorem left : LeftO pr qv lse xt hk.obs hk.val 4000 := fun w => by
  obtain ⟨⟨h, gs, d, k, os⟩, e, e'⟩ := Option.map_eq_some_iff.mp (boot_open (p := pr) (N := 4000) opening1 (by decide) opens w)
  obtain ⟨rfl, rfl, rfl, rfl⟩ : h = boot_heap w.params ∧ gs = Array.mk [] ∧ d = boot_drawn ∧ k = boot_toks := by simpa using e'
  obtain ⟨z1, z2, z3⟩ : _ ∧ _ ∧ _ := by simpa only [Prod.mk.injEq] using boot_size w
  obtain ⟨s, r, l⟩ := Option.map_eq_some_iff.mp (ran w os)
  obtain ⟨l1, l2, l3⟩ : _ ∧ _ ∧ _ := by simpa only [looks, Prod.mk.injEq] using l
  have r := topT_of r
  rw [sT_abs] at r
  have t : topFrom treeTable pr w 4000 ⟨boot_heap w.params, Array.mk [], boot_drawn, boot_toks, os⟩ = some s.abs := by
    unfold topFrom
    dsimp only
    rw [z1, z2, z3, r]
    show (match staticsOk (importedModules pr.main.body) (boot_heap w.params) s.abs.heap && namesBound pr s.abs.heap && gensDone s.abs && laidKept (boot_heap w.params) s.abs.heap with | true => _ | false => _) = _
    rw [l1]
  unfold openEnds
  rw [e, bind_at, t]
  exact congrArg some (Prod.ext l2 l3)
end Mine
end
section
open PySem PySem.W PyProof.Rows PySem.Calls
namespace Mine
noncomputable def Ext (h h' : Heap) : Prop := ∀ b o, h.get? b = some o → h'.get? b = some o
theorem Ext.refl (h : Heap) : Ext h h := fun _ _ e => e
theorem Ext.trans {h h' h'' : Heap} (x : Ext h h') (y : Ext h' h'') : Ext h h'' := fun b o e => y b o (x b o e)
theorem Ext.push (h : Heap) (o : Obj) : Ext h (h.push o) := fun _ _ e => Heap.get?_push_of_some _ e
theorem Ext.pushR {h h' : Heap} (x : Ext h h') (o : Obj) : Ext h (h'.push o) := x.trans (Ext.push _ _)
mutual
inductive Rd (h : Heap) (X : Addr → Prop) : Value → PyData → Prop
  | none : Rd h X Value.none PyData.none
  | bool (b : Bool) : Rd h X (Value.bool b) (PyData.bool b)
  | int (i : Int) (t : Tok) : Rd h X (Value.int i t) (PyData.int i)
  | str (x : Str) (t : Tok) : Rd h X (Value.str x t) (PyData.str x)
  | list {a : Addr} {vs : List Value} {n : Nat} {ds : List PyData} : ¬ X a → h.get? a = some { cls := .type "list", data := .seq vs.toArray n } → RdAll h X vs ds → Rd h X (Value.ref a) (PyData.list ds)
  | tuple {a : Addr} {vs : List Value} {n : Nat} {ds : List PyData} : ¬ X a → h.get? a = some { cls := .type "tuple", data := .seq vs.toArray n } → RdAll h X vs ds → Rd h X (Value.ref a) (PyData.tuple ds)
inductive RdAll (h : Heap) (X : Addr → Prop) : List Value → List PyData → Prop
  | nil : RdAll h X [] []
  | cons {v : Value} {vs : List Value} {d : PyData} {ds : List PyData} : Rd h X v d → RdAll h X vs ds → RdAll h X (v :: vs) (d :: ds)
end
mutual
theorem Rd.up {h h' : Heap} {X Y : Addr → Prop} (k : ∀ b o, ¬ X b → h.get? b = some o → h'.get? b = some o ∧ ¬ Y b) : ∀ {v : Value} {d : PyData}, Rd h X v d → Rd h' Y v d
  | _, _, .none => .none
  | _, _, .bool b => .bool b
  | _, _, .int i t => .int i t
  | _, _, .str x t => .str x t
  | _, _, .list nx g r => .list (k _ _ nx g).2 (k _ _ nx g).1 (RdAll.up k r)
  | _, _, .tuple nx g r => .tuple (k _ _ nx g).2 (k _ _ nx g).1 (RdAll.up k r)
theorem RdAll.up {h h' : Heap} {X Y : Addr → Prop} (k : ∀ b o, ¬ X b → h.get? b = some o → h'.get? b = some o ∧ ¬ Y b) : ∀ {vs : List Value} {ds : List PyData}, RdAll h X vs ds → RdAll h' Y vs ds
  | _, _, .nil => .nil
  | _, _, .cons x r => .cons (Rd.up k x) (RdAll.up k r)
end
theorem Rd.ext {h h' : Heap} {X : Addr → Prop} {v : Value} {d : PyData} (x : Rd h X v d) (k : Ext h h') : Rd h' X v d := x.up fun b o nx e => ⟨k b o e, nx⟩
theorem RdAll.ext {h h' : Heap} {X : Addr → Prop} {v : List Value} {d : List PyData} (x : RdAll h X v d) (k : Ext h h') : RdAll h' X v d := x.up fun b o nx e => ⟨k b o e, nx⟩
theorem RdAll.less {h : Heap} {X Y : Addr → Prop} {v : List Value} {d : List PyData} (x : RdAll h X v d) (k : ∀ b, Y b → X b) : RdAll h Y v d := x.up fun b _ nx e => ⟨e, fun y => nx (k b y)⟩
section
variable {h : Heap} {X : Addr → Prop} {v : Value} {vs ws : List Value} {d : PyData} {ds es : List PyData}
theorem RdAll.length (x : RdAll h X vs ds) : vs.length = ds.length := by
  induction vs generalizing ds with
  | nil => cases x; rfl
  | cons v vs ih => cases x with | cons _ r => rw [List.length_cons, List.length_cons, ih r]
theorem RdAll.append (x : RdAll h X vs ds) (y : RdAll h X ws es) : RdAll h X (vs ++ ws) (ds ++ es) := by
  induction vs generalizing ds with
  | nil => cases x; exact y
  | cons v vs ih => cases x with | cons p r => exact .cons p (ih r)
theorem RdAll.snoc (x : RdAll h X vs ds) (y : Rd h X v d) : RdAll h X (vs ++ [v]) (ds ++ [d]) := x.append (.cons y .nil)
theorem RdAll.get (x : RdAll h X vs ds) {k : Nat} (e : ds[k]? = some d) : ∃ v, vs[k]? = some v ∧ Rd h X v d := by
  induction vs generalizing ds k with
  | nil => cases x; cases e
  | cons v vs ih =>
    cases x with
    | cons p r =>
      cases k with
      | zero => cases e; exact ⟨v, rfl, p⟩
      | succ k => exact ih r e
theorem RdAll.take (x : RdAll h X vs ds) (k : Nat) : RdAll h X (vs.take k) (ds.take k) := by
  induction vs generalizing ds k with
  | nil => cases x; simpa using RdAll.nil
  | cons u vs ih =>
    cases x with
    | cons p r =>
      cases k with
      | zero => exact .nil
      | succ k => exact .cons p (ih r k)
end
mutual
theorem Rd.reads {h : Heap} {X : Addr → Prop} : ∀ {v : Value} {d : PyData}, Rd h X v d → ∃ as, Reads h v d as
  | _, _, .none => ⟨_, .none⟩
  | _, _, .bool b => ⟨_, .bool b⟩
  | _, _, .int i t => ⟨_, .int i t⟩
  | _, _, .str x t => ⟨_, .str x t⟩
  | _, _, .list _ g r => let ⟨as, q⟩ := RdAll.reads r; ⟨_, .list g rfl rfl (by simpa using q)⟩
  | _, _, .tuple _ g r => let ⟨as, q⟩ := RdAll.reads r; ⟨_, .tuple g rfl rfl (by simpa using q)⟩
theorem RdAll.reads {h : Heap} {X : Addr → Prop} : ∀ {vs : List Value} {ds : List PyData}, RdAll h X vs ds → ∃ as, ReadsAll h vs ds as
  | _, _, .nil => ⟨_, .nil⟩
  | _, _, .cons x r => let ⟨_, p⟩ := Rd.reads x; let ⟨_, q⟩ := RdAll.reads r; ⟨_, .cons p q⟩
end
section
variable {h : Heap} {X : Addr → Prop} {v : Value} {ds : List PyData}
theorem Rd.list_inv (x : Rd h X v (.list ds)) : ∃ a vs, v = .ref a ∧ ¬ X a ∧ h.IsList a vs.toArray ∧ RdAll h X vs ds := by
  cases x with | list nx g r => exact ⟨_, _, rfl, nx, ⟨_, g, rfl, _, rfl⟩, r⟩
theorem Rd.tuple_inv (x : Rd h X v (.tuple ds)) : ∃ a vs, v = .ref a ∧ ¬ X a ∧ IsTup h a vs.toArray ∧ RdAll h X vs ds := by
  cases x with | tuple nx g r => exact ⟨_, _, rfl, nx, ⟨_, g, rfl, _, rfl⟩, r⟩
theorem Rd.list_invP (x : Rd h X v (.list ds)) : ∃ a vs, v = .ref a ∧ ¬ X a ∧ h.PlainList a (List.toArray vs) ∧ RdAll h X vs ds := by
  cases x with | list nx g r => exact ⟨_, _, rfl, nx, ⟨_, g⟩, r⟩
noncomputable def PTup (h : Heap) (a : Addr) (items : Array Value) : Prop := ∃ n, h.get? a = some { cls := .type "tuple", data := .seq items n }
theorem Rd.tuple_invP (x : Rd h X v (.tuple ds)) : ∃ a vs, v = .ref a ∧ ¬ X a ∧ PTup h a (List.toArray vs) ∧ RdAll h X vs ds := by
  cases x with | tuple nx g r => exact ⟨_, _, rfl, nx, ⟨_, g⟩, r⟩
theorem Rd.of_list {a : Addr} {vs : List Value} (nx : ¬ X a) (l : h.PlainList a vs.toArray) (r : RdAll h X vs ds) : Rd h X (.ref a) (.list ds) := by
  obtain ⟨n, g⟩ := l; exact .list nx g r
theorem Rd.of_tuple {a : Addr} {vs : List Value} (nx : ¬ X a) (l : PTup h a vs.toArray) (r : RdAll h X vs ds) : Rd h X (.ref a) (.tuple ds) := by
  obtain ⟨n, g⟩ := l; exact .tuple nx g r
end
inductive Res where
  | d (x : PyData)
  | v (u : Value)
  | vd (u : Value) (x : PyData)
  | lv (us : List Value)
  /-- a list of the caller's, of whatever make -/
  | lo (x : List PyData)
  /-- a tuple of these very values -/
  | tv (us : List Value)
  /-- a dict without an entry -/
  | ed
  /-- what a heap's own words say of it -/
  | hp (P : Heap → (Addr → Prop) → Value → Prop)
noncomputable def Stab (P : Heap → (Addr → Prop) → Value → Prop) : Prop := ∀ (h h' : Heap) (X Y : Addr → Prop) (u : Value), (∀ b o, ¬ X b → h.get? b = some o → h'.get? b = some o ∧ ¬ Y b) → P h X u → P h' Y u
noncomputable def RV (h : Heap) (X : Addr → Prop) (u : Value) : Res → Prop
  | .d x => Rd h X u x
  | .v w => u = w
  | .vd w x => u = w ∧ Rd h X u x
  | .lv us => ∃ a, u = .ref a ∧ ¬ X a ∧ h.IsList a us.toArray
  | .lo ds => ∃ a vs, u = .ref a ∧ ¬ X a ∧ h.IsList a (List.toArray vs) ∧ RdAll h X vs ds
  | .tv us => ∃ a, u = .ref a ∧ ¬ X a ∧ PTup h a us.toArray
  | .ed => ∃ a, u = .ref a ∧ ¬ X a ∧ (a == sysModules) = false ∧ h.get? a = some { cls := .type "dict", data := .dict #[] }
  | .hp P => Stab P ∧ P h X u
theorem IsList.ext {h h' : Heap} {a : Addr} {items : Array Value} (x : h.IsList a items) (k : Ext h h') : h'.IsList a items := x.at fun o e => k _ o e
theorem RV.up {h h' : Heap} {X Y : Addr → Prop} (k : ∀ b o, ¬ X b → h.get? b = some o → h'.get? b = some o ∧ ¬ Y b) {u : Value} {r : Res} (x : RV h X u r) : RV h' Y u r := by
  cases r with
  | d => exact Rd.up k x
  | v => exact x
  | vd => exact ⟨x.1, Rd.up k x.2⟩
  | lv us => obtain ⟨a, e, nx, l⟩ := x; obtain ⟨o, g, r⟩ := l; exact ⟨a, e, (k _ _ nx g).2, o, (k _ _ nx g).1, r⟩
  | ed => obtain ⟨a, e, nx, m, g⟩ := x; exact ⟨a, e, (k _ _ nx g).2, m, (k _ _ nx g).1⟩
  | hp P => exact ⟨x.1, x.1 _ _ _ _ _ k x.2⟩
  | tv us => obtain ⟨a, e, nx, n, g⟩ := x; exact ⟨a, e, (k _ _ nx g).2, n, (k _ _ nx g).1⟩
  | lo ds => obtain ⟨a, vs, e, nx, l, rr⟩ := x; obtain ⟨o, g, r⟩ := l; exact ⟨a, vs, e, (k _ _ nx g).2, ⟨o, (k _ _ nx g).1, r⟩, RdAll.up k rr⟩
theorem RV.ext {h h' : Heap} {X : Addr → Prop} {u : Value} {r : Res} (x : RV h X u r) (k : Ext h h') : RV h' X u r := x.up fun b o nx e => ⟨k b o e, nx⟩
theorem RV.less {h : Heap} {X Y : Addr → Prop} {u : Value} {r : Res} (x : RV h X u r) (k : ∀ b, Y b → X b) : RV h Y u r := x.up fun b _ nx e => ⟨e, fun y => nx (k b y)⟩
inductive RVs (h : Heap) (X : Addr → Prop) : List Value → List Res → Prop
  | nil : RVs h X [] []
  | cons {v : Value} {vs : List Value} {r : Res} {rs : List Res} : RV h X v r → RVs h X vs rs → RVs h X (v :: vs) (r :: rs)
theorem RVs.up {h h' : Heap} {X Y : Addr → Prop} (k : ∀ b o, ¬ X b → h.get? b = some o → h'.get? b = some o ∧ ¬ Y b) {us : List Value} {rs : List Res} (x : RVs h X us rs) : RVs h' Y us rs := by
  induction x with
  | nil => exact .nil
  | cons a _ ih => exact .cons (a.up k) ih
structure Room (n : Nat) (A : Around) : Prop where
  handled : A.handled = none
  guards : A.guards = some []
  depth : A.depth + 4 * n ≤ 900
  units : A.units + 100 * n + 500 ≤ 9900
theorem room_up {d k c n b m : Nat} (hk : k ≤ c) (h : d + c * (n + 1) + b ≤ m) : d + k + c * n + b ≤ m := by
  rw [Nat.mul_succ] at h; omega
theorem Room.le {n k : Nat} {A : Around} (R : Room n A) (h : k ≤ n) : Room k A := ⟨R.1, R.2, Nat.le_trans (Nat.add_le_add_left (Nat.mul_le_mul_left 4 h) _) R.3, Nat.le_trans (Nat.add_le_add_right (Nat.add_le_add_left (Nat.mul_le_mul_left 100 h) _) 500) R.4⟩
theorem Room.deeper {n : Nat} {A : Around} (R : Room (n + 1) A) (env : Env) : Room n (A.deeper env) :=
  ⟨R.1, R.2, room_up (b := 0) (k := 1) (c := 4) (by decide) R.3, room_up (k := 3) (c := 100) (by decide) R.4⟩
theorem Room.in1 {n : Nat} {A : Around} (R : Room (n + 1) A) : Room n A.in1 :=
  ⟨R.1, R.2, room_up (b := 0) (k := 0) (c := 4) (by decide) R.3, room_up (k := 1) (c := 100) (by decide) R.4⟩
theorem Room.hroom {n : Nat} {A : Around} (R : Room n A) : A.depth < recursionLimit := by have := R.3; show _ < 1000; omega
theorem Room.unitsLt {n : Nat} {A : Around} (R : Room n A) : A.units + 64 < cLine := by have := R.4; show _ < 9900; omega
structure OkH (B h : Heap) (X : Addr → Prop) : Prop where
  base : Ext B h
  live : ∀ a, X a → ∃ o, h.get? a = some o
  off : ∀ a, X a → B.get? a = none
theorem OkH.lt {B h : Heap} {X : Addr → Prop} (k : OkH B h X) (a : Addr) (x : X a) : a < h.objs.size := let ⟨_, e⟩ := k.live a x; Heap.lt_size e
theorem OkH.ext {B h h' : Heap} {X : Addr → Prop} (k : OkH B h X) (e : Ext h h') : OkH B h' X := ⟨k.base.trans e, fun a x => let ⟨o, g⟩ := k.live a x; ⟨o, e a o g⟩, k.off⟩
theorem OkH.fresh {B h : Heap} {X : Addr → Prop} (k : OkH B h X) {a : Addr} (e : h.get? a = none) : ¬ X a := fun x => by obtain ⟨o, g⟩ := k.live a x; rw [e] at g; cases g
theorem OkH.freshSize {B h : Heap} {X : Addr → Prop} (k : OkH B h X) : ¬ X h.objs.size := fun x => Nat.lt_irrefl _ (k.lt _ x)
theorem OkH.inBase {B h : Heap} {X : Addr → Prop} (k : OkH B h X) {a : Addr} {o : Obj} (e : B.get? a = some o) : ¬ X a := fun x => by rw [k.off a x] at e; cases e
structure LN (env : Env) (h : Heap) (x : Str) (v : Value) : Prop where
  ld : ∀ (M : Model) (A : Around) (Q : Value → Shared → Prop) (E : Value → Shared → Prop) (s : Shared), Ext h s.heap → Q v s → wpAny M A (loadName env x) Q E s
  cell : env.kindOf x = some .cell → env.cells.Pairwise (fun p q => p.2 ≠ q.2) ∧ ∃ c, env.cells.lookup x = some c ∧ h.IsCell c (some v)
theorem LN.ext {env : Env} {h h' : Heap} {x : Str} {v : Value} (l : LN env h x v) (k : Ext h h') : LN env h' x v :=
  ⟨fun M A Q E s e q => l.ld M A Q E s (k.trans e) q, fun a => let ⟨p, c, e, i⟩ := l.cell a; ⟨p, c, e, i.keeps k⟩⟩
noncomputable def Nm (env : Env) (h : Heap) (X : Addr → Prop) (nu : List (Str × Res)) : Prop := ∀ p ∈ nu, ∃ v, LN env h p.1 v ∧ RV h X v p.2 ∧ (env.kindOf p.1 = some .cell → ∀ c, env.cells.lookup p.1 = some c → X c)
theorem Nm.ext {env : Env} {h h' : Heap} {X : Addr → Prop} {nu : List (Str × Res)} (l : Nm env h X nu) (k : Ext h h') : Nm env h' X nu := fun p hp => let ⟨v, a, b, c⟩ := l p hp; ⟨v, a.ext k, b.ext k, c⟩
end Mine
end
section
open PySem PySem.W PyProof.Rows PySem.Calls
namespace Mine
section
variable (prog : Program) (w : World) (B : Heap)
structure OP (n : Nat) (f : List Value → Sem Value) (rs : List Res) (r : Res) : Prop where
  run : ∀ (A : Around) (s : Shared) (X : Addr → Prop) (Q : Value → Shared → Prop) (E : Value → Shared → Prop) (vs : List Value), Room n A → OkH B s.heap X → RVs s.heap X vs rs →
    (∀ v h' tk', Ext s.heap h' → RV h' X v r → Q v { s with heap := h', toks := tk' }) → wpAny (model prog w) A (f vs) Q E s
structure EV (n : Nat) (env : Env) (nu : List (Str × Res)) (e : Expr) (r : Res) : Prop where
  run : ∀ (A : Around) (s : Shared) (X : Addr → Prop) (Q : Value → Shared → Prop) (E : Value → Shared → Prop), Room n A → OkH B s.heap X → Nm env s.heap X nu →
    (∀ v h' tk', Ext s.heap h' → RV h' X v r → Q v { s with heap := h', toks := tk' }) → wpAny (model prog w) A (eval e env) Q E s
structure TV (n : Nat) (env : Env) (nu : List (Str × Res)) (e : Expr) (b : Bool) : Prop where
  run : ∀ (A : Around) (s : Shared) (X : Addr → Prop) (Q : Bool → Shared → Prop) (E : Value → Shared → Prop), Room n A → OkH B s.heap X → Nm env s.heap X nu →
    (∀ h' tk', Ext s.heap h' → Q b { s with heap := h', toks := tk' }) → wpAny (model prog w) A (isTrue e env (eval e env)) Q E s
structure TR (n : Nat) (r : Res) (b : Bool) : Prop where
  run : ∀ (A : Around) (s : Shared) (X : Addr → Prop) (Q : Bool → Shared → Prop) (E : Value → Shared → Prop) (v : Value), Room n A → OkH B s.heap X → RV s.heap X v r →
    (∀ h' tk', Ext s.heap h' → Q b { s with heap := h', toks := tk' }) → wpAny (model prog w) A (truthy v) Q E s
inductive EVs (n : Nat) (env : Env) (nu : List (Str × Res)) : List Expr → List Res → Prop
  | nil : EVs n env nu [] []
  | cons {e : Expr} {es : List Expr} {r : Res} {rs : List Res} : EV prog w B n env nu e r → EVs n env nu es rs → EVs n env nu (e :: es) (r :: rs)
end
section
variable {prog : Program} {w : World} {B : Heap} {n k : Nat} {env : Env} {nu nu' : List (Str × Res)} {e l r t : Expr} {a b c : Res} {pos : Pos}
theorem OP.room {f : List Value → Sem Value} {rs : List Res} (h : OP prog w B n f rs a) (hk : n ≤ k) : OP prog w B k f rs a := .mk fun A s X Q E vs R => h.run A s X Q E vs (R.le hk)
theorem EV.sub (h : EV prog w B n env nu e a) (hs : ∀ h X u, RV h X u a → RV h X u b) : EV prog w B n env nu e b :=
  .mk fun A s X Q E R O N q => h.run A s X Q E R O N fun v h' tk' k y => q v h' tk' k (hs _ _ _ y)
theorem EV.name {x : Str} (hm : (x, a) ∈ nu) (hd : (x == ("__debug__" : Str)) = false := by decide +kernel) : EV prog w B n env nu (.Name x pos) a := by
  refine ⟨fun A s X Q E R O N q => ?_⟩
  obtain ⟨v, l, y, _⟩ := N _ hm
  exact wpAny_Name (l.ld _ _ _ _ _ (Ext.refl _) (q v _ _ (Ext.refl _) y)) hd
theorem EV.cint {i : Int} {kd : Nat} : EV prog w B n env nu (.Constant (.int i) kd pos) (.d (.int i)) :=
  .mk fun _ _ _ _ _ _ _ _ q => wpAny_Constant_int (q _ _ _ (Ext.refl _) (.int _ _))
theorem EV.cstr {x : Str} {kd : Nat} : EV prog w B n env nu (.Constant (.str x) kd pos) (.d (.str x)) :=
  .mk fun _ _ _ _ _ _ _ _ q => wpAny_Constant_str (q _ _ _ (Ext.refl _) (.str _ _))
theorem EV.cbool {b : Bool} {kd : Nat} : EV prog w B n env nu (.Constant (.bool b) kd pos) (.d (.bool b)) :=
  .mk fun _ _ _ _ _ _ _ _ q => wpAny_Constant_bool (q _ _ _ (Ext.refl _) (.bool _))
theorem EV.cnone {kd : Nat} : EV prog w B n env nu (.Constant .none kd pos) (.d .none) :=
  .mk fun _ _ _ _ _ _ _ _ q => wpAny_Constant_none (q _ _ _ (Ext.refl _) .none)
noncomputable def bin (op : Operator) : List Value → Sem Value
  | [a, b] => binaryOp op a b
  | _ => unsupported ""
noncomputable def cmp (op : CmpOp) : List Value → Sem Value
  | [a, b] => compareOp op a b
  | _ => unsupported ""
noncomputable def una (op : UnaryOp) : List Value → Sem Value
  | [a] => unaryOp op a
  | _ => unsupported ""
theorem EV.two {f : List Value → Sem Value} {env : Env} (hl : EV prog w B n env nu l a) (hr : EV prog w B n env nu r b) (ho : OP prog w B n f [a, b] c) (A : Around) (s : Shared) (X : Addr → Prop) (Q : Value → Shared → Prop) (E : Value → Shared → Prop)
    (R : Room n A) (O : OkH B s.heap X) (N : Nm env s.heap X nu) (q : ∀ v h' tk', Ext s.heap h' → RV h' X v c → Q v { s with heap := h', toks := tk' }) :
    wpAny (model prog w) A (eval l env) (fun u s₁ => wpAny (model prog w) A (eval r env) (fun v s₂ => wpAny (model prog w) A (f [u, v]) Q E s₂) E s₁) E s := by
  refine hl.run A s X _ E R O N fun u h₁ t₁ k₁ y₁ => ?_
  refine hr.run A _ X _ E R (O.ext k₁) (N.ext k₁) fun v h₂ t₂ k₂ y₂ => ?_
  refine ho.run A _ X Q E [u, v] R ((O.ext k₁).ext k₂) (.cons (y₁.ext k₂) (.cons y₂ .nil)) fun z h₃ t₃ k₃ y₃ => ?_
  exact q z h₃ t₃ ((k₁.trans k₂).trans k₃) y₃
theorem EV.binop {op : Operator} (hl : EV prog w B n env nu l a) (hr : EV prog w B n env nu r b) (ho : OP prog w B n (bin op) [a, b] c) : EV prog w B n env nu (.BinOp l op r pos) c :=
  .mk fun A s X Q E R O N q => wpAny_BinOp (EV.two hl hr ho A s X Q E R O N q)
theorem EV.cmp {op : CmpOp} (hl : EV prog w B n env nu l a) (hr : EV prog w B n env nu r b) (ho : OP prog w B n (cmp op) [a, b] c) (hm : behindInMarks op r = false) :
    EV prog w B n env nu (.Compare l [op] [r] pos) c :=
  .mk fun A s X Q E R O N q => wpAny_Compare1 (EV.two hl hr ho A s X Q E R O N q) hm
theorem TV.cmp {op : CmpOp} {t : Bool} (hl : EV prog w B n env nu l a) (hr : EV prog w B n env nu r b) (ho : OP prog w B n (Mine.cmp op) [a, b] (.d (.bool t))) (hm : behindInMarks op r = false) :
    TV prog w B n env nu (.Compare l [op] [r] pos) t := by
  refine ⟨fun A s X Q E R O N q => ?_⟩
  refine wpAny_isTrue_Compare1 (EV.two hl hr ho A s X _ E R O N fun v h' tk' k y => ?_) hm
  cases y
  exact wpAny_truthy_bool (q h' tk' k)
theorem EV.unary {op : UnaryOp} (hl : EV prog w B n env nu l a) (ho : OP prog w B n (una op) [a] c) : EV prog w B n env nu (.UnaryOp op l pos) c := by
  refine ⟨fun A s X Q E R O N q => ?_⟩
  refine wpAny_UnaryOp (hl.run A s X _ E R O N fun u h₁ t₁ k₁ y₁ => ?_)
  exact ho.run A _ X Q E [u] R (O.ext k₁) (.cons y₁ .nil) fun z h₃ t₃ k₃ y₃ => q z h₃ t₃ (k₁.trans k₃) y₃
theorem TV.plain {t : Bool} (hl : EV prog w B n env nu e a) (ht : TR prog w B n a t) (he : ∀ whole, isTrue e env whole = (do let v ← whole; standAt e.pos; holding [v] (truthy v))) : TV prog w B n env nu e t := by
  refine ⟨fun A s X Q E R O N q => ?_⟩
  refine isTrue_plain (hl.run A s X _ E R O N fun u h₁ t₁ k₁ y₁ => ?_) (he _)
  exact ht.run A _ X Q E u R (O.ext k₁) y₁ fun h' tk' k => q h' tk' (k₁.trans k)
theorem TV.not {t : Bool} (h : TV prog w B n env nu e t) : TV prog w B n env nu (.UnaryOp .Not e pos) (!t) := by
  refine ⟨fun A s X Q E R O N q => ?_⟩
  exact wpAny_isTrue_Not (h.run A s X _ E R O N fun h' tk' k => q h' tk' k)
theorem TV.and2 {e₁ e₂ : Expr} {t₁ t₂ : Bool} (h₁ : TV prog w B n env nu e₁ t₁) (h₂ : t₁ = true → TV prog w B n env nu e₂ t₂) : TV prog w B n env nu (.BoolOp .And [e₁, e₂] pos) (t₁ && t₂) := by
  refine ⟨fun A s X Q E R O N q => ?_⟩
  refine isTrue_and (h₁.run A s X _ E R O N fun h' tk' k => ?_)
  cases t₁ with
  | false => exact q h' tk' k
  | true =>
    refine isTrue_and ((h₂ rfl).run A _ X _ E R (O.ext k) (N.ext k) fun h'' tk'' k' => ?_)
    cases t₂ with
    | false => exact q h'' tk'' (k.trans k')
    | true => exact isTrue_and_nil (q h'' tk'' (k.trans k'))
theorem TV.or2 {e₁ e₂ : Expr} {t₁ t₂ : Bool} (h₁ : TV prog w B n env nu e₁ t₁) (h₂ : t₁ = false → TV prog w B n env nu e₂ t₂) : TV prog w B n env nu (.BoolOp .Or [e₁, e₂] pos) (t₁ || t₂) := by
  refine ⟨fun A s X Q E R O N q => ?_⟩
  refine isTrue_or (h₁.run A s X _ E R O N fun h' tk' k => ?_)
  cases t₁ with
  | true => exact q h' tk' k
  | false =>
    refine isTrue_or ((h₂ rfl).run A _ X _ E R (O.ext k) (N.ext k) fun h'' tk'' k' => ?_)
    cases t₂ with
    | true => exact q h'' tk'' (k.trans k')
    | false => exact isTrue_or_nil (q h'' tk'' (k.trans k'))
theorem TV.or3 {e₁ e₂ e₃ : Expr} {t₁ t₂ t₃ : Bool} (h₁ : TV prog w B n env nu e₁ t₁) (h₂ : t₁ = false → TV prog w B n env nu e₂ t₂) (h₃ : t₁ = false → t₂ = false → TV prog w B n env nu e₃ t₃) :
    TV prog w B n env nu (.BoolOp .Or [e₁, e₂, e₃] pos) (t₁ || t₂ || t₃) := by
  refine ⟨fun A s X Q E R O N q => ?_⟩
  refine isTrue_or (h₁.run A s X _ E R O N fun h' tk' k => ?_)
  cases t₁ with
  | true => exact q h' tk' k
  | false =>
    refine isTrue_or ((h₂ rfl).run A _ X _ E R (O.ext k) (N.ext k) fun h'' tk'' k' => ?_)
    cases t₂ with
    | true => exact q h'' tk'' (k.trans k')
    | false =>
      refine isTrue_or ((h₃ rfl rfl).run A _ X _ E R ((O.ext k).ext k') ((N.ext k).ext k') fun g₃ tk₃ k₃ => ?_)
      cases t₃ with
      | true => exact q g₃ tk₃ ((k.trans k').trans k₃)
      | false => exact isTrue_or_nil (q g₃ tk₃ ((k.trans k').trans k₃))
theorem EV.ifexp {t : Bool} {ea eb : Expr} (h : TV prog w B n env nu e t) (ha : t = true → EV prog w B n env nu ea a) (hb : t = false → EV prog w B n env nu eb a) : EV prog w B n env nu (.IfExp e ea eb pos) a := by
  refine ⟨fun A s X Q E R O N q => ?_⟩
  refine wpAny_IfExp (h.run A s X _ E R O N fun h' tk' k => ?_)
  cases t with
  | true => exact (ha rfl).run A _ X _ E R (O.ext k) (N.ext k) fun v h₂ t₂ k₂ y => q v h₂ t₂ (k.trans k₂) y
  | false => exact (hb rfl).run A _ X _ E R (O.ext k) (N.ext k) fun v h₂ t₂ k₂ y => q v h₂ t₂ (k.trans k₂) y
theorem EVs.spliced {es : List Expr} {rs : List Res} (h : EVs prog w B n env nu es rs) (he : ∀ e ∈ es, isStarred e = false) : ∀ (A : Around) (s : Shared) (X : Addr → Prop) (Q : List Value → Shared → Prop) (E : Value → Shared → Prop), Room n A → OkH B s.heap X → Nm env s.heap X nu →
    (∀ vs h' tk', Ext s.heap h' → RVs h' X vs rs → Q vs { s with heap := h', toks := tk' }) → wpAny (model prog w) A (spliced (backTo pos (starEach es env))) Q E s := by
  induction h with
  | nil => intro A s X Q E R O N q; exact args_nil (q _ _ _ (Ext.refl _) .nil)
  | @cons e₀ es₀ r₀ rs₀ h₁ h₂ ih =>
    intro A s X Q E R O N q
    have hs : starEach (e₀ :: es₀) env = (false, eval e₀ env) :: starEach es₀ env := by
      have := he e₀ (.head _)
      cases e₀ <;> first | rfl | exact Bool.noConfusion (show true = false from this)
    refine args_cons (h₁.run A s X _ E R O N fun u h₁ t₁ k₁ y₁ => ?_) hs
    refine ih (fun e m => he e (.tail _ m)) A _ X _ E R (O.ext k₁) (N.ext k₁) fun vs h₂ t₂ k₂ y₂ => ?_
    exact q _ _ _ (k₁.trans k₂) (.cons (y₁.ext k₂) y₂)
end
section
variable {prog : Program} {w : World} {B : Heap} {n : Nat}
theorem IsList.push_new (h : Heap) (vs : List Value) : (h.push { cls := .type "list", data := .seq vs.toArray }).PlainList h.objs.size vs.toArray := ⟨0, Heap.get?_push_size _ rfl⟩
theorem IsTup.push_new (h : Heap) (vs : List Value) : PTup (h.push { cls := .type "tuple", data := .seq vs.toArray }) h.objs.size vs.toArray := ⟨0, Heap.get?_push_size _ rfl⟩
theorem RVs.length {h : Heap} {X : Addr → Prop} {vs : List Value} {rs : List Res} (x : RVs h X vs rs) : vs.length = rs.length := by
  induction x with
  | nil => rfl
  | cons _ _ ih => simp [ih]
theorem RVs.all {h : Heap} {X : Addr → Prop} {vs : List Value} {ds : List PyData} (x : RVs h X vs (ds.map .d)) : RdAll h X vs ds := by
  induction ds generalizing vs with
  | nil => cases x; exact .nil
  | cons d ds ih => cases x with | cons a r => exact .cons a (ih r)
variable {env : Env} {nu : List (Str × Res)} {es : List Expr} {rs : List Res} {ds : List PyData} {us : List Value} {pos : Pos} {kd : Nat}
noncomputable def noStar (es : List Expr) : Bool := es.all fun e => !isStarred e
theorem noStar_all {es : List Expr} (h : noStar es = true) : ∀ e ∈ es, isStarred e = false := fun e m => by simpa using List.all_eq_true.mp h e m
noncomputable def fewE (es : List Expr) : Bool := Nat.ble es.length 1000
theorem fewE_le {es : List Expr} (h : fewE es = true) : es.length ≤ sizeLine := by
  have := Nat.le_of_ble_eq_true h
  rw [sizeLine_eq]; omega
theorem EVs.length {prog : Program} {w : World} {B : Heap} {n : Nat} {env : Env} {nu : List (Str × Res)} {es : List Expr} {rs : List Res} (h : EVs prog w B n env nu es rs) : es.length = rs.length := by
  induction h with
  | nil => rfl
  | cons _ _ ih => simp [ih]
theorem EV.list (h : EVs prog w B n env nu es (ds.map .d)) (he : noStar es = true) (hl : fewE es = true) : EV prog w B n env nu (.List es pos) (.d (.list ds)) := by
  refine ⟨fun A s X Q E R O N q => ?_⟩
  refine wpAny_List (h.spliced (noStar_all he) A s X _ E R O N fun vs h' tk' k y => ⟨by rw [y.length, ← h.length]; exact fewE_le hl, q _ _ _ (k.pushR _) ?_⟩)
  have O' := O.ext k
  exact Rd.of_list O'.freshSize (IsList.push_new _ _) (RdAll.ext y.all (Ext.push _ _))
theorem EV.tuple (h : EVs prog w B n env nu es (ds.map .d)) (he : noStar es = true) (hl : fewE es = true) : EV prog w B n env nu (.Tuple es kd pos) (.d (.tuple ds)) := by
  refine ⟨fun A s X Q E R O N q => ?_⟩
  refine wpAny_Tuple (h.spliced (noStar_all he) A s X _ E R O N fun vs h' tk' k y => ⟨by rw [y.length, ← h.length]; exact fewE_le hl, q _ _ _ (k.pushR _) ?_⟩)
  have O' := O.ext k
  exact Rd.of_tuple O'.freshSize (IsTup.push_new _ _) (RdAll.ext y.all (Ext.push _ _))
end
end Mine
end
section
open PySem PySem.W PyProof.Rows PySem.Calls
namespace Mine
section
variable {prog : Program} {w : World} {B : Heap} {n : Nat} {a b c : Res}
theorem OP.of1 {f : List Value → Sem Value}
    (h : ∀ (A : Around) (s : Shared) (X : Addr → Prop) (Q : Value → Shared → Prop) (E : Value → Shared → Prop) (u : Value), Room n A → OkH B s.heap X → RV s.heap X u a →
      (∀ v h' tk', Ext s.heap h' → RV h' X v c → Q v { s with heap := h', toks := tk' }) → wpAny (model prog w) A (f [u]) Q E s) : OP prog w B n f [a] c := by
  refine ⟨fun A s X Q E vs R O y q => ?_⟩
  cases y with
  | cons y1 y => cases y; exact h A s X Q E _ R O y1 q
theorem OP.of2 {f : List Value → Sem Value}
    (h : ∀ (A : Around) (s : Shared) (X : Addr → Prop) (Q : Value → Shared → Prop) (E : Value → Shared → Prop) (u v : Value), Room n A → OkH B s.heap X → RV s.heap X u a → RV s.heap X v b →
      (∀ v h' tk', Ext s.heap h' → RV h' X v c → Q v { s with heap := h', toks := tk' }) → wpAny (model prog w) A (f [u, v]) Q E s) : OP prog w B n f [a, b] c := by
  refine ⟨fun A s X Q E vs R O y q => ?_⟩
  cases y with
  | cons y1 y => cases y with
    | cons y2 y => cases y; exact h A s X Q E _ _ R O y1 y2 q
-- ints
variable {i j : Int} {x y : Str} {ds es : List PyData} {d e : PyData}
theorem OP.iadd : OP prog w B n (bin .Add) [.d (.int i), .d (.int j)] (.d (.int (i + j))) :=
  OP.of2 fun A s X Q E u v R O y z q => by cases y; cases z; exact add_int (q _ _ _ (Ext.refl _) (.int _ _))
theorem OP.isub : OP prog w B n (bin .Sub) [.d (.int i), .d (.int j)] (.d (.int (i - j))) :=
  OP.of2 fun A s X Q E u v R O y z q => by cases y; cases z; exact sub_int (q _ _ _ (Ext.refl _) (.int _ _))
theorem OP.imod (hj : j ≠ 0) : OP prog w B n (bin .Mod) [.d (.int i), .d (.int j)] (.d (.int (i.fmod j))) :=
  OP.of2 fun A s X Q E u v R O y z q => by cases y; cases z; exact mod_int' hj (q _ _ _ (Ext.refl _) (.int _ _))
theorem OP.idiv (hj : j ≠ 0) (hs : j.natAbs < 1073741824) : OP prog w B n (bin .FloorDiv) [.d (.int i), .d (.int j)] (.d (.int (i.fdiv j))) :=
  OP.of2 fun A s X Q E u v R O y z q => by cases y; cases z; exact floordiv_int hj (q _ _ _ (Ext.refl _) (.int _ _)) (.inl (PyProof.noPylong_small hs))
theorem OP.ipow (h0 : 0 ≤ j) (h1 : j ≤ 1000000) (ha : i.natAbs < 2 ^ 64) : OP prog w B n (bin .Pow) [.d (.int i), .d (.int j)] (.d (.int (i ^ j.toNat))) :=
  OP.of2 fun A s X Q E u v R O y z q => by cases y; cases z; exact pow_int_small h0 h1 ha (q _ _ _ (Ext.refl _) (.int _ _))
theorem OP.iand : OP prog w B n (bin .BitAnd) [.d (.int i), .d (.int j)] (.d (.int (Builtin.bitAnd i j))) :=
  OP.of2 fun A s X Q E u v R O y z q => by cases y; cases z; exact and_int (q _ _ _ (Ext.refl _) (.int _ _))
theorem OP.imul (hm : IntMulOk i j) : OP prog w B n (bin .Mult) [.d (.int i), .d (.int j)] (.d (.int (i * j))) :=
  OP.of2 fun A s X Q E u v R O y z q => by cases y; cases z; exact mul_int (q _ _ _ (Ext.refl _) (.int _ _)) hm
theorem OP.ineg : OP prog w B n (una .USub) [.d (.int i)] (.d (.int (-i))) :=
  OP.of1 fun A s X Q E u R O y q => by cases y; exact neg_int (q _ _ _ (Ext.refl _) (.int _ _))
theorem OP.ieq : OP prog w B n (cmp .Eq) [.d (.int i), .d (.int j)] (.d (.bool (i == j))) :=
  OP.of2 fun A s X Q E u v R O y z q => by cases y; cases z; exact eq_int (q _ _ _ (Ext.refl _) (.bool _))
theorem OP.ine : OP prog w B n (cmp .NotEq) [.d (.int i), .d (.int j)] (.d (.bool (i != j))) :=
  OP.of2 fun A s X Q E u v R O y z q => by cases y; cases z; exact ne_int (q _ _ _ (Ext.refl _) (.bool _))
theorem OP.ilt : OP prog w B n (cmp .Lt) [.d (.int i), .d (.int j)] (.d (.bool (decide (i < j)))) :=
  OP.of2 fun A s X Q E u v R O y z q => by cases y; cases z; exact lt_int (q _ _ _ (Ext.refl _) (.bool _))
theorem OP.igt : OP prog w B n (cmp .Gt) [.d (.int i), .d (.int j)] (.d (.bool (decide (j < i)))) :=
  OP.of2 fun A s X Q E u v R O y z q => by cases y; cases z; exact gt_int (q _ _ _ (Ext.refl _) (.bool _))
-- texts
theorem OP.sadd (hs : x.length + y.length ≤ sizeLine) : OP prog w B n (bin .Add) [.d (.str x), .d (.str y)] (.d (.str (x ++ y))) :=
  OP.of2 fun A s X Q E u v R O y z q => by cases y; cases z; exact add_str (fun t' tk => q _ _ _ (Ext.refl _) (.str _ _)) hs
theorem OP.seq : OP prog w B n (cmp .Eq) [.d (.str x), .d (.str y)] (.d (.bool (x == y))) :=
  OP.of2 fun A s X Q E u v R O y z q => by cases y; cases z; exact PyProof.Rows.eq_str (q _ _ _ (Ext.refl _) (.bool _))
theorem OP.sne : OP prog w B n (cmp .NotEq) [.d (.str x), .d (.str y)] (.d (.bool (x != y))) :=
  OP.of2 fun A s X Q E u v R O y z q => by cases y; cases z; exact PyProof.Rows.ne_str (q _ _ _ (Ext.refl _) (.bool _))
theorem OP.snotin : OP prog w B n (cmp .NotIn) [.d (.str y), .d (.str x)] (.d (.bool (!(!(Builtin.Str.occurrences x y 0 x.length 1).isEmpty)))) :=
  OP.of2 fun A s X Q E u v R O y z q => by cases y; cases z; exact PyProof.Rows.notIn_str (q _ _ _ (Ext.refl _) (.bool _))
-- data
theorem OP.eq (h1 : SeqAt.shaped d = true) (h2 : SeqAt.shaped e = true) : OP prog w B n (cmp .Eq) [.d d, .d e] (.d (.bool (PyData.eqv d e))) :=
  OP.of2 fun A s X Q E u v R O y z q => by
    obtain ⟨_, r1⟩ := Rd.reads y; obtain ⟨_, r2⟩ := Rd.reads z
    exact eq_dataH r1 r2 h1 h2 R.unitsLt (q _ _ _ (Ext.refl _) (.bool _))
theorem OP.ne (h1 : SeqAt.shaped d = true) (h2 : SeqAt.shaped e = true) : OP prog w B n (cmp .NotEq) [.d d, .d e] (.d (.bool (!PyData.eqv d e))) :=
  OP.of2 fun A s X Q E u v R O y z q => by
    obtain ⟨_, r1⟩ := Rd.reads y; obtain ⟨_, r2⟩ := Rd.reads z
    exact ne_dataH r1 r2 h1 h2 R.unitsLt (q _ _ _ (Ext.refl _) (.bool _))
theorem OP.notin (h1 : PyData.canLayAll0 ds = true) (h2 : d.canLay0 = true) (hd : d.depth ≤ 60) : OP prog w B n (cmp .NotIn) [.d d, .d (.list ds)] (.d (.bool (!ds.any fun y => PyData.eqv y d))) :=
  OP.of2 fun A s X Q E u v R O y z q => by
    obtain ⟨_, r1⟩ := Rd.reads y; obtain ⟨_, r2⟩ := Rd.reads z
    exact SeqAt.notIn_list_reads r2 r1 h1 h2 (by have := R.unitsLt; have := Nat.min_le_right (PyData.depthAll ds) d.depth; omega) (q _ _ _ (Ext.refl _) (.bool _))
theorem OP.isNone_none : OP prog w B n (cmp .Is) [.d .none, .d .none] (.d (.bool true)) :=
  OP.of2 fun A s X Q E u v R O y z q => by cases y; cases z; exact is_none (q _ _ _ (Ext.refl _) (.bool _))
theorem OP.isNone_str : OP prog w B n (cmp .Is) [.d (.str x), .d .none] (.d (.bool false)) :=
  OP.of2 fun A s X Q E u v R O y z q => by cases y; cases z; exact is_none (q _ _ _ (Ext.refl _) (.bool _))
theorem OP.ladd (hs : ds.length + es.length ≤ sizeLine) : OP prog w B n (bin .Add) [.d (.list ds), .d (.list es)] (.d (.list (ds ++ es))) :=
  OP.of2 fun A s X Q E u v R O y z q => by
    obtain ⟨l, vs, rfl, nx, hl, ra⟩ := Rd.list_inv y
    obtain ⟨b, ws, rfl, nb, hb, rb⟩ := Rd.list_inv z
    obtain ⟨⟨cls, dd, data, sl⟩, ho, hc, n, hd⟩ := id hl
    obtain ⟨⟨cls2, dd2, data2, sl2⟩, ho2, hc2, n2, hd2⟩ := id hb
    simp only at hc hd hc2 hd2
    subst hc hd hc2 hd2
    have e : vs.toArray ++ ws.toArray = (vs ++ ws).toArray := by simp
    refine concat_meets ⟨_, ho, rfl⟩ ⟨_, ho2, rfl⟩ noFill_list_add seq_list_add PySem.F.slot_list_add PySem.F.entry_list_add (PySem.F.args_list_add_2 _ _) (list_addW l b vs.toArray ws.toArray n n2 dd dd2 sl sl2 (by simpa [ra.length, rb.length] using hs)) ⟨ho, ho2, ?_⟩
    rw [e]
    exact q _ _ _ (Ext.push _ _) (Rd.of_list O.freshSize (IsList.push_new _ _) ((ra.append rb).ext (Ext.push _ _)))
-- truth
theorem TR.tbool {t : Bool} : TR prog w B n (.d (.bool t)) t := .mk fun A s X Q E v R O y q => by cases y; exact wpAny_truthy_bool (q _ _ (Ext.refl _))
theorem TR.tstr (hs : x.length ≤ sizeLine) : TR prog w B n (.d (.str x)) ((x.length : Int) != 0) := .mk fun A s X Q E v R O y q => by
  cases y
  exact P.truthy_str (by rw [sizeLine_eq] at hs; omega) (q _ _ (Ext.refl _))
theorem TR.tlist (hs : ds.length ≤ sizeLine) : TR prog w B n (.d (.list ds)) (!ds.isEmpty) := .mk fun A s X Q E v R O y q => by
  obtain ⟨l, vs, rfl, nx, hl, ra⟩ := Rd.list_inv y
  have hn := ra.length
  have e : (!vs.toArray.isEmpty) = !ds.isEmpty := by
    cases vs <;> cases ds <;> simp_all
  refine wpAny_truthy_list hl (by rw [sizeLine_eq] at hs; simp only [List.size_toArray]; omega) ?_
  rw [e]; exact q _ _ (Ext.refl _)
theorem TR.ttuple (hs : ds.length ≤ sizeLine) : TR prog w B n (.d (.tuple ds)) (!ds.isEmpty) := .mk fun A s X Q E v R O y q => by
  obtain ⟨l, vs, rfl, nx, hl, ra⟩ := Rd.tuple_inv y
  have hn := ra.length
  have e : (!vs.toArray.isEmpty) = !ds.isEmpty := by
    cases vs <;> cases ds <;> simp_all
  refine truthy_tuple hl (by rw [sizeLine_eq] at hs; simp only [List.size_toArray]; omega) ?_
  rw [e]; exact q _ _ (Ext.refl _)
theorem TR.ted : TR prog w B n .ed false := .mk fun A s X Q E v R O y q => by
  obtain ⟨a, rfl, nx, hm, g⟩ := y
  have D : s.heap.DictOf (strKind prog w) a [] := by
    obtain ⟨o, e, z⟩ := Heap.dictOf_iff.mp (Heap.DictOf.new (knd := strKind prog w) s.heap)
    rw [Heap.get?_push_size _ rfl] at e
    cases e
    exact Heap.dictOf_iff.mpr ⟨_, g, z⟩
  exact wpAny_truthy_dict hm D (by decide) (q _ _ (Ext.refl _))
-- items
noncomputable def item : List Value → Sem Value
  | [o, i] => getItem o i
  | _ => unsupported ""
theorem OP.litem (h0 : 0 ≤ i) (hi : i < 2 ^ 63) (hx : ds[i.toNat]? = some d) : OP prog w B n item [.d (.list ds), .d (.int i)] (.d d) :=
  OP.of2 fun A s X Q E u v R O y z q => by
    cases z
    obtain ⟨l, vs, rfl, nx, hl, ra⟩ := Rd.list_inv y
    obtain ⟨v, hv, rv⟩ := ra.get hx
    exact wpAny_getItem_list hl h0 hi (by simpa using hv) (q _ _ _ (Ext.refl _) rv)
theorem OP.litemV {us : List Value} {v : Value} (h0 : 0 ≤ i) (hi : i < 2 ^ 63) (hx : us[i.toNat]? = some v) : OP prog w B n item [.lv us, .d (.int i)] (.v v) :=
  OP.of2 fun A s X Q E u v R O y z q => by
    cases z
    obtain ⟨l, rfl, nx, hl⟩ := y
    exact wpAny_getItem_list hl h0 hi (by simpa using hx) (q _ _ _ (Ext.refl _) rfl)
theorem OP.litemNeg (h0 : i < 0) (h1 : -(ds.length : Int) ≤ i) (hi : -(2 ^ 63) ≤ i) (hx : ds[(i + ds.length).toNat]? = some d) : OP prog w B n item [.d (.list ds), .d (.int i)] (.d d) :=
  OP.of2 fun A s X Q E u v R O y z q => by
    cases z
    obtain ⟨l, vs, rfl, nx, hl, ra⟩ := Rd.list_inv y
    have hn := ra.length
    obtain ⟨v, hv, rv⟩ := ra.get hx
    exact wpAny_getItem_list_neg hl h0 (by simp only [List.size_toArray]; omega) hi (by simpa [hn] using hv) (q _ _ _ (Ext.refl _) rv)
theorem OP.titem (h0 : 0 ≤ i) (hi : i < 2 ^ 63) (hx : ds[i.toNat]? = some d) : OP prog w B n item [.d (.tuple ds), .d (.int i)] (.d d) :=
  OP.of2 fun A s X Q E u v R O y z q => by
    cases z
    obtain ⟨l, vs, rfl, nx, hl, ra⟩ := Rd.tuple_inv y
    obtain ⟨v, hv, rv⟩ := ra.get hx
    have hlt : i.toNat < vs.length := (List.getElem?_eq_some_iff.mp hv).1
    refine getItem_tuple hl (by omega) hi (j := i.toNat) ?_ (by simpa using hv) (q _ _ _ (Ext.refl _) rv)
    unfold seqIndex?
    have h1 : ¬ i < 0 := by omega
    simp only [List.size_toArray]
    simp [h1]
    omega
theorem OP.sitem {ch : Nat} (h0 : 0 ≤ i) (hi : i < 2 ^ 63) (hx : x.cps[i.toNat]? = some ch) : OP prog w B n item [.d (.str x), .d (.int i)] (.d (.str ⟨#[ch]⟩)) :=
  OP.of2 fun A s X Q E u v R O y z q => by
    cases z
    cases y
    refine PyProof.Rows.getItem_str (c := ch) (by simp; omega) ?_ (q _ _ _ (Ext.refl _) (.str _ _))
    have hlt : i.toNat < x.cps.size := (Array.getElem?_eq_some_iff.mp hx).1
    unfold seqIndex?
    have h1 : ¬ i < 0 := by omega
    have h2 : ¬ ((x.length : Int) ≤ i) := by show ¬ ((x.cps.size : Int) ≤ i); omega
    have h3 : i < (x.length : Int) := by omega
    simp [h1, h0, h3, hx]
end
section
variable {prog : Program} {w : World} {B : Heap} {n : Nat} {env : Env} {nu : List (Str × Res)} {o i e : Expr} {a b c : Res} {pos p : Pos}
noncomputable def plainIndex (i : Expr) : Bool := match i with
  | .Slice .. => false
  | _ => true
theorem getitemInPython_data {A : Around} {s : Shared} {E : Value → Shared → Prop} {v : Value} {T id : String} {Q : Bool → Shared → Prop} (hT : s.TypeIs v T) (hl : typeLookup (.type T) "__getitem__" = pure (some (.builtin id))) (q : Q false s) :
    wpAny (model prog w) A (getitemInPython v) Q E s := by
  rw [getitemInPython_of_ne hT.not_modules]
  exact wpAny_bind (wpAny_specialOf hT hl (wpAny_pure q))
noncomputable def HasItems (r : Res) : Prop := ∀ (h : Heap) (X : Addr → Prop) (u : Value), RV h X u r → ∃ T id, (∀ s : Shared, s.heap = h → s.TypeIs u T) ∧ typeLookup (.type T) "__getitem__" = pure (some (.builtin id))
theorem HasItems.list {ds : List PyData} : HasItems (.d (.list ds)) := fun h X u y => by
  obtain ⟨l, vs, rfl, nx, hl, ra⟩ := Rd.list_inv y
  exact ⟨"list", _, fun s e => by subst e; exact hl.typeIs, slot_list_getitem.lookup⟩
theorem HasItems.lv {us : List Value} : HasItems (.lv us) := fun h X u y => by
  obtain ⟨l, rfl, nx, hl⟩ := y
  exact ⟨"list", _, fun s e => by subst e; exact hl.typeIs, slot_list_getitem.lookup⟩
theorem HasItems.tuple {ds : List PyData} : HasItems (.d (.tuple ds)) := fun h X u y => by
  obtain ⟨l, vs, rfl, nx, hl, ra⟩ := Rd.tuple_inv y
  exact ⟨"tuple", _, fun s e => by subst e; exact hl.typeIs, slot_tuple_getitem.lookup⟩
theorem HasItems.str {x : Str} : HasItems (.d (.str x)) := fun h X u y => by
  cases y
  exact ⟨"str", _, fun s e => typeIs_str s _ _, F.slot_str_getitem.lookup⟩
theorem EV.item (ho : EV prog w B n env nu o a) (hi : EV prog w B n env nu i b) (hop : OP prog w B n item [a, b] c) (hI : HasItems a) (hp : plainIndex i = true) : EV prog w B n env nu (.Subscript o i pos) c := by
  refine ⟨fun A s X Q E R O N q => ?_⟩
  refine Subscript_ (ho.run A s X _ E R O N fun u h₁ t₁ k₁ y₁ => hi.run A _ X _ E R (O.ext k₁) (N.ext k₁) fun v h₂ t₂ k₂ y₂ => ?_)
  obtain ⟨T, id, hT, hl⟩ := hI _ _ _ (y₁.ext k₂)
  unfold subscriptTail
  refine wpAny_bind (getitemInPython_data (hT _ rfl) hl ?_)
  have e1 : subscripted i false u v = operate [u, v] (getItem u v) := by cases i <;> first | rfl | exact Bool.noConfusion (show false = true from hp)
  rw [e1]
  refine wpAny_bind (wpAny_operate' (hop.run A _ X _ E [u, v] R ((O.ext k₁).ext k₂) (.cons (y₁.ext k₂) (.cons y₂ .nil)) fun z h₃ t₃ k₃ y₃ => ?_))
  exact wpAny_bind (wpAny_letTemporaryGo (wpAny_pure (q z h₃ t₃ ((k₁.trans k₂).trans k₃) y₃)))
end
end Mine
end
section
open PySem PySem.W PyProof.Rows PySem.Calls
namespace Mine
section
variable {prog : Program} {w : World} {B : Heap} {n : Nat} {env : Env} {nu : List (Str × Res)} {o i e e₁ e₂ : Expr} {a b c r : Res} {pos apos p : Pos} {x y : Str} {ds : List PyData}
-- slices
structure EP (prog : Program) (w : World) (B : Heap) (n : Nat) (env : Env) (nu : List (Str × Res)) (e : Option Expr) (k : Option Int) : Prop where
  run : ∀ (A : Around) (s : Shared) (X : Addr → Prop) (Q : Value → Shared → Prop) (E : Value → Shared → Prop), Room n A → OkH B s.heap X → Nm env s.heap X nu →
    (∀ t h' tk', Ext s.heap h' → Q (partValue (k.map fun i => (i, t))) { s with heap := h', toks := tk' }) → wpAny (model prog w) A (evalPart e env) Q E s
theorem EP.none : EP prog w B n env nu none none := .mk fun A s X Q E R O N q => wpAny_pure (q 0 _ _ (Ext.refl _))
theorem EP.some {k : Int} (h : EV prog w B n env nu e (.d (.int k))) : EP prog w B n env nu (some e) (some k) := by
  refine ⟨fun A s X Q E R O N q => ?_⟩
  rw [evalPart_some]
  refine h.run A s X _ E R O N fun v h' tk' k' y => ?_
  cases y
  exact q _ _ _ k'
theorem isPart_of (l : Option Int) (t : Tok) : IsPart (partValue (l.map fun i => (i, t))) l := by cases l <;> constructor
theorem EV.sliceWith {lo hi : Option Expr} {l u : Option Int} (ho : EV prog w B n env nu o a) (hl : EP prog w B n env nu lo l) (hu : EP prog w B n env nu hi u) (hI : HasItems a)
    (hop : ∀ (A : Around) (s : Shared) (X : Addr → Prop) (Q : Value → Shared → Prop) (E : Value → Shared → Prop) (v : Value) (t t' : Tok), Room n A → OkH B s.heap X → RV s.heap X v a →
      (∀ v h' tk', Ext s.heap h' → RV h' X v c → Q v { s with heap := h', toks := tk' }) →
      wpAny (model prog w) A (getItem v (.ref s.heap.objs.size)) Q E { s with heap := s.heap.push { cls := .type "slice", data := .fields #[partValue (l.map fun i => (i, t)), partValue (u.map fun i => (i, t')), .none] } }) :
    EV prog w B n env nu (.Subscript o (.Slice lo hi none p) pos) c := by
  refine ⟨fun A s X Q E R O N q => ?_⟩
  refine Subscript_ (ho.run A s X _ E R O N fun v h₁ t₁ k₁ y₁ => wpAny_Slice (hl.run A _ X _ E R (O.ext k₁) (N.ext k₁) fun tl h₂ t₂ k₂ => ?_))
  refine hu.run A _ X _ E R ((O.ext k₁).ext k₂) ((N.ext k₁).ext k₂) fun tu h₃ t₃ k₃ => ?_
  refine wpAny_pure ?_
  have y₃ := (y₁.ext k₂).ext k₃
  obtain ⟨T, id, hT, hl'⟩ := hI _ _ _ (y₃.ext (Ext.push _ { cls := .type "slice", data := .fields #[partValue (l.map fun i => (i, tl)), partValue (u.map fun i => (i, tu)), .none] }))
  unfold subscriptTail
  refine wpAny_bind (getitemInPython_data (hT _ rfl) hl' ?_)
  have e1 : ∀ i, subscripted (.Slice lo hi none p) false v i = operate [i, v] (getItem v i) := fun _ => rfl
  rw [e1]
  refine wpAny_bind (wpAny_operate' (hop A { s with heap := h₃, toks := t₃ } X _ E v tl tu R (((O.ext k₁).ext k₂).ext k₃) y₃ fun z h₄ t₄ k₄ y₄ => ?_))
  exact wpAny_bind (wpAny_letTemporaryGo (wpAny_pure (q z h₄ t₄ (((k₁.trans k₂).trans k₃).trans k₄) y₄)))
theorem EV.sslice {lo hi : Option Expr} {l u : Option Int} (ho : EV prog w B n env nu o (.d (.str x))) (hl : EP prog w B n env nu lo l) (hu : EP prog w B n env nu hi u) (hs : x.length ≤ sizeLine) :
    EV prog w B n env nu (.Subscript o (.Slice lo hi none p) pos) (.d (.str (Txt.slice x l u))) := by
  refine EV.sliceWith ho hl hu HasItems.str fun A s X Q E v t t' R O y q => ?_
  cases y
  refine wpAny_getItem_str_slice (l := l.map fun i => (i, t)) (u := u.map fun i => (i, t')) (st := Option.none) ⟨_, Heap.get?_push_size _ rfl, rfl, rfl⟩ rfl ?_
  have e1 : (l.map fun i => (i, t)).map (·.1) = l := by cases l <;> rfl
  have e2 : (u.map fun i => (i, t')).map (·.1) = u := by cases u <;> rfl
  unfold sliceMade slicePicked
  rw [e1, e2]
  exact post_val_or_str ⟨Nat.le_trans (Txt.slice_le x l u) hs, fun t' k => q _ _ _ (Ext.push _ _) (.str _ _)⟩
theorem EV.lslice {lo hi : Option Expr} {l u : Option Int} {es : List PyData} (ho : EV prog w B n env nu o (.d (.list ds))) (hl : EP prog w B n env nu lo l) (hu : EP prog w B n env nu hi u) (hs : ds.length ≤ sizeLine)
    (he : ∀ (h : Heap) (X : Addr → Prop) (vs : List Value), RdAll h X vs ds → ∃ ws : List Value, slicePick vs.toArray l u none = ws.toArray ∧ RdAll h X ws es) :
    EV prog w B n env nu (.Subscript o (.Slice lo hi none p) pos) (.d (.list es)) := by
  refine EV.sliceWith ho hl hu HasItems.list fun A s X Q E v t t' R O y q => ?_
  obtain ⟨a, vs, rfl, nx, hl, ra⟩ := Rd.list_inv y
  obtain ⟨ws, ew, rw'⟩ := he _ _ _ ra
  refine wpAny_getItem_list_slice (lo := l) (hi := u) (st := Option.none) (hl.push _) (Heap.IsSliceOf.new ..) (isPart_of _ _) (isPart_of _ _) .none (by simp) ?_ (by simpa [ra.length] using hs)
  rw [ew]
  have k2 : Ext s.heap ((s.heap.push { cls := .type "slice", data := .fields #[partValue (l.map fun i => (i, t)), partValue (u.map fun i => (i, t')), .none] }).push { cls := .type "list", data := .seq ws.toArray }) := (Ext.push _ _).pushR _
  exact q _ _ _ k2 (Rd.of_list (O.ext (Ext.push _ _)).freshSize (IsList.push_new _ _) (rw'.ext k2))
theorem EV.lsliceTo {hi : Expr} {k : Int} (ho : EV prog w B n env nu o (.d (.list ds))) (hu : EV prog w B n env nu hi (.d (.int k))) (h0 : 0 ≤ k) (hs : ds.length ≤ sizeLine) :
    EV prog w B n env nu (.Subscript o (.Slice none (some hi) none p) pos) (.d (.list (ds.take k.toNat))) := by
  refine EV.lslice ho EP.none (EP.some hu) hs fun h X vs ra => ⟨vs.take k.toNat, ?_, ra.take _⟩
  have e := slicePick_upto' vs.toArray k.toNat
  rw [Int.toNat_of_nonneg h0] at e
  simpa using e
-- calls
inductive Callee (B : Heap) : Value → Prop
  | builtin (id : String) : Callee B (.builtin id)
  | type (T : String) : Callee B (.type T)
  | fn {a : Addr} {o : Obj} {fd : FuncData} : B.get? a = some o → o.data = .func fd → Callee B (.ref a)
theorem any_starEach {es : List Expr} (he : ∀ e ∈ es, isStarred e = false) : (backTo pos (starEach es env)).any (·.1) = false := by
  induction es with
  | nil => rfl
  | cons e es ih =>
    have h1 := he e (.head _)
    have h2 := ih fun e m => he e (.tail _ m)
    have : starEach (e :: es) env = (false, eval e env) :: starEach es env := by cases e <;> first | rfl | exact Bool.noConfusion (show true = false from h1)
    rw [this]
    show (false || (backTo pos (starEach es env)).any (·.1)) = false
    simpa using h2
theorem evalArgs_of {f : Value} {es : List Expr} {rs : List Res} (h : EVs prog w B n env nu es rs) (he : ∀ e ∈ es, isStarred e = false) (A : Around) (s : Shared) (X : Addr → Prop) (Q : Args → Shared → Prop) (E : Value → Shared → Prop) (R : Room n A) (O : OkH B s.heap X) (N : Nm env s.heap X nu)
    (q : ∀ vs h' tk', Ext s.heap h' → RVs h' X vs rs → Q ⟨vs, []⟩ { s with heap := h', toks := tk' }) : wpAny (model prog w) A (evalArgs f true (backTo pos (starEach es env)) []) Q E s := by
  cases es with
  | nil => cases h; exact PySem.evalArgs_none (q [] _ _ (Ext.refl _) .nil)
  | cons e es =>
    have h1 := he e (.head _)
    have e1 : starEach (e :: es) env = (false, eval e env) :: starEach es env := by cases e <;> first | rfl | exact Bool.noConfusion (show true = false from h1)
    have h2 := EVs.spliced (pos := pos) h he A s X (fun vs s' => Q ⟨vs, []⟩ s') E R O N q
    rw [e1] at h2 ⊢
    exact evalArgs_plain h2
theorem callWith_of {f : Value} {es : List Expr} {rs : List Res} (hk : Callee B f) (h : EVs prog w B n env nu es rs) (he : ∀ e ∈ es, isStarred e = false) (ho : OP prog w B n (fun vs => call f vs) rs c) (A : Around) (s : Shared) (X : Addr → Prop) (Q : Value → Shared → Prop) (E : Value → Shared → Prop)
    (R : Room n A) (O : OkH B s.heap X) (N : Nm env s.heap X nu) (q : ∀ v h' tk', Ext s.heap h' → RV h' X v c → Q v { s with heap := h', toks := tk' }) :
    wpAny (model prog w) A (callWith pos f [] (backTo pos (starEach es env)) []) Q E s := by
  have main : ∀ (vs : List Value) (h' : Heap) (tk' : Nat), Ext s.heap h' → RVs h' X vs rs → wpAny (model prog w) A (call f vs) Q E { s with heap := h', toks := tk' } :=
    fun vs h' tk' k y => ho.run A { s with heap := h', toks := tk' } X Q E vs R (O.ext k) y fun v h₂ t₂ k₂ y₂ => q v h₂ t₂ (k.trans k₂) y₂
  cases hk with
  | builtin id => exact callWith_builtin (any_starEach he) (evalArgs_of h he A s X _ E R O N main)
  | type T => exact PyProof.Rows.callWith_type (any_starEach he) (evalArgs_of h he A s X _ E R O N main)
  | fn g d => exact callWith_function (o := _) (fd := _) (evalArgs_of h he A s X _ E R O N fun vs h' tk' k y => ⟨⟨k _ _ (O.base _ _ g), d⟩, main vs h' tk' k y⟩)
theorem EV.call {f : Str} {fp : Pos} {fv : Value} {es : List Expr} {rs : List Res} (hf : EV prog w B n env nu (.Name f fp) (.v fv)) (hk : Callee B fv) (h : EVs prog w B n env nu es rs) (ho : OP prog w B n (fun vs => call fv vs) rs c)
    (he : noStar es = true) : EV prog w B n env nu (.Call (.Name f fp) es [] pos) c := by
  refine ⟨fun A s X Q E R O N q => ?_⟩
  refine Call_ (hf.run A s X _ E R O N fun u h₁ t₁ k₁ y₁ => ?_)
  cases y₁
  exact callWith_of hk h (noStar_all he) ho A _ X Q E R (O.ext k₁) (N.ext k₁) fun v h₂ t₂ k₂ y₂ => q v h₂ t₂ (k₁.trans k₂) y₂
-- methods of texts
noncomputable def baseOk (o : Expr) : Bool := match o with
  | .Name .. | .Constant .. | .Subscript .. | .BinOp .. | .Attribute .. => true
  | _ => false
theorem base_of (ho : baseOk o = true) (name : Str) : attributeBase o name env (eval o env) = eval o env := by
  cases o <;> first | rfl | exact Bool.noConfusion (show false = true from ho)
theorem star1 (he : isStarred e = false) : starEach [e] env = [(false, eval e env)] := by cases e <;> first | rfl | exact Bool.noConfusion (show true = false from he)
theorem EV.startswith (ho : EV prog w B n env nu o (.d (.str x))) (he : EV prog w B n env nu e (.d (.str y))) (hb : baseOk o = true) (hs : isStarred e = false) (hl : (apos.endLine == pos.line) = true) :
    EV prog w B n env nu (.Call (.Attribute o "startswith" apos) [e] [] pos) (.d (.bool (Txt.startswith x y))) := by
  refine ⟨fun A s X Q E R O N q => ?_⟩
  refine Call_method1 (base_of hb _) (star1 hs) hl (ho.run A s X _ E R O N fun u h₁ t₁ k₁ y₁ => ?_)
  cases y₁
  refine SB.startswith (he.run A _ X _ E R (O.ext k₁) (N.ext k₁) fun v h₂ t₂ k₂ y₂ => ?_)
  cases y₂
  exact ⟨_, _, rfl, q _ _ _ (k₁.trans k₂) (.bool _)⟩
theorem EV.endswith (ho : EV prog w B n env nu o (.d (.str x))) (he : EV prog w B n env nu e (.d (.str y))) (hb : baseOk o = true) (hs : isStarred e = false) (hl : (apos.endLine == pos.line) = true) :
    EV prog w B n env nu (.Call (.Attribute o "endswith" apos) [e] [] pos) (.d (.bool (Txt.endswith x y))) := by
  refine ⟨fun A s X Q E R O N q => ?_⟩
  refine Call_method1 (base_of hb _) (star1 hs) hl (ho.run A s X _ E R O N fun u h₁ t₁ k₁ y₁ => ?_)
  cases y₁
  refine SB.endswith (he.run A _ X _ E R (O.ext k₁) (N.ext k₁) fun v h₂ t₂ k₂ y₂ => ?_)
  cases y₂
  exact ⟨_, _, rfl, q _ _ _ (k₁.trans k₂) (.bool _)⟩
theorem strs_all {h : Heap} {X : Addr → Prop} (l : List (Str × Tok)) : RdAll h X (strValues l) ((l.map (·.1)).map .str) := by
  induction l with
  | nil => exact .nil
  | cons p l ih => exact .cons (.str _ _) ih
theorem strs_inv {h : Heap} {X : Addr → Prop} {vs : List Value} {xs : List Str} (r : RdAll h X vs (xs.map .str)) : ∃ l : List (Str × Tok), vs = strValues l ∧ l.map (·.1) = xs := by
  induction xs generalizing vs with
  | nil => cases r; exact ⟨[], rfl, rfl⟩
  | cons x xs ih =>
    cases r with
    | cons a r =>
      cases a
      obtain ⟨l, rfl, rfl⟩ := ih r
      exact ⟨(x, _) :: l, rfl, rfl⟩
theorem EV.split (ho : EV prog w B n env nu o (.d (.str x))) (he : EV prog w B n env nu e (.d (.str y))) (hy : (y.length == 0) = false) (hx : x.length ≤ 1000)
    (hb : baseOk o = true) (hs : isStarred e = false) (hl : (apos.endLine == pos.line) = true) :
    EV prog w B n env nu (.Call (.Attribute o "split" apos) [e] [] pos) (.d (.list ((Txt.split x y).map .str))) := by
  have hn : (Builtin.Str.partsBetween x (Builtin.Str.occurrences x y 0 x.length (x.length + 1)) y.length).length ≤ sizeLine := by
    rw [len_partsBetween, sizeLine_eq]
    have := StrLaws.occ_length_le x y 0 x.length (x.length + 1)
    omega
  refine ⟨fun A s X Q E R O N q => ?_⟩
  refine Call_method1 (base_of hb _) (star1 hs) hl (ho.run A s X _ E R O N fun u h₁ t₁ k₁ y₁ => ?_)
  cases y₁
  rename_i t
  have hx' : x.length ≤ sizeLine := by rw [sizeLine_eq]; omega
  refine ⟨"str", _, F.plainAttrs_str, F.slot_str_split, F.type_str_split, typeIs_str _ _ _, (fun _ e => nomatch e),
    method1_meets F.slot_str_split F.entry_str_split (he.run A _ X _ E R (O.ext k₁) (N.ext k₁) fun v h₂ t₂ k₂ y₂ => ?_)⟩
  cases y₂
  rename_i u
  refine ⟨typeIs_str _ _ _, F.args_str_split_2 _ _, ?_⟩
  have fin : ∀ (l : List (Str × Tok)) (tk' : Nat), l.map (·.1) = Txt.split x y → Q (.ref h₂.objs.size) { s with toks := tk', heap := h₂.push { cls := .type "list", data := .seq (strValues l).toArray } } := by
    intro l tk' el
    refine q _ _ _ ((k₁.trans k₂).pushR _) (Rd.of_list ((O.ext k₁).ext k₂).freshSize (IsList.push_new _ _) ?_)
    rw [← el]; exact strs_all l
  cases h1 : (decide (x.length < y.length) || decide (Builtin.Str.strKind x < Builtin.Str.strKind y))
  · cases hf : (Builtin.Str.occurrences x y 0 x.length (x.length + 1)).isEmpty
    · refine ⟨_, meets_str_split_sep x y t u h1 hy hf hx' hn, ?_⟩
      show wants Q E _ { s with toks := _, heap := h₂.push { cls := .type "list", data := .seq (strsFrom t₂ (Builtin.Str.partsBetween x (Builtin.Str.occurrences x y 0 x.length (x.length + 1)) y.length)).toArray } }
      rw [strsFrom_eq]
      exact fin (numbered t₂ _) _ ((numbered_texts _ _).trans ((if_neg (ne_true_of_eq_false h1)).trans (if_neg (ne_true_of_eq_false hf))).symm)
    · exact ⟨_, meets_str_split_not_found x y t u h1 hy hf, fin [(x, t)] _ ((if_neg (ne_true_of_eq_false h1)).trans (if_pos hf)).symm⟩
  · exact ⟨_, meets_str_split_cannot_occur x y t u h1, fin [(x, t)] _ (if_pos h1).symm⟩
theorem EV.join {xs : List Str} (ho : EV prog w B n env nu o (.d (.str x))) (he : EV prog w B n env nu e (.d (.list (xs.map .str)))) (hok : JoinOk x xs = true)
    (hb : baseOk o = true) (hs : isStarred e = false) (hl : (apos.endLine == pos.line) = true) :
    EV prog w B n env nu (.Call (.Attribute o "join" apos) [e] [] pos) (.d (.str (Str.join x xs))) := by
  refine ⟨fun A s X Q E R O N q => ?_⟩
  refine Call_method1 (base_of hb _) (star1 hs) hl (ho.run A s X _ E R O N fun u h₁ t₁ k₁ y₁ => ?_)
  cases y₁
  refine SB.join (he.run A _ X _ E R (O.ext k₁) (N.ext k₁) fun v h₂ t₂ k₂ y₂ => ?_)
  obtain ⟨D, vs, rfl, nx, hD, ra⟩ := Rd.list_inv y₂
  obtain ⟨l, rfl, rfl⟩ := strs_inv ra
  refine ⟨D, l, rfl, hD, _, rfl, hok, fun t' k => ?_⟩
  have := q (.str (Txt.join x (l.map (·.1))) t') h₂ k (k₁.trans k₂) (by
    show Rd _ _ _ _
    rw [← StrLaws.glued_eq_join]; exact .str _ _)
  exact this
-- built-ins
theorem OP.lenList (hs : ds.length ≤ sizeLine) : OP prog w B n (fun vs => call (.builtin "len") vs) [.d (.list ds)] (.d (.int ds.length)) :=
  OP.of1 fun A s X Q E u R O y q => by
    obtain ⟨l, vs, rfl, nx, hl, ra⟩ := Rd.list_inv y
    rw [sizeLine_eq] at hs
    refine len_list hl (by simp only [List.size_toArray, ra.length]; omega) ?_
    have e : ((vs.toArray.size : Nat) : Int) = (ds.length : Int) := by simp [ra.length]
    rw [e]
    exact q _ _ _ (Ext.refl _) (.int _ _)
theorem OP.lenTuple (hs : ds.length ≤ sizeLine) : OP prog w B n (fun vs => call (.builtin "len") vs) [.d (.tuple ds)] (.d (.int ds.length)) :=
  OP.of1 fun A s X Q E u R O y q => by
    obtain ⟨l, vs, rfl, nx, hl, ra⟩ := Rd.tuple_inv y
    rw [sizeLine_eq] at hs
    refine PyProof.Rows.len_tuple hl (by simp only [List.size_toArray, ra.length]; omega) ?_
    have e : ((vs.toArray.size : Nat) : Int) = (ds.length : Int) := by simp [ra.length]
    rw [e]
    exact q _ _ _ (Ext.refl _) (.int _ _)
theorem OP.abs {i : Int} : OP prog w B n (fun vs => PySem.call (.builtin "abs") vs) [.d (.int i)] (.d (.int (if i < 0 then -i else i))) :=
  OP.of1 fun A s X Q E u R O y q => by cases y; exact call_abs_int fun u tk => q _ _ _ (Ext.refl _) (.int _ _)
theorem OP.max {i j : Int} : OP prog w B n (fun vs => PySem.call (.builtin "max") vs) [.d (.int i), .d (.int j)] (.d (.int (if j > i then j else i))) :=
  OP.of2 fun A s X Q E u v R O y z q => by
    cases y; cases z
    refine max_two_ints R.handled fun h' tk k => ?_
    refine q _ _ _ k ?_
    by_cases hc : j > i
    · rw [if_pos hc, if_pos hc]; exact .int _ _
    · rw [if_neg hc, if_neg hc]; exact .int _ _
theorem OP.min {i j : Int} : OP prog w B n (fun vs => PySem.call (.builtin "min") vs) [.d (.int i), .d (.int j)] (.d (.int (if j < i then j else i))) :=
  OP.of2 fun A s X Q E u v R O y z q => by
    cases y; cases z
    refine min_two_ints R.handled fun h' tk k => ?_
    refine q _ _ _ k ?_
    by_cases hc : j < i
    · rw [if_pos hc, if_pos hc]; exact .int _ _
    · rw [if_neg hc, if_neg hc]; exact .int _ _
end
end Mine
end
section
open PySem PySem.W PyProof.Rows PySem.Calls
namespace Mine
inductive Slot where
  | r (x : Res)
  | own (ds : List PyData)
structure St where
  loc : List (Str × Slot)
  ext : Heap → Prop
noncomputable def MuF (env : Env) (a : Addr) : Prop := a = env.locals ∨ ∃ p ∈ env.cells, p.2 = a
noncomputable def Mu (env : Env) (O : Str → Option Addr) (a : Addr) : Prop := MuF env a ∨ ∃ x, O x = some a
noncomputable def Av (X₀ : Addr → Prop) (env : Env) (O : Str → Option Addr) (a : Addr) : Prop := X₀ a ∨ Mu env O a
noncomputable def Bv (X₀ : Addr → Prop) (env : Env) (a : Addr) : Prop := X₀ a ∨ MuF env a
theorem Bv.av {X₀ : Addr → Prop} {env : Env} {O : Str → Option Addr} (a : Addr) (x : Bv X₀ env a) : Av X₀ env O a := x.imp id fun y => .inl y
noncomputable def Bd (env : Env) (m cm : Str → Option Value) (x : Str) (v : Value) : Prop :=
  (env.kindOf x = some .local ∧ m x = some v) ∨ (env.kindOf x = some .cell ∧ (∃ c, env.cells.lookup x = some c) ∧ cm x = some v)
noncomputable def SlotOk (h : Heap) (X₀ : Addr → Prop) (env : Env) (O : Str → Option Addr) (x : Str) (v : Value) : Slot → Prop
  | .r r => RV h (Av X₀ env O) v r
  | .own ds => ∃ a vs, v = .ref a ∧ O x = some a ∧ h.PlainList a (List.toArray vs) ∧ RdAll h (Av X₀ env O) vs ds
structure InF (B : Heap) (env : Env) (X₀ : Addr → Prop) (st : St) (O : Str → Option Addr) (h : Heap) (m cm : Str → Option Value) : Prop where
  ok : OkH B h (Av X₀ env O)
  kind : env.scope.kind = .function
  ns : h.Ns env.locals m
  cell : ∀ x c, env.cells.lookup x = some c → h.IsCell c (cm x)
  apart : env.cells.Pairwise fun p q => p.2 ≠ q.2
  offL : ∀ p ∈ env.cells, p.2 ≠ env.locals
  offX : ∀ a, Mu env O a → ¬ X₀ a
  offO : ∀ x a, O x = some a → ¬ MuF env a
  injO : ∀ x y a, O x = some a → O y = some a → x = y
  nodup : (st.loc.map (·.1)).Nodup
  slots : ∀ p ∈ st.loc, ∃ v, Bd env m cm p.1 v ∧ SlotOk h X₀ env O p.1 v p.2
  ext : st.ext h
  stab : ∀ h h' : Heap, st.ext h → (∀ a o, X₀ a → h.get? a = some o → h'.get? a = some o) → st.ext h'
noncomputable def keepN (l : List (Str × Slot)) : List (Str × Res) := l.filterMap fun p => match p.2 with
  | .r r => some (p.1, r)
  | .own _ => none
noncomputable def allN (l : List (Str × Slot)) : List (Str × Res) := l.map fun p => (p.1, match p.2 with
  | .r r => r
  | .own ds => .d (.list ds))
theorem OkH.sub {B h : Heap} {X Y : Addr → Prop} (k : OkH B h X) (s : ∀ a, Y a → X a) : OkH B h Y := ⟨k.base, fun a y => k.live a (s a y), fun a y => k.off a (s a y)⟩
theorem PlainList.ext {h h' : Heap} {a : Addr} {items : Array Value} (x : h.PlainList a items) (k : Ext h h') : h'.PlainList a items := x.at fun o e => k _ o e
section
variable {B : Heap} {env : Env} {X₀ : Addr → Prop} {st : St} {O : Str → Option Addr} {h h' : Heap} {m cm : Str → Option Value} {x : Str} {v : Value}
theorem Bd.ln (F : InF B env X₀ st O h m cm) (b : Bd env m cm x v) : LN env h x v := by
  refine ⟨fun M A Q E s k q => ?_, fun hk => ⟨F.apart, ?_⟩⟩
  · rcases b with ⟨hl, hm⟩ | ⟨hl, ⟨c, hc⟩, hm⟩
    · exact wpAny_loadName_local F.kind hl (F.ns.keeps k) hm q
    · have hcell := F.cell x c hc
      rw [hm] at hcell
      exact wpAny_loadName_cell F.kind hl hc (hcell.keeps k) q
  · rcases b with ⟨hl, hm⟩ | ⟨hl, ⟨c, hc⟩, hm⟩
    · rw [hl] at hk; cases hk
    · have hcell := F.cell x c hc
      rw [hm] at hcell
      exact ⟨c, hc, hcell⟩
theorem SlotOk.ext {x : Str} {sl : Slot} (k : Ext h h') (y : SlotOk h X₀ env O x v sl) : SlotOk h' X₀ env O x v sl := by
  cases sl with
  | r r => exact RV.ext y k
  | own ds => obtain ⟨a, vs, e, o, p, r⟩ := y; exact ⟨a, vs, e, o, PlainList.ext p k, r.ext k⟩
theorem InF.grow (F : InF B env X₀ st O h m cm) (k : Ext h h') : InF B env X₀ st O h' m cm where
  ok := F.ok.ext k
  kind := F.kind
  ns := F.ns.keeps k
  cell := fun x c hc => (F.cell x c hc).keeps k
  apart := F.apart
  offL := F.offL
  offX := F.offX
  offO := F.offO
  injO := F.injO
  nodup := F.nodup
  slots := fun p hp => let ⟨v, b, y⟩ := F.slots p hp; ⟨v, b, y.ext k⟩
  ext := F.stab _ _ F.ext fun a o _ e => k a o e
  stab := F.stab
theorem InF.keepNm (F : InF B env X₀ st O h m cm) : Nm env h (Av X₀ env O) (keepN st.loc) := by
  intro p hp
  obtain ⟨q, hq, e⟩ := List.mem_filterMap.mp hp
  obtain ⟨v, b, y⟩ := F.slots q hq
  obtain ⟨x, sl⟩ := q
  cases sl with
  | r r => cases e; exact ⟨v, b.ln F, y, fun _ c hc => .inr (.inl (.inr ⟨_, mem_of_lookup hc, rfl⟩))⟩
  | own => cases e
theorem InF.allNm (F : InF B env X₀ st O h m cm) : Nm env h (Bv X₀ env) (allN st.loc) := by
  intro p hp
  obtain ⟨q, hq, e⟩ := List.mem_map.mp hp
  obtain ⟨v, b, y⟩ := F.slots q hq
  obtain ⟨x, sl⟩ := q
  cases sl with
  | r r => cases e; exact ⟨v, b.ln F, RV.less y Bv.av, fun _ c hc => .inr (.inr ⟨_, mem_of_lookup hc, rfl⟩)⟩
  | own ds =>
    cases e
    obtain ⟨a, vs, rfl, o, p, r⟩ := y
    refine ⟨_, b.ln F, ?_, fun _ c hc => .inr (.inr ⟨_, mem_of_lookup hc, rfl⟩)⟩
    refine Rd.of_list (fun z => ?_) p (r.less Bv.av)
    rcases z with z | z
    · exact F.offX a (.inr ⟨_, o⟩) z
    · exact F.offO _ _ o z
theorem InF.okB (F : InF B env X₀ st O h m cm) : OkH B h (Bv X₀ env) := F.ok.sub Bv.av
end
inductive Upd : List (Str × Slot) → Str → Slot → List (Str × Slot) → Prop
  | nil {x : Str} {v : Slot} : Upd [] x v [(x, v)]
  | here {x : Str} {q v : Slot} {r : List (Str × Slot)} : Upd ((x, q) :: r) x v ((x, v) :: r)
  | next {x y : Str} {q v : Slot} {r r' : List (Str × Slot)} : y ≠ x → Upd r x v r' → Upd ((y, q) :: r) x v ((y, q) :: r')
theorem Upd.keys {l l' : List (Str × Slot)} {x : Str} {v : Slot} (u : Upd l x v l') : ∀ k ∈ l'.map (·.1), k = x ∨ k ∈ l.map (·.1) := by
  induction u with
  | nil => intro k hk; simp at hk; exact .inl hk
  | here => intro k hk; exact .inr (by simpa using hk)
  | next _ _ ih =>
    intro k hk
    rcases List.mem_cons.mp hk with e | hk
    · exact .inr (e ▸ List.mem_cons_self)
    · exact (ih k hk).imp id (List.mem_cons_of_mem _)
theorem Upd.nodup {l l' : List (Str × Slot)} {x : Str} {v : Slot} (u : Upd l x v l') (n : (l.map (·.1)).Nodup) : (l'.map (·.1)).Nodup := by
  induction u with
  | nil => simp
  | here => exact n
  | next hne u ih =>
    rw [List.map_cons, List.nodup_cons] at n ⊢
    refine ⟨fun hm => ?_, ih n.2⟩
    rcases u.keys _ hm with e | e
    · exact hne e
    · exact n.1 e
theorem Upd.mem {l l' : List (Str × Slot)} {x : Str} {v : Slot} (u : Upd l x v l') (n : (l.map (·.1)).Nodup) : ∀ p ∈ l', p = (x, v) ∨ (p ∈ l ∧ p.1 ≠ x) := by
  induction u with
  | nil => intro p hp; simp at hp; exact .inl hp
  | here =>
    intro p hp
    rcases List.mem_cons.mp hp with e | hp
    · exact .inl e
    · refine .inr ⟨List.mem_cons_of_mem _ hp, fun e => ?_⟩
      rw [List.map_cons, List.nodup_cons] at n
      exact n.1 (List.mem_map.mpr ⟨p, hp, e⟩)
  | next hne u ih =>
    intro p hp
    rw [List.map_cons, List.nodup_cons] at n
    rcases List.mem_cons.mp hp with e | hp
    · exact .inr ⟨e ▸ List.mem_cons_self, by rw [e]; exact hne⟩
    · exact (ih n.2 p hp).imp id fun y => ⟨List.mem_cons_of_mem _ y.1, y.2⟩
noncomputable def Sto (env : Env) (x : Str) : Prop := env.kindOf x = some .local ∨ (env.kindOf x = some .cell ∧ ∃ c, env.cells.lookup x = some c)
structure Chg (env : Env) (O : Str → Option Addr) (h : Heap) (O' : Str → Option Addr) (h' : Heap) : Prop where
  keep : ∀ b o, ¬ Mu env O b → h.get? b = some o → h'.get? b = some o
  own : ∀ x a, O' x = some a → (∃ y, O y = some a) ∨ h.get? a = none
  live : ∀ x a, O x = some a → ∃ o, h'.get? a = some o
theorem Chg.trans {env : Env} {O O' O'' : Str → Option Addr} {h h' h'' : Heap} (l : ∀ a, MuF env a → ∃ o, h'.get? a = some o) (nf : ∀ x a, O x = some a → ¬ MuF env a) (a : Chg env O h O' h') (b : Chg env O' h' O'' h'') : Chg env O h O'' h'' where
  keep := fun c o n e => b.keep c o (fun z => by
    rcases z with z | ⟨y, z⟩
    · exact n (.inl z)
    · rcases a.own y c z with w | w
      · exact n (.inr w)
      · rw [w] at e; cases e) (a.keep c o n e)
  own := fun x c e => by
    rcases b.own x c e with ⟨y, w⟩ | w
    · exact a.own y c w
    · cases g : h.get? c with
      | none => exact .inr rfl
      | some o =>
        by_cases n : Mu env O c
        · rcases n with n | ⟨z, n⟩
          · obtain ⟨o', e'⟩ := l c n
            rw [w] at e'; cases e'
          · exact .inl ⟨z, n⟩
        · rw [a.keep c o n g] at w; cases w
  live := fun x c e => by
    obtain ⟨o, g⟩ := a.live x c e
    by_cases n : Mu env O' c
    · rcases n with n | ⟨z, n⟩
      · exact absurd n (nf x c e)
      · exact b.live z c n
    · exact ⟨o, b.keep c o n g⟩
section
variable {B : Heap} {env : Env} {X₀ : Addr → Prop} {st : St} {O : Str → Option Addr} {h h' : Heap} {m cm : Str → Option Value} {x : Str} {v : Value}
theorem Chg.of_ext (F : InF B env X₀ st O h m cm) (k : Ext h h') : Chg env O h O h' := ⟨fun b o _ e => k b o e, fun x _ e => .inl ⟨x, e⟩, fun x a e => let ⟨o, g⟩ := F.ok.live a (.inr (.inr ⟨x, e⟩)); ⟨o, k a o g⟩⟩
theorem InF.liveMu (F : InF B env X₀ st O h m cm) (a : Addr) (z : Mu env O a) : ∃ o, h.get? a = some o := F.ok.live a (.inr z)
theorem InF.turn {O' : Str → Option Addr} {loc' : List (Str × Slot)} {m' cm' : Str → Option Value} (F : InF B env X₀ st O h m cm)
    (hO : ∀ x a, O' x = some a → ¬ X₀ a ∧ ¬ MuF env a ∧ B.get? a = none ∧ ∃ o, h'.get? a = some o)
    (inj : ∀ x y a, O' x = some a → O' y = some a → x = y)
    (keep : ∀ b o, ¬ Mu env O b → h.get? b = some o → h'.get? b = some o)
    (live : ∀ a, MuF env a → ∃ o, h'.get? a = some o)
    (ns : h'.Ns env.locals m') (cell : ∀ x c, env.cells.lookup x = some c → h'.IsCell c (cm' x)) (nodup : (loc'.map (·.1)).Nodup)
    (slots : ∀ p ∈ loc', ∃ v, Bd env m' cm' p.1 v ∧ SlotOk h' X₀ env O' p.1 v p.2) : InF B env X₀ { st with loc := loc' } O' h' m' cm' where
  ok := ⟨fun b o e => keep b o (fun z => F.ok.inBase e (.inr z)) (F.ok.base b o e), fun a z => by
      rcases z with z | z | ⟨x, z⟩
      · obtain ⟨o, e⟩ := F.ok.live a (.inl z)
        exact ⟨o, keep a o (fun w => F.offX a w z) e⟩
      · exact live a z
      · exact (hO x a z).2.2.2,
    fun a z => by
      rcases z with z | z | ⟨x, z⟩
      · exact F.ok.off a (.inl z)
      · exact F.ok.off a (.inr (.inl z))
      · exact (hO x a z).2.2.1⟩
  kind := F.kind
  ns := ns
  cell := cell
  apart := F.apart
  offL := F.offL
  offX := fun a z => by
    rcases z with z | ⟨x, z⟩
    · exact F.offX a (.inl z)
    · exact (hO x a z).1
  offO := fun x a z => (hO x a z).2.1
  injO := inj
  nodup := nodup
  slots := slots
  ext := F.stab _ _ F.ext fun a o z e => keep a o (fun w => F.offX a w z) e
  stab := F.stab
theorem InF.sameO (F : InF B env X₀ st O h m cm) (keep : ∀ a, (∃ o, h.get? a = some o) → ∃ o, h'.get? a = some o) : ∀ x a, O x = some a → ¬ X₀ a ∧ ¬ MuF env a ∧ B.get? a = none ∧ ∃ o, h'.get? a = some o :=
  fun x a e => ⟨F.offX a (.inr ⟨x, e⟩), F.offO x a e, F.ok.off a (.inr (.inr ⟨x, e⟩)), keep a (F.liveMu a (.inr ⟨x, e⟩))⟩
theorem sameBut_live {a : Addr} (hs : Heap.SameBut a h h') (la : ∃ o, h'.get? a = some o) (b : Addr) (l : ∃ o, h.get? b = some o) : ∃ o, h'.get? b = some o := by
  by_cases e : b = a
  · subst e; exact la
  · obtain ⟨o, g⟩ := l; exact ⟨o, (hs.2 b e).trans g⟩
theorem SlotOk.sameBut {a : Addr} {sl : Slot} (F : InF B env X₀ st O h m cm) (ha : MuF env a) (hs : Heap.SameBut a h h') (y : SlotOk h X₀ env O x v sl) : SlotOk h' X₀ env O x v sl := by
  have up : ∀ b o, ¬ Av X₀ env O b → h.get? b = some o → h'.get? b = some o ∧ ¬ Av X₀ env O b := fun b o n e => ⟨(hs.2 b fun z => n (z ▸ .inr (.inl ha))).trans e, n⟩
  cases sl with
  | r r => exact RV.up up y
  | own ds => obtain ⟨b, vs, e, o, p, r⟩ := y; exact ⟨b, vs, e, o, p.at fun o' e' => (hs.2 b fun z => F.offO _ _ o (z ▸ ha)).trans e', RdAll.up up r⟩
theorem InF.storeS {M : Model} {A : Around} {Q : Unit → Shared → Prop} {E : Value → Shared → Prop} {s : Shared} {sl : Slot} {loc' : List (Str × Slot)} (F : InF B env X₀ st O s.heap m cm) (hk : Sto env x)
    (y : SlotOk s.heap X₀ env O x v sl) (nd : (loc'.map (·.1)).Nodup) (hm : ∀ p ∈ loc', p = (x, sl) ∨ (p ∈ st.loc ∧ p.1 ≠ x))
    (q : ∀ h' m' cm' tk, InF B env X₀ { st with loc := loc' } O h' m' cm' → Chg env O s.heap O h' → (∃ a, ((a = env.locals ∧ env.kindOf x = some .local) ∨ (env.kindOf x = some .cell ∧ env.cells.lookup x = some a)) ∧ Heap.SameBut a s.heap h') → Q () { s with heap := h', toks := tk }) : wpAny M A (storeName env x v) Q E s := by
  rcases hk with hl | ⟨hl, c, hc⟩
  · refine wpAny_storeName_local hl F.ns (fun h' hn hs => ?_) (by rw [F.kind]; rfl)
    have mL : MuF env env.locals := .inl rfl
    have keep : ∀ b o, ¬ Mu env O b → s.heap.get? b = some o → h'.get? b = some o := fun b o n e => (hs.2 b fun z => n (.inl (z ▸ mL))).trans e
    have lv := sameBut_live hs (let ⟨o, _, _, g, _⟩ := hn; ⟨o, g⟩)
    refine q h' _ cm _ (F.turn (F.sameO lv) F.injO keep (fun a z => lv a (F.liveMu a (.inl z))) hn
      (fun z c hc => (F.cell z c hc).sameBut hs (F.offL _ (mem_of_lookup hc))) nd fun p hp => ?_) ⟨keep, fun x _ e => .inl ⟨x, e⟩, fun x a e => lv a (F.liveMu a (.inr ⟨x, e⟩))⟩ ⟨_, .inl ⟨rfl, hl⟩, hs⟩
    rcases hm p hp with e | ⟨hp, hne⟩
    · subst e
      exact ⟨v, .inl ⟨hl, by simp⟩, SlotOk.sameBut F mL hs y⟩
    · obtain ⟨u, b, z⟩ := F.slots p hp
      refine ⟨u, ?_, z.sameBut F mL hs⟩
      rcases b with ⟨b1, b2⟩ | b
      · exact .inl ⟨b1, by simp [hne, b2]⟩
      · exact .inr b
  · refine wpAny_storeName_cell F.kind hl hc (F.cell x c hc) fun h' hcell hs => ?_
    have hmem := mem_of_lookup hc
    have mL : MuF env c := .inr ⟨_, hmem, rfl⟩
    have keep : ∀ b o, ¬ Mu env O b → s.heap.get? b = some o → h'.get? b = some o := fun b o n e => (hs.2 b fun z => n (.inl (z ▸ mL))).trans e
    have lv := sameBut_live hs (let ⟨o, g, _⟩ := hcell; ⟨o, g⟩)
    refine q h' m (fun y => if y = x then some v else cm y) _ (F.turn (F.sameO lv) F.injO keep (fun a z => lv a (F.liveMu a (.inl z))) (F.ns.sameBut hs (Ne.symm (F.offL _ hmem)))
      (fun z c' hz => ?_) nd fun p hp => ?_) ⟨keep, fun x _ e => .inl ⟨x, e⟩, fun x a e => lv a (F.liveMu a (.inr ⟨x, e⟩))⟩ ⟨_, .inr ⟨hl, hc⟩, hs⟩
    · by_cases e : z = x
      · subst e
        rw [hc] at hz; cases hz
        simpa using hcell
      · rw [if_neg e]
        exact (F.cell z c' hz).sameBut hs fun w => e (name_of_addr F.apart (mem_of_lookup hz) (w ▸ hmem))
    · rcases hm p hp with e | ⟨hp, hne⟩
      · subst e
        exact ⟨v, .inr ⟨hl, ⟨c, hc⟩, by simp⟩, SlotOk.sameBut F mL hs y⟩
      · obtain ⟨u, b, z⟩ := F.slots p hp
        refine ⟨u, ?_, z.sameBut F mL hs⟩
        rcases b with b | ⟨b1, b2, b3⟩
        · exact .inl b
        · exact .inr ⟨b1, b2, by simp [hne, b3]⟩
theorem InF.store {M : Model} {A : Around} {Q : Unit → Shared → Prop} {E : Value → Shared → Prop} {s : Shared} {r : Res} {loc' : List (Str × Slot)} (F : InF B env X₀ st O s.heap m cm) (hk : Sto env x)
    (y : RV s.heap (Av X₀ env O) v r) (up : Upd st.loc x (.r r) loc')
    (q : ∀ h' m' cm' tk, InF B env X₀ { st with loc := loc' } O h' m' cm' → Chg env O s.heap O h' → Q () { s with heap := h', toks := tk }) : wpAny M A (storeName env x v) Q E s :=
  F.storeS hk (sl := .r r) y (up.nodup F.nodup) (up.mem F.nodup) fun h' m' cm' tk f c _ => q h' m' cm' tk f c
end
end Mine
end
section
open PySem PySem.W PyProof.Rows PySem.Calls
namespace Mine
inductive Fl where
  | next | brk | cont
  | ret (r : Res)
noncomputable def FlOk (h : Heap) (X₀ : Addr → Prop) : Fl → Flow → Prop
  | .next, .next => True
  | .brk, .brk => True
  | .cont, .cont => True
  | .ret r, .ret v => RV h X₀ v r
  | _, _ => False
structure InZ (B : Heap) (env : Env) (Z X₀ : Addr → Prop) (st : St) (O : Str → Option Addr) (h : Heap) : Prop where
  foot : ∀ a, Z a → X₀ a
  stab : ∀ h h' : Heap, st.ext h → (∀ a o, Z a → h.get? a = some o → h'.get? a = some o) → st.ext h'
  inF : ∃ m cm, InF B env X₀ st O h m cm
theorem InZ.grow {B : Heap} {env : Env} {Z X₀ : Addr → Prop} {st : St} {O : Str → Option Addr} {h h' : Heap} (F : InZ B env Z X₀ st O h) (k : Ext h h') : InZ B env Z X₀ st O h' :=
  ⟨F.foot, F.stab, let ⟨m, cm, x⟩ := F.inF; ⟨m, cm, x.grow k⟩⟩
section
variable (prog : Program) (w : World) (B : Heap)
structure SF (n : Nat) (env : Env) (Z : Addr → Prop) (st : St) (t : Sem Flow) (P : Fl → St → Prop) : Prop where
  run : ∀ (A : Around) (s : Shared) (X₀ : Addr → Prop) (O : Str → Option Addr) (Q : Flow → Shared → Prop) (E : Value → Shared → Prop), Room n A → InZ B env Z X₀ st O s.heap →
    (∀ fl f st' O' h' tk', P fl st' → InZ B env Z X₀ st' O' h' → Chg env O s.heap O' h' → FlOk h' X₀ fl f → Q f { s with heap := h', toks := tk' }) → wpAny (model prog w) A t Q E s
structure AS (n : Nat) (env : Env) (Z : Addr → Prop) (st : St) (t : Expr) (r : Res) (st' : St) : Prop where
  run : ∀ (A : Around) (s : Shared) (X₀ : Addr → Prop) (O : Str → Option Addr) (Q : Unit → Shared → Prop) (E : Value → Shared → Prop) (v : Value), Room n A → InZ B env Z X₀ st O s.heap → RV s.heap (Av X₀ env O) v r →
    (∀ h' tk', InZ B env Z X₀ st' O h' → Chg env O s.heap O h' → Q () { s with heap := h', toks := tk' }) → wpAny (model prog w) A (assign t env v) Q E s
end
section
variable {prog : Program} {w : World} {B : Heap} {n k : Nat} {env : Env} {Z X₀ : Addr → Prop} {st st' : St} {e test : Expr} {x : Str} {r : Res} {px pos : Pos} {rest body orelse : List Stmt} {P P' : Fl → St → Prop} {O : Str → Option Addr} {h h' : Heap} {t : Sem Flow}
theorem SF.mono (a : SF prog w B n env Z st t P') (i : ∀ fl st, P' fl st → P fl st) : SF prog w B n env Z st t P :=
  .mk fun A s X₀ O Q E R F q => a.run A s X₀ O Q E R F fun fl f st' O' h' tk' p => q fl f st' O' h' tk' (i _ _ p)
theorem InZ.liveMu (F : InZ B env Z X₀ st O h) (a : Addr) (z : Mu env O a) : ∃ o, h.get? a = some o := let ⟨_, _, x⟩ := F.inF; x.liveMu a z
theorem Chg.ofZ (F : InZ B env Z X₀ st O h) (k : Ext h h') : Chg env O h O h' := let ⟨_, _, x⟩ := F.inF; Chg.of_ext x k
theorem Chg.and {O O' O'' : Str → Option Addr} {h h' h'' : Heap} {st st' : St} (F : InZ B env Z X₀ st O h) (F' : InZ B env Z X₀ st' O' h') (a : Chg env O h O' h') (b : Chg env O' h' O'' h'') : Chg env O h O'' h'' :=
  let ⟨_, _, x⟩ := F.inF
  Chg.trans (fun c z => F'.liveMu c (.inl z)) x.offO a b
theorem SF.nil (p : P .next st) : SF prog w B n env Z st (execs [] env) P :=
  .mk fun A s X₀ O Q E R F q => wpAny_execs_nil (q _ _ _ _ _ _ p F (Chg.ofZ F (Ext.refl _)) trivial)
theorem SF.cons {s₁ : Stmt} (a : SF prog w B n env Z st (exec s₁ env) fun fl st' => match fl with | .next => SF prog w B n env Z st' (execs rest env) P | fl => P fl st') : SF prog w B n env Z st (execs (s₁ :: rest) env) P := by
  refine ⟨fun A s X₀ O Q E R F q => ?_⟩
  refine wpAny_execs_cons (a.run A s X₀ O _ E R F fun fl f st' O' h' tk' p F' c y => ?_)
  cases fl with
  | next =>
    cases f <;> first | exact y.elim | skip
    exact p.run A _ X₀ O' Q E R F' fun fl f st'' O'' h'' tk'' p' F'' c' y' => q fl f st'' O'' h'' tk'' p' F'' (Chg.and F F' c c') y'
  | brk => cases f <;> first | exact y.elim | exact q _ _ _ _ _ _ p F' c y
  | cont => cases f <;> first | exact y.elim | exact q _ _ _ _ _ _ p F' c y
  | ret r => cases f <;> first | exact y.elim | exact q _ _ _ _ _ _ p F' c y
theorem SF.seq {s₁ : Stmt} (Mid : St → Prop) (a : SF prog w B n env Z st (exec s₁ env) fun fl st' => match fl with | .next => Mid st' | fl => P fl st') (b : ∀ st', Mid st' → SF prog w B n env Z st' (execs rest env) P) : SF prog w B n env Z st (execs (s₁ :: rest) env) P :=
  SF.cons (a.mono fun fl st' p => by cases fl <;> first | exact b _ p | exact p)
theorem SF.ite {b : Bool} (ht : TV prog w B n env (allN st.loc) test b) (h1 : b = true → SF prog w B n env Z st (execs body env) P) (h2 : b = false → SF prog w B n env Z st (execs orelse env) P) : SF prog w B n env Z st (exec (.If test body orelse pos) env) P := by
  refine ⟨fun A s X₀ O Q E R F q => ?_⟩
  obtain ⟨m, cm, f⟩ := F.inF
  refine wpAny_If (ht.run A s _ _ E R f.okB f.allNm fun h' tk' k => ?_)
  have go : ∀ {t : Sem Flow}, SF prog w B n env Z st t P → wpAny (model prog w) A t Q E { s with heap := h', toks := tk' } := fun g =>
    g.run A _ X₀ O Q E R (F.grow k) fun fl f st' O' h'' tk'' p F' c y => q fl f st' O' h'' tk'' p F' (Chg.and F (F.grow k) (Chg.ofZ F k) c) y
  cases b with
  | true => exact go (h1 rfl)
  | false => exact go (h2 rfl)
theorem AS.name {loc' : List (Str × Slot)} (hk : Sto env x) (up : Upd st.loc x (.r r) loc') : AS prog w B n env Z st (.Name x px) r { st with loc := loc' } := by
  refine ⟨fun A s X₀ O Q E v R F y q => ?_⟩
  obtain ⟨m, cm, f⟩ := F.inF
  exact wpAny_assign_Name (f.store hk y up fun h' m' cm' tk f' c => q h' tk ⟨F.foot, F.stab, m', cm', f'⟩ c)
theorem SF.assign {loc' : List (Str × Slot)} (he : EV prog w B n env (keepN st.loc) e r) (hk : Sto env x) (up : Upd st.loc x (.r r) loc') (p : P .next { st with loc := loc' })
    (hs : swapsWith e (some (.Name x px)) pos.line env = pure false := by rfl) : SF prog w B n env Z st (exec (.Assign [.Name x px] e pos) env) P := by
  refine ⟨fun A s X₀ O Q E R F q => ?_⟩
  obtain ⟨m, cm, f⟩ := F.inF
  refine wpAny_Assign_Name (he.run A s _ _ E R f.ok f.keepNm fun v h₁ t₁ k₁ y₁ => ?_) hs
  exact (f.grow k₁).store hk y₁ up fun h' m' cm' tk f' c => q _ _ _ _ h' tk p ⟨F.foot, F.stab, m', cm', f'⟩ (Chg.and F (F.grow k₁) (Chg.ofZ F k₁) c) trivial
noncomputable def Scal (r : Res) : Prop := ∀ (h : Heap) (X Y : Addr → Prop) (v : Value), RV h X v r → RV h Y v r
theorem Scal.int {i : Int} : Scal (.d (.int i)) := fun h X Y v y => by cases y; exact .int _ _
theorem Scal.str {x : Str} : Scal (.d (.str x)) := fun h X Y v y => by cases y; exact .str _ _
theorem Scal.bool {b : Bool} : Scal (.d (.bool b)) := fun h X Y v y => by cases y; exact .bool _
theorem Scal.v {u : Value} : Scal (.v u) := fun _ _ _ _ y => y
theorem SF.assignB {loc' : List (Str × Slot)} (he : EV prog w B n env (allN st.loc) e r) (hr : Scal r) (hk : Sto env x) (up : Upd st.loc x (.r r) loc') (p : P .next { st with loc := loc' })
    (hs : swapsWith e (some (.Name x px)) pos.line env = pure false := by rfl) : SF prog w B n env Z st (exec (.Assign [.Name x px] e pos) env) P := by
  refine ⟨fun A s X₀ O Q E R F q => ?_⟩
  obtain ⟨m, cm, f⟩ := F.inF
  refine wpAny_Assign_Name (he.run A s _ _ E R f.okB f.allNm fun v h₁ t₁ k₁ y₁ => ?_) hs
  exact (f.grow k₁).store hk (hr _ _ _ _ y₁) up fun h' m' cm' tk f' c => q _ _ _ _ h' tk p ⟨F.foot, F.stab, m', cm', f'⟩ (Chg.and F (F.grow k₁) (Chg.ofZ F k₁) c) trivial
theorem SF.ret (he : EV prog w B n env (allN st.loc) e r) (p : P (.ret r) st) : SF prog w B n env Z st (exec (.Return (some e) pos) env) P := by
  refine ⟨fun A s X₀ O Q E R F q => ?_⟩
  obtain ⟨m, cm, f⟩ := F.inF
  refine wpAny_Return_some (he.run A s _ _ E R f.okB f.allNm fun v h₁ t₁ k₁ y₁ => ?_)
  exact q _ _ _ _ h₁ t₁ p (F.grow k₁) (Chg.ofZ F k₁) (RV.less y₁ fun a z => .inl z)
theorem SF.brk (p : P .brk st) : SF prog w B n env Z st (exec (.Break pos) env) P :=
  .mk fun A s X₀ O Q E R F q => wpAny_Break (q _ _ _ _ _ _ p F (Chg.ofZ F (Ext.refl _)) trivial)
theorem SF.cont (p : P .cont st) : SF prog w B n env Z st (exec (.Continue pos) env) P :=
  .mk fun A s X₀ O Q E R F q => wpAny_Continue (q _ _ _ _ _ _ p F (Chg.ofZ F (Ext.refl _)) trivial)
theorem SF.try {h₀ : ExceptHandler} {hs : List ExceptHandler} (a : SF prog w B n env Z st (execs body env) P) : SF prog w B n env Z st (exec (.Try body (h₀ :: hs) [] [] pos) env) P := by
  refine ⟨fun A s X₀ O Q E R F q => ?_⟩
  refine wpAny_Try_except (a.run A s X₀ O _ _ R F fun fl f st' O' h' tk' p F' c y => ?_)
  have z := q fl f st' O' h' tk' p F' c y
  cases f <;> first | exact wpAny_execs_nil z | exact z
theorem SF.augStr {loc' : List (Str × Slot)} {a b : Str} (hx : (x, Res.d (.str a)) ∈ keepN st.loc) (he : EV prog w B n env (keepN st.loc) e (.d (.str b))) (hl : a.length + b.length ≤ sizeLine) (hk : Sto env x) (up : Upd st.loc x (.r (.d (.str (a ++ b)))) loc')
    (p : P .next { st with loc := loc' }) : SF prog w B n env Z st (exec (.AugAssign (.Name x px) .Add e pos) env) P := by
  refine ⟨fun A s X₀ O Q E R F q => ?_⟩
  obtain ⟨m, cm, f⟩ := F.inF
  obtain ⟨u, lu, yu, _⟩ := f.keepNm _ hx
  refine wpAny_AugAssign_Name (lu.ld _ _ _ _ _ (Ext.refl _) (he.run A s _ _ E R f.ok f.keepNm fun v h₁ t₁ k₁ y₁ => ?_))
  cases yu
  cases y₁
  refine PyProof.Rows.iadd_str (fun t' tk => ?_) hl
  exact (f.grow k₁).store hk (show RV _ _ _ (.d _) from Rd.str _ _) up fun h' m' cm' tk f' c => q _ _ _ _ h' tk p ⟨F.foot, F.stab, m', cm', f'⟩ (Chg.and F (F.grow k₁) (Chg.ofZ F k₁) c) trivial
theorem assignEach_names {xs : List (Str × Pos)} : assignEach (xs.map fun p => .Name p.1 p.2) env = xs.map fun p => (false, assign (.Name p.1 p.2) env) := by
  induction xs with
  | nil => rfl
  | cons p xs ih => rw [List.map_cons, List.map_cons, ← ih]; rfl
inductive Upds : List (Str × Slot) → List (Str × Pos) → List PyData → List (Str × Slot) → Prop
  | nil {l : List (Str × Slot)} : Upds l [] [] l
  | cons {l l' l'' : List (Str × Slot)} {x : Str} {p : Pos} {d : PyData} {xs : List (Str × Pos)} {ds : List PyData} : Upd l x (.r (.d d)) l' → Upds l' xs ds l'' → Upds l ((x, p) :: xs) (d :: ds) l''
theorem Upds.length {l l' : List (Str × Slot)} {xs : List (Str × Pos)} {ds : List PyData} (u : Upds l xs ds l') : xs.length = ds.length := by
  induction u with
  | nil => rfl
  | cons _ _ ih => simp [ih]
theorem stores_all {l' : List (Str × Slot)} {xs : List (Str × Pos)} {ds : List PyData} {l : List (Str × Slot)} (u : Upds l xs ds l') : ∀ (_ : ∀ p ∈ xs, Sto env p.1) (st : St) (_ : st.loc = l) (A : Around) (s : Shared) (X₀ : Addr → Prop) (O : Str → Option Addr) (Q : Unit → Shared → Prop) (E : Value → Shared → Prop) (vs : List Value), InZ B env Z X₀ st O s.heap →
    RdAll s.heap (Av X₀ env O) vs ds → (∀ h' tk', InZ B env Z X₀ { st with loc := l' } O h' → Chg env O s.heap O h' → Q () { s with heap := h', toks := tk' }) →
    wpAny (model prog w) A (assignInOrder (xs.map fun p => assign (.Name p.1 p.2) env) vs) Q E s := by
  induction u with
  | nil =>
    intro _ st e A s X₀ O Q E vs F y q
    cases y
    subst e
    exact wpAny_pure (q _ _ F (Chg.ofZ F (Ext.refl _)))
  | @cons l₀ l₁ l₂ x₀ p₀ d₀ xs₀ ds₀ u _ ih =>
    intro hk st e A s X₀ O Q E vs F y q
    cases y with
    | cons y₁ y₂ =>
      obtain ⟨m, cm, f⟩ := F.inF
      subst e
      refine wpAny_bind (wpAny_holding ?_)
      refine wpAny_assign_Name (f.store (r := .d d₀) (hk _ (.head _)) y₁ u fun h' m' cm' tk f' c => ?_)
      have F' : InZ B env Z X₀ { st with loc := l₁ } O h' := ⟨F.foot, F.stab, m', cm', f'⟩
      refine ih (fun p hp => hk p (.tail _ hp)) { st with loc := l₁ } rfl A _ X₀ O Q E _ F' (y₂.up fun b o nb e => ⟨c.keep b o (fun z => nb (.inr z)) e, nb⟩) fun h'' tk'' F'' c' => ?_
      exact q h'' tk'' F'' (Chg.and F F' c c')
theorem AS.tuple {l' : List (Str × Slot)} {xs : List (Str × Pos)} {ds : List PyData} {kd : Nat} (u : Upds st.loc xs ds l') (hk : ∀ p ∈ xs, Sto env p.1) : AS prog w B n env Z st (.Tuple (xs.map fun p => .Name p.1 p.2) kd px) (.d (.tuple ds)) { st with loc := l' } := by
  refine ⟨fun A s X₀ O Q E v R F y q => ?_⟩
  obtain ⟨a, vs, rfl, nx, ht, ra⟩ := Rd.tuple_inv y
  refine assign_Tuple_tuple R.handled ht ?_ ?_ fun h' k => ?_
  · rw [assignEach_names, List.length_map, u.length, List.size_toArray, ra.length]
  · rw [assignEach_names, List.findIdx?_eq_none_iff]
    intro z hz
    obtain ⟨p, _, rfl⟩ := List.mem_map.mp hz
    rfl
  · have k' : Ext s.heap h' := fun b o e => k b o (Nat.ne_of_lt (Heap.lt_size e)) e
    have e1 : (assignEach (xs.map fun p => .Name p.1 p.2) env).map (·.2) = xs.map fun p => assign (.Name p.1 p.2) env := by rw [assignEach_names, List.map_map]; rfl
    rw [e1]
    exact stores_all u hk st rfl A { s with heap := h' } X₀ O Q E _ (F.grow k') (by simpa using ra.ext k') fun h'' tk'' F'' c => q h'' tk'' F'' (Chg.and F (F.grow k') (Chg.ofZ F k') c)
theorem SF.assignTuple {st' : St} {elts : List Expr} {kd : Nat} (he : EV prog w B n env (keepN st.loc) e r) (a : AS prog w B n env Z st (.Tuple elts kd px) r st') (p : P .next st')
    (hs : swapsWithSole [.Tuple elts kd px] e pos.line env = pure false := by rfl) (hw : swappedStores [.Tuple elts kd px] e env = pure none := by rfl) : SF prog w B n env Z st (exec (.Assign [.Tuple elts kd px] e pos) env) P := by
  refine ⟨fun A s X₀ O Q E R F q => ?_⟩
  obtain ⟨m, cm, f⟩ := F.inF
  refine Assign_Tuple (he.run A s _ _ E R f.ok f.keepNm fun v h₁ t₁ k₁ y₁ => ?_) hs hw
  exact a.run A _ X₀ O _ E v R (F.grow k₁) y₁ fun h' tk' F' c => q _ _ _ _ h' tk' p F' (Chg.and F (F.grow k₁) (Chg.ofZ F k₁) c) trivial
end
end Mine
end
section
open PySem PySem.W PyProof.Rows PySem.Calls
namespace Mine
section
variable {prog : Program} {w : World} {B : Heap} {n k : Nat} {env : Env} {Z X₀ : Addr → Prop} {st st' : St} {e test : Expr} {x : Str} {r : Res} {px pos lp ap cp : Pos} {rest body orelse : List Stmt} {P P' : Fl → St → Prop} {O : Str → Option Addr} {h h' : Heap} {t : Sem Flow} {ds : List PyData} {d : PyData} {loc' : List (Str × Slot)}
theorem Upd.nx {x y : Str} {q v : Slot} {r r' : List (Str × Slot)} (h : (y == x) = false) (u : Upd r x v r') : Upd ((y, q) :: r) x v ((y, q) :: r') := .next (fun e => by subst e; simp at h) u
theorem filter_nodup {l : List (Str × Slot)} {f : Str × Slot → Bool} (n : (l.map (·.1)).Nodup) : ((l.filter f).map (·.1)).Nodup := (List.Sublist.map _ (List.filter_sublist (l := l) (p := f))).nodup n
theorem SlotOk.less {O O' : Str → Option Addr} {v : Value} {sl : Slot} (a : ∀ b, Av X₀ env O' b → Av X₀ env O b ∨ h.get? b = none) (o : ∀ ds, sl = .own ds → O' x = O x) (y : SlotOk h X₀ env O x v sl) : SlotOk h X₀ env O' x v sl := by
  have up : ∀ b o, ¬ Av X₀ env O b → h.get? b = some o → h.get? b = some o ∧ ¬ Av X₀ env O' b := fun b o nb e => ⟨e, fun z => (a b z).elim nb fun z => by rw [z] at e; cases e⟩
  cases sl with
  | r r => exact RV.up up y
  | own ds => obtain ⟨b, vs, e, q, p, r⟩ := y; exact ⟨b, vs, e, (o ds rfl).trans q, p, RdAll.up up r⟩
theorem SF.own (hk : Sto env x) (up : Upd st.loc x (.own []) loc') (p : P .next { st with loc := loc' }) : SF prog w B n env Z st (exec (.Assign [.Name x px] (.List [] lp) pos) env) P := by
  refine ⟨fun A s X₀ O Q E R F q => ?_⟩
  obtain ⟨m, cm, f⟩ := F.inF
  refine wpAny_Assign_Name (wpAny_List (Calls.spliced_nil ⟨by decide, ?_⟩)) rfl
  have k₁ : Ext s.heap (s.heap.push { cls := .type "list", data := .seq ([] : List Value).toArray }) := Ext.push _ _
  have f₁ := f.grow k₁
  generalize hH : s.heap.push { cls := .type "list", data := .seq ([] : List Value).toArray } = H at f₁ k₁
  have ha : s.heap.get? s.heap.objs.size = none := by
    cases g : s.heap.get? s.heap.objs.size with
    | none => rfl
    | some o => exact absurd (Heap.lt_size g) (Nat.lt_irrefl _)
  have hp : H.PlainList s.heap.objs.size ([] : List Value).toArray := ⟨0, by rw [← hH]; exact Heap.get?_push_size _ rfl⟩
  have nav : ¬ Av X₀ env O s.heap.objs.size := f.ok.freshSize
  let O' : Str → Option Addr := fun y => if y = x then some s.heap.objs.size else O y
  have hO' : ∀ y a, O' y = some a → (y = x ∧ a = s.heap.objs.size) ∨ (y ≠ x ∧ O y = some a) := by
    intro y a e
    by_cases hy : y = x
    · refine .inl ⟨hy, ?_⟩
      simp only [O', if_pos hy] at e
      exact (Option.some.inj e).symm
    · refine .inr ⟨hy, ?_⟩
      simpa only [O', if_neg hy] using e
  have fresh : ∀ y, O y ≠ some s.heap.objs.size := fun y e => nav (.inr (.inr ⟨y, e⟩))
  have f₂ : InF B env X₀ { st with loc := st.loc.filter fun p => decide (p.1 ≠ x) } O' H m cm := by
    refine f.turn (fun y a e => ?_) (fun y z a e₁ e₂ => ?_) (fun b o _ e => k₁ b o e) (fun a z => let ⟨o, g⟩ := f.liveMu a (.inl z); ⟨o, k₁ a o g⟩) (f.ns.keeps k₁) (fun y c hc => (f.cell y c hc).keeps k₁) (filter_nodup f.nodup) fun p hp => ?_
    · rcases hO' y a e with ⟨_, rfl⟩ | ⟨_, e⟩
      · refine ⟨fun z => nav (.inl z), fun z => nav (.inr (.inl z)), ?_, let ⟨n, g⟩ := hp; ⟨_, g⟩⟩
        cases g : B.get? s.heap.objs.size with
        | none => rfl
        | some o => have := f.ok.base _ _ g; rw [ha] at this; cases this
      · obtain ⟨o, g⟩ := f.liveMu a (.inr ⟨y, e⟩)
        exact ⟨f.offX a (.inr ⟨y, e⟩), f.offO y a e, f.ok.off a (.inr (.inr ⟨y, e⟩)), o, k₁ a o g⟩
    · rcases hO' y a e₁ with ⟨h1, h2⟩ | ⟨h1, h2⟩ <;> rcases hO' z a e₂ with ⟨h3, h4⟩ | ⟨h3, h4⟩
      · exact h1.trans h3.symm
      · exact absurd (h2 ▸ h4) (fresh z)
      · exact absurd (h4 ▸ h2) (fresh y)
      · exact f.injO y z a h2 h4
    · obtain ⟨hp1, hp2⟩ := List.mem_filter.mp hp
      have hne : p.1 ≠ x := by simpa using hp2
      obtain ⟨v, b, y⟩ := f.slots p hp1
      have y1 : SlotOk s.heap X₀ env O' p.1 v p.2 := y.less (fun b z => by
        rcases z with z | z | ⟨u, z⟩
        · exact .inl (.inl z)
        · exact .inl (.inr (.inl z))
        · rcases hO' u b z with ⟨_, rfl⟩ | ⟨_, e⟩
          · exact .inr ha
          · exact .inl (.inr (.inr ⟨u, e⟩))) fun _ _ => by simp only [O', if_neg hne]
      exact ⟨v, b, y1.ext k₁⟩
  have c₁ : Chg env O s.heap O' H := ⟨fun b o _ e => k₁ b o e, fun y a e => by
      rcases hO' y a e with ⟨_, rfl⟩ | ⟨_, e⟩
      · exact .inr ha
      · exact .inl ⟨y, e⟩, fun y a e => let ⟨o, g⟩ := f.liveMu a (.inr ⟨y, e⟩); ⟨o, k₁ a o g⟩⟩
  have F₂ : InZ B env Z X₀ { st with loc := st.loc.filter fun p => decide (p.1 ≠ x) } O' H := ⟨F.foot, F.stab, m, cm, f₂⟩
  refine f₂.storeS hk (sl := .own []) ⟨_, [], rfl, by simp only [O', if_pos], hp, .nil⟩ (up.nodup f.nodup) (fun p hp => ?_) fun h' m' cm' tk f' c _ => ?_
  · rcases up.mem f.nodup p hp with e | ⟨e1, e2⟩
    · exact .inl e
    · exact .inr ⟨List.mem_filter.mpr ⟨e1, by simpa using e2⟩, e2⟩
  · exact q _ _ _ _ h' tk p ⟨F.foot, F.stab, m', cm', f'⟩ (Chg.and F F₂ c₁ c) trivial
theorem InZ.ownTurn (F : InZ B env Z X₀ st O h) {a : Addr} {vs : List Value} (hx : (x, Slot.own ds) ∈ st.loc) (ho : O x = some a) (hs : Heap.SameBut a h h') (hp : h'.PlainList a vs.toArray) {es : List PyData} (hr : RdAll h' (Av X₀ env O) vs es)
    (up : Upd st.loc x (.own es) loc') : InZ B env Z X₀ { st with loc := loc' } O h' ∧ Chg env O h O h' := by
  obtain ⟨m, cm, f⟩ := F.inF
  have nf := f.offO x a ho
  have keep : ∀ b o, ¬ Mu env O b → h.get? b = some o → h'.get? b = some o := fun b o n e => (hs.2 b fun z => n (z ▸ .inr ⟨x, ho⟩)).trans e
  have lv := sameBut_live hs (let ⟨n, g⟩ := hp; ⟨_, g⟩)
  refine ⟨⟨F.foot, F.stab, m, cm, f.turn (f.sameO lv) f.injO keep (fun b z => lv b (f.liveMu b (.inl z))) (f.ns.sameBut hs fun z => nf (.inl z.symm)) (fun y c hc => (f.cell y c hc).sameBut hs fun z => nf (.inr ⟨_, mem_of_lookup hc, z⟩)) (up.nodup f.nodup) fun p hp' => ?_⟩,
    keep, fun y b e => .inl ⟨y, e⟩, fun y b e => lv b (f.liveMu b (.inr ⟨y, e⟩))⟩
  have up' : ∀ b o, ¬ Av X₀ env O b → h.get? b = some o → h'.get? b = some o ∧ ¬ Av X₀ env O b := fun b o n e => ⟨(hs.2 b fun z => n (z ▸ .inr (.inr ⟨x, ho⟩))).trans e, n⟩
  rcases up.mem f.nodup p hp' with e | ⟨e1, e2⟩
  · subst e
    obtain ⟨v, b, a', vs', rfl, o', _⟩ := f.slots _ hx
    rw [ho] at o'; cases o'
    exact ⟨_, b, a, vs, rfl, ho, hp, hr⟩
  · obtain ⟨v, b, y⟩ := f.slots p e1
    refine ⟨v, b, ?_⟩
    obtain ⟨z, sl⟩ := p
    cases sl with
    | r r => exact RV.up up' y
    | own es =>
      obtain ⟨b', vs', e, o', p', r'⟩ := y
      exact ⟨b', vs', e, o', p'.at fun o'' e'' => (hs.2 b' fun w => e2 (f.injO z x b' o' (w ▸ ho))).trans e'', RdAll.up up' r'⟩
theorem SF.append (hx : (x, Slot.own ds) ∈ st.loc) (he : EV prog w B n env (keepN st.loc) e (.d d)) (up : Upd st.loc x (.own (ds ++ [d])) loc') (hl : ds.length ≤ sizeLine) (p : P .next { st with loc := loc' })
    (hd : (x == ("__debug__" : Str)) = false := by decide +kernel) (hs : isStarred e = false := by rfl) (hline : (ap.endLine == cp.line) = true := by rfl) (hi : interactive env = false := by rfl) (hw : swapsWith (.Call (.Attribute (.Name x px) "append" ap) [e] [] cp) none pos.line env = pure false := by rfl) :
    SF prog w B n env Z st (exec (.Expr (.Call (.Attribute (.Name x px) "append" ap) [e] [] cp) pos) env) P := by
  refine ⟨fun A s X₀ O Q E R F q => ?_⟩
  obtain ⟨m, cm, f⟩ := F.inF
  obtain ⟨v, b, a, vs, rfl, ho, hp, hr⟩ := f.slots _ hx
  refine wpAny_Expr_any (wpAny_Call_append (base_of rfl _) (by rw [star1 hs]; rfl) hline (by rw [star1 hs]; rfl) ?_) hi hw
  refine wpAny_Name ((b.ln f).ld _ _ _ _ _ (Ext.refl _) ⟨a, _, rfl, let ⟨n, g⟩ := hp; ⟨_, n, g, rfl, rfl, rfl⟩, ?_⟩) hd
  refine he.run A s _ _ E R f.ok f.keepNm fun y h₁ t₁ k₁ y₁ => ?_
  refine wpAny_list_append_plain (PlainList.ext hp k₁) (fun h₂ hp₂ hs₂ => ?_) (by simpa [hr.length] using hl)
  have e1 : vs.toArray.push y = (vs ++ [y]).toArray := by simp
  rw [e1] at hp₂
  have F₁ := F.grow k₁
  have hr₁ : RdAll h₁ (Av X₀ env O) (vs ++ [y]) (ds ++ [d]) := (hr.ext k₁).snoc y₁
  obtain ⟨F₂, c₂⟩ := F₁.ownTurn hx ho hs₂ hp₂ (hr₁.up fun b o n e => ⟨(hs₂.2 b fun z => n (z ▸ .inr (.inr ⟨x, ho⟩))).trans e, n⟩) up
  exact q _ _ _ _ _ _ p F₂ (Chg.and F F₁ (Chg.ofZ F k₁) c₂) trivial
theorem SF.pop (hx : (x, Slot.own (ds ++ [d])) ∈ st.loc) (up : Upd st.loc x (.own ds) loc') (hl : ds.length < sizeLine) (p : P .next { st with loc := loc' })
    (hd : (x == ("__debug__" : Str)) = false := by decide +kernel) (hline : (ap.endLine == cp.line) = true := by rfl) (hi : interactive env = false := by rfl) (hw : swapsWith (.Call (.Attribute (.Name x px) "pop" ap) [] [] cp) none pos.line env = pure false := by rfl) :
    SF prog w B n env Z st (exec (.Expr (.Call (.Attribute (.Name x px) "pop" ap) [] [] cp) pos) env) P := by
  refine ⟨fun A s X₀ O Q E R F q => ?_⟩
  obtain ⟨m, cm, f⟩ := F.inF
  obtain ⟨v, b, a, vs, rfl, ho, ⟨nn, hp⟩, hr⟩ := f.slots _ hx
  have hlen := hr.length
  rw [List.length_append] at hlen
  simp only [List.length_cons, List.length_nil] at hlen
  obtain ⟨us, y, rfl⟩ : ∃ us y, vs = us ++ [y] := by
    rcases List.eq_nil_or_concat vs with e | ⟨us, y, e⟩
    · subst e; simp at hlen
    · exact ⟨us, y, by simpa using e⟩
  have hlen2 : us.length = ds.length := by simpa using hlen
  have hr2 : RdAll s.heap (Av X₀ env O) us ds := by
    have := hr.take ds.length
    rw [List.take_append_of_le_length (Nat.le_of_eq hlen2.symm), List.take_append_of_le_length (Nat.le_refl _), ← hlen2, List.take_length, hlen2, List.take_length] at this
    exact this
  refine wpAny_Expr_any (Call_method0 (base_of rfl _) hline ?_) hi hw
  refine wpAny_Name ((b.ln f).ld _ _ _ _ _ (Ext.refl _) ?_) hd
  refine ⟨"list", _, PySem.F.plainAttrs_list, PySem.F.slot_list_pop, PySem.F.type_list_pop, ⟨_, hp, rfl⟩, (fun c e => by cases e; exact ⟨_, hp, rfl⟩), ?_⟩
  refine PySem.P.pop_list (y := y) hp (by simp) ?_ (by simp; omega)
  have hs₂ : Heap.SameBut a s.heap (s.heap.update a (Obj.mapSeq fun xs => xs.eraseIdxIfInBounds ((us ++ [y]).toArray.size - 1))) := Heap.SameBut.update ..
  have e3 : (us ++ [y]).toArray.eraseIdxIfInBounds ((us ++ [y]).toArray.size - 1) = us.toArray := by
    unfold Array.eraseIdxIfInBounds
    simp
    rw [List.eraseIdx_append_of_length_le (Nat.le_refl _)]
    simp
  have hp₂ : (s.heap.update a (Obj.mapSeq fun xs => xs.eraseIdxIfInBounds ((us ++ [y]).toArray.size - 1))).PlainList a us.toArray := by
    have g := Heap.get?_update_self (Obj.mapSeq fun xs => xs.eraseIdxIfInBounds ((us ++ [y]).toArray.size - 1)) hp rfl
    have e4 : Obj.mapSeq (fun xs => xs.eraseIdxIfInBounds ((us ++ [y]).toArray.size - 1)) { cls := .type "list", data := .seq (us ++ [y]).toArray nn } = { cls := .type "list", data := .seq us.toArray (if us.toArray.size == (us ++ [y]).toArray.size then nn else nn + 1) } := by
      simp only [Obj.mapSeq, e3]
    exact ⟨_, by rw [g, e4]⟩
  obtain ⟨F₂, c₂⟩ := F.ownTurn hx ho hs₂ hp₂ (hr2.up fun b o n e => ⟨(hs₂.2 b fun z => n (z ▸ .inr (.inr ⟨x, ho⟩))).trans e, n⟩) up
  exact q _ _ _ _ _ _ p F₂ c₂ trivial
theorem InZ.weaken {loc' : List (Str × Slot)} (F : InZ B env Z X₀ st O h) (hs : loc'.Sublist st.loc) : InZ B env Z X₀ { st with loc := loc' } O h := by
  obtain ⟨m, cm, f⟩ := F.inF
  exact ⟨F.foot, F.stab, m, cm, { f with nodup := (hs.map _).nodup f.nodup, slots := fun p hp => f.slots p (hs.subset hp) }⟩
theorem SF.weaken {l : List (Str × Slot)} (hs : l.Sublist st.loc) (a : SF prog w B n env Z { st with loc := l } t P) : SF prog w B n env Z st t P :=
  .mk fun A s X₀ O Q E R F q => a.run A s X₀ O Q E R (F.weaken hs) q
theorem SF.freeze (hx : (x, Slot.own ds) ∈ st.loc) (up : Upd st.loc x (.r (.d (.list ds))) loc') (a : SF prog w B n env Z { st with loc := loc' } t P) : SF prog w B n env Z st t P := by
  refine ⟨fun A s X₀ O Q E R F q => ?_⟩
  obtain ⟨m, cm, f⟩ := F.inF
  obtain ⟨v, b, a₀, vs, rfl, ho, hp, hr⟩ := f.slots _ hx
  let O' : Str → Option Addr := fun y => if y = x then none else O y
  have hO' : ∀ y c, O' y = some c → y ≠ x ∧ O y = some c := by
    intro y c e
    by_cases hy : y = x
    · simp only [O', if_pos hy] at e; cases e
    · exact ⟨hy, by simpa only [O', if_neg hy] using e⟩
  have sub : ∀ c, Mu env O' c → Mu env O c := fun c z => z.imp id fun ⟨y, e⟩ => ⟨y, (hO' y c e).2⟩
  have av : ∀ c, Av X₀ env O' c → Av X₀ env O c := fun c z => z.imp id (sub c)
  have f' : InF B env X₀ { st with loc := loc' } O' s.heap m cm := by
    refine f.turn (fun y c e => f.sameO (fun _ z => z) y c (hO' y c e).2) (fun y z c e₁ e₂ => f.injO y z c (hO' y c e₁).2 (hO' z c e₂).2) (fun _ _ _ e => e) (fun c z => f.liveMu c (.inl z)) f.ns f.cell (up.nodup f.nodup) fun p hp' => ?_
    rcases up.mem f.nodup p hp' with e | ⟨e1, e2⟩
    · subst e
      refine ⟨_, b, ?_⟩
      show Rd _ _ _ _
      refine Rd.of_list (fun z => ?_) hp (hr.less av)
      rcases z with z | z | ⟨y, z⟩
      · exact f.offX a₀ (.inr ⟨x, ho⟩) z
      · exact f.offO x a₀ ho z
      · exact (hO' y a₀ z).1 (f.injO y x a₀ (hO' y a₀ z).2 ho)
    · obtain ⟨v, b, y⟩ := f.slots p e1
      exact ⟨v, b, y.less (fun c z => .inl (av c z)) fun _ _ => by simp only [O', if_neg e2]⟩
  refine a.run A s X₀ O' Q E R ⟨F.foot, F.stab, m, cm, f'⟩ fun fl fw st' O'' h' tk' p F' c y => q fl fw st' O'' h' tk' p F' ⟨fun b o n e => c.keep b o (fun z => n (sub b z)) e, fun y b e => (c.own y b e).imp (fun ⟨z, e⟩ => ⟨z, (hO' z b e).2⟩) id, fun y b e => ?_⟩ y
  by_cases hy : y = x
  · subst hy
    rw [ho] at e; cases e
    obtain ⟨n, g⟩ := hp
    refine ⟨_, c.keep a₀ _ (fun z => ?_) g⟩
    rcases z with z | ⟨y, z⟩
    · exact f.offO _ a₀ ho z
    · exact (hO' y a₀ z).1 (f.injO y _ a₀ (hO' y a₀ z).2 ho)
  · exact c.live y b (by simp only [O', if_neg hy, e])
end
end Mine
end
section
open PySem PySem.W PyProof.Rows PySem.Calls
namespace Mine
structure ItOK (prog : Program) (w : World) (A : Around) (h₀ : Heap) (X₀ : Addr → Prop) (t : Expr) (I : Addr) (fp wr : List Addr) (S : Nat → Heap → Prop) (rs : List Res) : Prop where
  sub : ∀ b ∈ wr, b ∈ fp
  own : ∀ b ∈ fp, b ∈ wr ∨ (¬ X₀ b ∧ ∃ o, h₀.get? b = some o)
  live : ∀ i h, S i h → ∀ b ∈ wr, ∃ o, h.get? b = some o
  frame : ∀ i h h', S i h → (∀ b ∈ fp, ∀ o, h.get? b = some o → h'.get? b = some o) → S i h'
  item : ∀ (i : Nat) (r : Res) (s : Shared) (X : Addr → Prop) (Q : Value → Shared → Prop) (E : Value → Shared → Prop), rs[i]? = some r → S i s.heap →
    (∀ b o, ¬ X₀ b → b ∉ wr → h₀.get? b = some o → s.heap.get? b = some o ∧ ¬ X b) → (∀ a, X a → ∃ o, s.heap.get? a = some o) →
    (∀ v h' tk, RV h' X v r → S (i + 1) h' → (∀ b o, b ∉ wr → s.heap.get? b = some o → h'.get? b = some o) → Q v { s with heap := h', toks := tk }) →
    wpAny (model prog w) A (pyNext (.ref I)) (fun o s₁ => ∃ v, o = some v ∧ wpAny (model prog w) A (letOwnedTupleGo t (.ref I) v) (fun _ s₂ => Q v s₂) E s₁) E s
  done : ∀ (s : Shared) (Q : Option Value → Shared → Prop) (E : Value → Shared → Prop), S rs.length s.heap →
    (∀ h' tk, (∀ b o, b ∉ wr → s.heap.get? b = some o → h'.get? b = some o) → Q none { s with heap := h', toks := tk }) → wpAny (model prog w) A (pyNext (.ref I)) Q E s
  self : ∀ (i : Nat) (s : Shared) (Q : Value → Shared → Prop) (E : Value → Shared → Prop), S i s.heap → Q (.ref I) s → wpAny (model prog w) A (pyIter (.ref I)) Q E s
section
variable (prog : Program) (w : World) (B : Heap)
structure IT (n : Nat) (env : Env) (nu : List (Str × Res)) (t e : Expr) (rs : List Res) : Prop where
  run : ∀ (A : Around) (s : Shared) (X : Addr → Prop) (Q : Value → Shared → Prop) (E : Value → Shared → Prop), Room n A → OkH B s.heap X → Nm env s.heap X nu →
    (∀ h' tk' I fp wr S, Ext s.heap h' → ItOK prog w A h' X t I fp wr S rs → S 0 h' → (∀ b ∈ wr, s.heap.get? b = none ∧ ∃ o, h'.get? b = some o) → Q (.ref I) { s with heap := h', toks := tk' }) →
    wpAny (model prog w) A (eval e env) (fun x s₁ => wpAny (model prog w) A (pyIter x) Q E s₁) E s
structure ITD (D : Prop) (n : Nat) (env : Env) (nu : List (Str × Res)) (t e : Expr) (PL : List Res → Prop) : Prop where
  run : ∀ (A : Around) (s : Shared) (X : Addr → Prop) (Q : Value → Shared → Prop) (E : Value → Shared → Prop), Room n A → OkH B s.heap X → Nm env s.heap X nu →
    (∀ h' tk' dr' I fp wr S rs, (D ∨ dr' = s.drawn) → PL rs → Ext s.heap h' → ItOK prog w A h' X t I fp wr S rs → S 0 h' → (∀ b ∈ wr, s.heap.get? b = none ∧ ∃ o, h'.get? b = some o) → Q (.ref I) { s with heap := h', toks := tk', drawn := dr' }) →
    wpAny (model prog w) A (eval e env) (fun x s₁ => wpAny (model prog w) A (pyIter x) Q E s₁) E s
end
theorem IT.toD {prog : Program} {w : World} {B : Heap} {D : Prop} {n : Nat} {env : Env} {nu : List (Str × Res)} {t e : Expr} {rs : List Res} (h : IT prog w B n env nu t e rs) : ITD prog w B D n env nu t e (· = rs) :=
  .mk fun A s X Q E R O N q => h.run A s X Q E R O N fun h' tk' I fp wr S k ok hS fr => q h' tk' s.drawn I fp wr S rs (.inr rfl) rfl k ok hS fr
theorem get_size_none (h : Heap) : h.get? h.objs.size = none := by
  cases g : h.get? h.objs.size with
  | none => rfl
  | some o => exact absurd (Heap.lt_size g) (Nat.lt_irrefl _)
noncomputable def ownsTuples : List String := ["enumerate", "zip", "dict_itemiterator", "dict_reverseitemiterator", "odict_iterator", "itertools.zip_longest", "itertools.pairwise"]
section
variable {prog : Program} {w : World} {B : Heap} {n : Nat} {env : Env} {nu : List (Str × Res)} {t e : Expr} {a : Res} {ds : List PyData} {rs : List Res}
theorem letGo_plain {M : Model} {A : Around} {s : Shared} {Q : Unit → Shared → Prop} {E : Value → Shared → Prop} {I : Addr} {o : Obj} {T : String} {v : Value} (ho : s.heap.get? I = some o) (hc : o.cls = .type T) (hT : ownsTuples.contains T = false) (q : Q () s) :
    wpAny M A (letOwnedTupleGo t (.ref I) v) Q E s := by
  have main : wpAny M A (do
      let (.ref r, .ref a) := ((.ref I : Value), v) | return
      let o ← load r
      match o.cls, o.data with
      | .type n, .fields vs =>
        if ["enumerate", "zip", "dict_itemiterator", "dict_reverseitemiterator", "odict_iterator", "itertools.zip_longest", "itertools.pairwise"].contains n && vs[0]? == some (rawInt a) then
          rule "for.unpacks-the-owned-tuple"
          updateField r 0 .none
      | _, _ => pure () : Sem Unit) Q E s := by
    cases v with
    | ref a =>
      refine wpAny_bind (wpAny_load ho ?_)
      rw [hc]
      cases o.data with
      | fields vs =>
        show wpAny M A (if (ownsTuples.contains T && vs[0]? == some (rawInt a)) = true then _ else _) Q E s
        rw [hT, Bool.false_and, if_neg Bool.false_ne_true]
        exact wpAny_pure q
      | _ => exact wpAny_pure q
    | _ => exact wpAny_pure q
  cases t <;> first | exact main | exact wpAny_pure q
theorem RVs.get {h : Heap} {X : Addr → Prop} {vs : List Value} {rs : List Res} (x : RVs h X vs rs) {i : Nat} {r : Res} (e : rs[i]? = some r) : ∃ v, vs[i]? = some v ∧ RV h X v r := by
  induction x generalizing i with
  | nil => cases e
  | cons a _ ih =>
    cases i with
    | zero => cases e; exact ⟨_, rfl, a⟩
    | succ i => exact ih e
theorem RdAll.rvs {h : Heap} {X : Addr → Prop} {vs : List Value} {ds : List PyData} (x : RdAll h X vs ds) : RVs h X vs (ds.map .d) := by
  induction vs generalizing ds with
  | nil => cases x; exact .nil
  | cons v vs ih => cases x with | cons a r => exact .cons a (ih r)
theorem ItOK.list {A : Around} {h₁ : Heap} {X : Addr → Prop} {a : Addr} {vs : List Value} (hh : A.handled = none) (hl : h₁.IsList a vs.toArray) (nx : ¬ X a) (ra : RVs h₁ X vs rs) :
    ItOK prog w A (h₁.push { cls := .type "list_iterator", data := .fields #[.ref a, .int 0 0] }) X t h₁.objs.size [h₁.objs.size, a] [h₁.objs.size] (fun i h => h.IsListIter h₁.objs.size a i ∧ h.IsList a vs.toArray) rs := by
  have hne : a ≠ h₁.objs.size := by obtain ⟨o, g, _⟩ := hl; exact Nat.ne_of_lt (Heap.lt_size g)
  have W := Walks.list (prog := prog) (w := w) hh h₁.objs.size a hne vs.toArray
  have hlen := ra.length
  refine ⟨W.sub, fun b hb => ?_, fun i h st b hb => ?_, W.frame, fun i r s X' Q E hr st hk hX q => ?_, fun s Q E st q => W.done s Q E (by simpa [hlen] using st) q, W.self⟩
  · rcases List.mem_cons.mp hb with rfl | hb
    · exact .inl (List.mem_singleton.mpr rfl)
    · rw [List.mem_singleton.mp hb]
      obtain ⟨o, g, _⟩ := hl
      exact .inr ⟨nx, o, Heap.get?_push_of_some _ g⟩
  · rw [List.mem_singleton.mp hb]
    obtain ⟨⟨o, g, _⟩, _⟩ := st
    exact ⟨o, g⟩
  · have hi : i < vs.toArray.size := by have := (List.getElem?_eq_some_iff.mp hr).1; simp only [List.size_toArray]; omega
    refine W.item i s _ E hi st fun v h' tk hv st' hk' => ⟨v, rfl, ?_⟩
    obtain ⟨⟨o, g, hc, _⟩, _⟩ := id st'
    refine letGo_plain g hc (by decide) (q v h' tk ?_ st' hk')
    obtain ⟨u, hu, y⟩ := ra.get hr
    have : v = u := by
      have hv' : vs[i]? = some v := by simpa using hv
      rw [hu] at hv'; exact (Option.some.inj hv').symm
    subst this
    refine RV.up (fun b o nb e => ?_) y
    have hb : b ≠ h₁.objs.size := Nat.ne_of_lt (Heap.lt_size e)
    obtain ⟨e', nb'⟩ := hk b o nb (fun z => hb (List.mem_singleton.mp z)) (Heap.get?_push_of_some _ e)
    exact ⟨hk' b o (fun z => hb (List.mem_singleton.mp z)) e', nb'⟩
theorem IT.seqOf (he : EV prog w B n env nu e a) (hl : ∀ (h : Heap) (X : Addr → Prop) (u : Value), RV h X u a → ∃ b vs, u = .ref b ∧ ¬ X b ∧ h.IsList b (List.toArray vs) ∧ RVs h X vs rs) : IT prog w B n env nu t e rs := by
  refine ⟨fun A s X Q E R O N q => ?_⟩
  refine he.run A s X _ E R O N fun v h₁ t₁ k₁ y₁ => ?_
  obtain ⟨b, vs, rfl, nx, l, ra⟩ := hl _ _ _ y₁
  refine wpAny_pyIter_list l ?_
  have k₂ := k₁.pushR { cls := .type "list_iterator", data := .fields #[.ref b, .int 0 0] }
  refine q _ t₁ _ _ _ _ k₂ (ItOK.list R.handled l nx ra) ⟨⟨_, Heap.get?_push_size _ rfl, rfl, rfl⟩, IsList.ext l (Ext.push _ _)⟩ fun c hc => ?_
  rw [List.mem_singleton.mp hc]
  refine ⟨?_, _, Heap.get?_push_size _ rfl⟩
  cases g : s.heap.get? h₁.objs.size with
  | none => rfl
  | some o => exact absurd (Heap.lt_size (k₁ _ _ g)) (Nat.lt_irrefl _)
theorem IT.list (he : EV prog w B n env nu e (.d (.list ds))) : IT prog w B n env nu t e (ds.map .d) :=
  IT.seqOf he fun h X u y => by
    obtain ⟨b, vs, rfl, nx, hl, ra⟩ := Rd.list_inv y
    exact ⟨b, vs, rfl, nx, hl, ra.rvs⟩
theorem ItOK.tuple {A : Around} {h₁ : Heap} {X : Addr → Prop} {a : Addr} {vs : List Value} (hh : A.handled = none) (hl : h₁.IsTuple a vs.toArray) (nx : ¬ X a) (ra : RVs h₁ X vs rs) :
    ItOK prog w A (h₁.push { cls := .type "tuple_iterator", data := .fields #[.ref a, .int 0 0] }) X t h₁.objs.size [h₁.objs.size, a] [h₁.objs.size] (fun i h => h.IsTupleIter h₁.objs.size a i ∧ h.IsTuple a vs.toArray) rs := by
  have hne : a ≠ h₁.objs.size := by obtain ⟨o, g, _⟩ := hl; exact Nat.ne_of_lt (Heap.lt_size g)
  have W := Walks.tuple (prog := prog) (w := w) hh h₁.objs.size a hne vs.toArray
  have hlen := ra.length
  refine ⟨W.sub, fun b hb => ?_, fun i h st b hb => ?_, W.frame, fun i r s X' Q E hr st hk hX q => ?_, fun s Q E st q => W.done s Q E (by simpa [hlen] using st) q, W.self⟩
  · rcases List.mem_cons.mp hb with rfl | hb
    · exact .inl (List.mem_singleton.mpr rfl)
    · rw [List.mem_singleton.mp hb]
      obtain ⟨o, g, _⟩ := hl
      exact .inr ⟨nx, o, Heap.get?_push_of_some _ g⟩
  · rw [List.mem_singleton.mp hb]
    obtain ⟨⟨o, g, _⟩, _⟩ := st
    exact ⟨o, g⟩
  · have hi : i < vs.toArray.size := by have := (List.getElem?_eq_some_iff.mp hr).1; simp only [List.size_toArray]; omega
    refine W.item i s _ E hi st fun v h' tk hv st' hk' => ⟨v, rfl, ?_⟩
    obtain ⟨⟨o, g, hc, _⟩, _⟩ := id st'
    refine letGo_plain g hc (by decide) (q v h' tk ?_ st' hk')
    obtain ⟨u, hu, y⟩ := ra.get hr
    have : v = u := by
      have hv' : vs[i]? = some v := by simpa using hv
      rw [hu] at hv'; exact (Option.some.inj hv').symm
    subst this
    refine RV.up (fun b o nb e => ?_) y
    have hb : b ≠ h₁.objs.size := Nat.ne_of_lt (Heap.lt_size e)
    obtain ⟨e', nb'⟩ := hk b o nb (fun z => hb (List.mem_singleton.mp z)) (Heap.get?_push_of_some _ e)
    exact ⟨hk' b o (fun z => hb (List.mem_singleton.mp z)) e', nb'⟩
theorem IT.tuple (he : EV prog w B n env nu e (.d (.tuple ds))) : IT prog w B n env nu t e (ds.map .d) := by
  refine ⟨fun A s X Q E R O N q => ?_⟩
  refine he.run A s X _ E R O N fun v h₁ t₁ k₁ y₁ => ?_
  obtain ⟨b, vs, rfl, nx, l, ra⟩ := Rd.tuple_inv y₁
  refine wpAny_pyIter_tuple l ?_
  have k₂ := k₁.pushR { cls := .type "tuple_iterator", data := .fields #[.ref b, .int 0 0] }
  refine q _ t₁ _ _ _ _ k₂ (ItOK.tuple R.handled l nx ra.rvs) ⟨⟨_, Heap.get?_push_size _ rfl, rfl, rfl⟩, l.keeps (Ext.push _ _)⟩ fun c hc => ?_
  rw [List.mem_singleton.mp hc]
  refine ⟨?_, _, Heap.get?_push_size _ rfl⟩
  cases g : s.heap.get? h₁.objs.size with
  | none => rfl
  | some o => exact absurd (Heap.lt_size (k₁ _ _ g)) (Nat.lt_irrefl _)
noncomputable def upto (k : Nat) : List Res := (List.range k).map fun (i : Nat) => .d (.int (i : Int))
end
end Mine
end
section
open PySem PySem.W PyProof.Rows PySem.Calls
namespace Mine
noncomputable def orS (X Y : Addr → Prop) : Addr → Prop := fun a => X a ∨ Y a
structure ChZ (env : Env) (Z : Addr → Prop) (O : Str → Option Addr) (h : Heap) (O' : Str → Option Addr) (h' : Heap) : Prop where
  keep : ∀ b o, ¬ Mu env O b → ¬ Z b → h.get? b = some o → h'.get? b = some o
  own : ∀ x a, O' x = some a → (∃ y, O y = some a) ∨ h.get? a = none
  live : ∀ x a, O x = some a → ∃ o, h'.get? a = some o
  liveZ : ∀ a, Z a → ∃ o, h'.get? a = some o
section
variable (prog : Program) (w : World) (B : Heap)
structure GF (D : Prop) (n : Nat) (env : Env) (Z : Addr → Prop) (st : St) (t : Sem Flow) (P : (Addr → Prop) → Fl → St → Prop) : Prop where
  run : ∀ (A : Around) (s : Shared) (X₀ : Addr → Prop) (O : Str → Option Addr) (Q : Flow → Shared → Prop) (E : Value → Shared → Prop), Room n A → (∀ a, Z a → ¬ X₀ a) → InZ B env Z (orS X₀ Z) st O s.heap →
    (∀ Z' fl f st' O' h' tk' dr', (D ∨ dr' = s.drawn) → P Z' fl st' → (∀ a, Z a → Z' a) → (∀ a, Z' a → Z a ∨ s.heap.get? a = none) → InZ B env Z' (orS X₀ Z') st' O' h' → ChZ env Z O s.heap O' h' → FlOk h' X₀ fl f → Q f { s with heap := h', toks := tk', drawn := dr' }) → wpAny (model prog w) A t Q E s
end
section
variable {prog : Program} {w : World} {B : Heap} {n k : Nat} {env : Env} {Z X₀ X₁ : Addr → Prop} {st st' : St} {O : Str → Option Addr} {h h' : Heap} {t : Sem Flow} {m cm : Str → Option Value}
theorem FlOk.less {h : Heap} {X Y : Addr → Prop} {fl : Fl} {f : Flow} (s : ∀ a, Y a → X a) (y : FlOk h X fl f) : FlOk h Y fl f := by
  cases fl <;> cases f <;> first | exact y | exact RV.less y s
theorem orS_of {X Z : Addr → Prop} (s : ∀ a, Z a → X a) : orS X Z = X := funext fun a => propext ⟨fun z => z.elim id (s a), .inl⟩
theorem InF.outer (F : InF B env X₀ st O h m cm) (keep : ∀ b o, ¬ X₀ b → h.get? b = some o → h'.get? b = some o) (live : ∀ a, X₀ a → ∃ o, h'.get? a = some o) (ext : st.ext h') : InF B env X₀ st O h' m cm := by
  have lv : ∀ a, Mu env O a → ∃ o, h'.get? a = some o := fun a z => by
    obtain ⟨o, e⟩ := F.liveMu a z
    exact ⟨o, keep a o (F.offX a z) e⟩
  refine { F with ok := ⟨fun b o e => keep b o (fun z => F.ok.inBase e (.inl z)) (F.ok.base b o e), fun a z => z.elim (live a) (lv a), F.ok.off⟩, ns := F.ns.at' fun o e => keep _ o (F.offX _ (.inl (.inl rfl))) e, cell := fun x c hc => ?_, slots := fun p hp => ?_, ext := ext }
  · obtain ⟨o, e, r⟩ := F.cell x c hc
    exact ⟨o, keep c o (F.offX c (.inl (.inr ⟨_, mem_of_lookup hc, rfl⟩))) e, r⟩
  · obtain ⟨v, b, y⟩ := F.slots p hp
    refine ⟨v, b, ?_⟩
    have up : ∀ b o, ¬ Av X₀ env O b → h.get? b = some o → h'.get? b = some o ∧ ¬ Av X₀ env O b := fun b o nb e => ⟨keep b o (fun z => nb (.inl z)) e, nb⟩
    obtain ⟨x, sl⟩ := p
    cases sl with
    | r r => exact RV.up up y
    | own ds =>
      obtain ⟨a, vs, e, o, p, r⟩ := y
      exact ⟨a, vs, e, o, p.at fun o' e' => keep a o' (F.offX a (.inr ⟨_, o⟩)) e', RdAll.up up r⟩
theorem InF.addX (F : InF B env X₀ st O h m cm) (k : Ext h h') (new : ∀ a, X₁ a → X₀ a ∨ (h.get? a = none ∧ ∃ o, h'.get? a = some o)) (sub : ∀ a, X₀ a → X₁ a) : InF B env X₁ st O h' m cm := by
  have G := F.grow k
  have nb : ∀ a o, h.get? a = some o → X₁ a → X₀ a := fun a o e z => (new a z).elim id fun y => by rw [y.1] at e; cases e
  have mu : ∀ a, Mu env O a → ¬ X₁ a := fun a z y => by
    obtain ⟨o, e⟩ := F.liveMu a z
    exact F.offX a z (nb a o e y)
  refine { G with ok := ⟨G.ok.base, fun a z => ?_, fun a z => ?_⟩, offX := mu, slots := fun p hp => ?_, stab := fun h h' e c => G.stab h h' e fun a o z => c a o (sub a z) }
  · rcases z with z | z
    · rcases new a z with z | z
      · exact G.ok.live a (.inl z)
      · exact z.2
    · exact G.ok.live a (.inr z)
  · rcases z with z | z
    · rcases new a z with z | z
      · exact G.ok.off a (.inl z)
      · cases g : B.get? a with
        | none => rfl
        | some o => have := F.ok.base a o g; rw [z.1] at this; cases this
    · exact G.ok.off a (.inr z)
  · obtain ⟨v, b, y⟩ := F.slots p hp
    refine ⟨v, b, ?_⟩
    have up : ∀ b o, ¬ Av X₀ env O b → h.get? b = some o → h'.get? b = some o ∧ ¬ Av X₁ env O b := fun b o n e => ⟨k b o e, fun z => z.elim (fun z => n (.inl (nb b o e z))) fun z => n (.inr z)⟩
    obtain ⟨x, sl⟩ := p
    cases sl with
    | r r => exact RV.up up y
    | own ds =>
      obtain ⟨a, vs, e, o, p, r⟩ := y
      exact ⟨a, vs, e, o, PlainList.ext p k, RdAll.up up r⟩
theorem InF.dropX (F : InF B env X₁ st O h m cm) (sub : ∀ a, X₀ a → X₁ a) (stab : ∀ h h' : Heap, st.ext h → (∀ a o, X₀ a → h.get? a = some o → h'.get? a = some o) → st.ext h') : InF B env X₀ st O h m cm := by
  have av : ∀ a, Av X₀ env O a → Av X₁ env O a := fun a z => z.imp (sub a) id
  refine { F with ok := F.ok.sub av, offX := fun a z y => F.offX a z (sub a y), slots := fun p hp => ?_, stab := stab }
  obtain ⟨v, b, y⟩ := F.slots p hp
  refine ⟨v, b, ?_⟩
  obtain ⟨x, sl⟩ := p
  cases sl with
  | r r => exact RV.less y av
  | own ds => obtain ⟨a, vs, e, o, p, r⟩ := y; exact ⟨a, vs, e, o, p, r.less av⟩
theorem InZ.addX (F : InZ B env Z X₀ st O h) (k : Ext h h') (new : ∀ a, X₁ a → X₀ a ∨ (h.get? a = none ∧ ∃ o, h'.get? a = some o)) (sub : ∀ a, X₀ a → X₁ a) : InZ B env Z X₁ st O h' :=
  let ⟨m, cm, f⟩ := F.inF; ⟨fun a z => sub a (F.foot a z), F.stab, m, cm, f.addX k new sub⟩
theorem InZ.dropX (F : InZ B env Z X₁ st O h) (sub : ∀ a, X₀ a → X₁ a) (foot : ∀ a, Z a → X₀ a) : InZ B env Z X₀ st O h :=
  let ⟨m, cm, f⟩ := F.inF; ⟨foot, F.stab, m, cm, f.dropX sub fun h h' e c => F.stab h h' e fun a o z => c a o (foot a z)⟩
theorem InZ.outer (F : InZ B env Z X₀ st O h) (keep : ∀ b o, ¬ X₀ b ∨ Z b → h.get? b = some o → h'.get? b = some o) (live : ∀ a, X₀ a → ∃ o, h'.get? a = some o) : InZ B env Z X₀ st O h' :=
  let ⟨m, cm, f⟩ := F.inF; ⟨F.foot, F.stab, m, cm, f.outer (fun b o n => keep b o (.inl n)) live (F.stab _ _ f.ext fun a o z => keep a o (.inr z))⟩
theorem Chg.toZ {O' : Str → Option Addr} (F : InZ B env Z X₀ st O h) (c : Chg env O h O' h') : ChZ env Z O h O' h' :=
  ⟨fun b o n _ => c.keep b o n, c.own, c.live, fun a z => by
    obtain ⟨m, cm, f⟩ := F.inF
    obtain ⟨o, e⟩ := f.ok.live a (.inl (F.foot a z))
    exact ⟨o, c.keep a o (fun y => f.offX a y (F.foot a z)) e⟩⟩
theorem ChZ.and {O' O'' : Str → Option Addr} {h'' : Heap} {Z' : Addr → Prop} {st st' : St} (F : InZ B env Z X₀ st O h) (F' : InZ B env Z' X₁ st' O' h') (zs : ∀ a, Z a → Z' a) (zn : ∀ a, Z' a → Z a ∨ h.get? a = none) (a : ChZ env Z O h O' h') (b : ChZ env Z' O' h' O'' h'') : ChZ env Z O h O'' h'' where
  keep := fun c o n nz e => b.keep c o (fun z => by
    rcases z with z | ⟨y, z⟩
    · exact n (.inl z)
    · rcases a.own y c z with w | w
      · exact n (.inr w)
      · rw [w] at e; cases e) (fun z => (zn c z).elim nz fun w => by rw [w] at e; cases e) (a.keep c o n nz e)
  own := fun x c e => by
    rcases b.own x c e with ⟨y, w⟩ | w
    · exact a.own y c w
    · cases g : h.get? c with
      | none => exact .inr rfl
      | some o =>
        by_cases n : Mu env O c
        · rcases n with n | ⟨z, n⟩
          · obtain ⟨o', e'⟩ := F'.liveMu c (.inl n)
            rw [w] at e'; cases e'
          · exact .inl ⟨z, n⟩
        · by_cases nz : Z c
          · obtain ⟨o', e'⟩ := a.liveZ c nz
            rw [w] at e'; cases e'
          · rw [a.keep c o n nz g] at w; cases w
  live := fun x c e => by
    obtain ⟨m, cm, f⟩ := F.inF
    obtain ⟨o, g⟩ := a.live x c e
    by_cases n : Mu env O' c
    · rcases n with n | ⟨z, n⟩
      · exact absurd n (f.offO x c e)
      · exact b.live z c n
    · by_cases nz : Z' c
      · exact b.liveZ c nz
      · exact ⟨o, b.keep c o n nz g⟩
  liveZ := fun c z => b.liveZ c (zs c z)
theorem SF.toG {D : Prop} {P : Fl → St → Prop} {P' : (Addr → Prop) → Fl → St → Prop} (a : SF prog w B n env Z st t P) (i : ∀ fl st', P fl st' → P' Z fl st') : GF prog w B D n env Z st t P' := by
  refine ⟨fun A s X₀ O Q E R _ F q => ?_⟩
  refine a.run A s _ O Q E R F fun fl f st' O' h' tk' p F' c y => ?_
  exact q Z fl f st' O' h' tk' s.drawn (.inr rfl) (i _ _ p) (fun _ z => z) (fun _ z => .inl z) F' (c.toZ F) (y.less fun _ z => .inl z)
theorem GF.toS {P : Fl → St → Prop} (a : GF prog w B False n env Z st t fun Z' fl st' => Z' = Z ∧ P fl st') (hZ : ∀ a, ¬ Z a) : SF prog w B n env Z st t P := by
  refine ⟨fun A s X₀ O Q E R F q => ?_⟩
  have e1 : orS X₀ Z = X₀ := orS_of fun a z => absurd z (hZ a)
  refine a.run A s X₀ O Q E R (fun b z => absurd z (hZ b)) (e1.symm ▸ F) fun Z' fl f st' O' h' tk' dr' hdr p _ _ F' c y => ?_
  obtain ⟨rfl, p⟩ := p
  obtain rfl : dr' = s.drawn := hdr.elim False.elim id
  exact q fl f st' O' h' tk' p (e1 ▸ F') ⟨fun b o n => c.keep b o n (hZ b), c.own, c.live⟩ y
end
end Mine
end
section
open PySem PySem.W PyProof.Rows PySem.Calls
namespace Mine
section
variable {prog : Program} {w : World} {A : Around} {s : Shared}
theorem forLoop_any {R : Result → Shared → Prop} {target it body orelse env} (I : Nat → Shared → Prop)
    (turn : ∀ n s, I n s → ∀ E, wpAny (model prog w) A (pyNext it) (fun r s₁ => match r with
      | none => wpAny (model prog w) A (execs orelse env) (fun f s₃ => R (.ok f) s₃) E s₁
      | some v => wpAny (model prog w) A (letOwnedTupleGo target it v) (fun _ s₂ => wpAny (model prog w) A (assign target env v) (fun _ s₂ => wpAny (model prog w) A (execs body env) (fun f s₃ => match f with
          | .next | .cont => ∃ m, m < n ∧ I m s₃
          | .brk => R (.ok .next) s₃
          | .ret v => R (.ok (.ret v)) s₃) E s₂) E s₂) E s₁) E s)
    (n : Nat) (h : I n s) : codeAny (model prog w) A (.forLoop target it body orelse env) R s := by
  refine codeAny_loop' rfl I (fun n s hI => ?_) n h
  show wpAny _ _ ((forTurn target it body orelse env).onRaise (fun x => do noteFrame x env; theTreesLotGoes x)) _ _ s
  refine wpAny_noted ?_
  simp only [forTurn]
  refine wpAny_bind (wpAny_standAt (wpAny_bind (wpAny_onRaise (wpAny_mono (turn n s hI _) (fun r s₁ h₁ => ?_) fun _ _ h' => wpAny_standAt h'))))
  cases r with
  | none => exact wpAny_pure (.inr ⟨rfl, codeAny_block h₁⟩)
  | some v =>
    refine wpAny_bind (wpAny_mono h₁ (fun _ s₂ h₂ => ?_) fun _ _ h' => h')
    refine wpAny_bind (wpAny_mono h₂ (fun _ s₂ h₂ => wpAny_bind (wpAny_mono h₂ (fun f s₃ h₃ => ?_) fun _ _ h' => h')) fun _ _ h' => h')
    cases f with
    | next => exact wpAny_pure (.inl ⟨rfl, h₃⟩)
    | cont => exact wpAny_pure (.inl ⟨rfl, h₃⟩)
    | brk => exact wpAny_pure h₃
    | ret v => exact wpAny_pure h₃
end
section
variable {prog : Program} {w : World} {B : Heap} {n k : Nat} {env : Env} {Z X₀ X₁ : Addr → Prop} {st st' : St} {O : Str → Option Addr} {h h' : Heap} {m cm : Str → Option Value} {t iter : Expr} {body orelse : List Stmt} {rs : List Res} {pos : Pos}
theorem ChZ.alive {O' : Str → Option Addr} (F' : InZ B env X₁ X₀ st' O' h') (c : ChZ env Z O h O' h') (a : Addr) (l : ∃ o, h.get? a = some o) : ∃ o, h'.get? a = some o := by
  obtain ⟨o, e⟩ := l
  by_cases n : Mu env O a
  · rcases n with n | ⟨x, n⟩
    · exact F'.liveMu a (.inl n)
    · exact c.live x a n
  · by_cases z : Z a
    · exact c.liveZ a z
    · exact ⟨o, c.keep a o n z e⟩
theorem InZ.outDrop (F : InZ B env Z X₁ st O h) (sub : ∀ a, X₀ a → X₁ a) (foot : ∀ a, Z a → X₀ a) (keep : ∀ b o, ¬ X₁ b ∨ X₀ b → h.get? b = some o → h'.get? b = some o) : InZ B env Z X₀ st O h' := by
  obtain ⟨m, cm, f⟩ := F.inF
  have mu : ∀ a o, Mu env O a → h.get? a = some o → h'.get? a = some o := fun a o z => keep a o (.inl (f.offX a z))
  have ext : st.ext h' := F.stab _ _ f.ext fun a o z => keep a o (.inr (foot a z))
  have up : ∀ b o, ¬ Av X₁ env O b → h.get? b = some o → h'.get? b = some o ∧ ¬ Av X₀ env O b := fun b o nb e => ⟨keep b o (.inl fun z => nb (.inl z)) e, fun z => nb (z.imp (sub b) id)⟩
  refine ⟨foot, F.stab, m, cm, ⟨⟨fun b o e => keep b o (.inl fun z => f.ok.inBase e (.inl z)) (f.ok.base b o e), fun a z => ?_, fun a z => f.ok.off a (z.imp (sub a) id)⟩, f.kind, f.ns.at' fun o e => mu _ o (.inl (.inl rfl)) e, fun x c hc => ?_, f.apart, f.offL, fun a z y => f.offX a z (sub a y), f.offO, f.injO, f.nodup, fun p hp => ?_, ext, fun h h' e c => F.stab h h' e fun a o z => c a o (foot a z)⟩⟩
  · rcases z with z | z
    · obtain ⟨o, e⟩ := f.ok.live a (.inl (sub a z)); exact ⟨o, keep a o (.inr z) e⟩
    · obtain ⟨o, e⟩ := f.ok.live a (.inr z); exact ⟨o, mu a o z e⟩
  · obtain ⟨o, e, r⟩ := f.cell x c hc
    exact ⟨o, mu c o (.inl (.inr ⟨_, mem_of_lookup hc, rfl⟩)) e, r⟩
  · obtain ⟨v, b, y⟩ := f.slots p hp
    refine ⟨v, b, ?_⟩
    obtain ⟨x, sl⟩ := p
    cases sl with
    | r r => exact RV.up up y
    | own ds =>
      obtain ⟨a, vs, e, o, p, r⟩ := y
      exact ⟨a, vs, e, o, p.at fun o' e' => mu a o' (.inr ⟨_, o⟩) e', RdAll.up up r⟩
structure ITZ (prog : Program) (w : World) (B : Heap) (D : Prop) (n : Nat) (env : Env) (Z : Addr → Prop) (st : St) (t e : Expr) (PL : List Res → Prop) : Prop where
  run : ∀ (A : Around) (s : Shared) (X₀ : Addr → Prop) (O : Str → Option Addr) (Q : Value → Shared → Prop) (E : Value → Shared → Prop), Room n A → InZ B env Z (orS X₀ Z) st O s.heap →
    (∀ h' tk' dr' I fp wr S rs, (D ∨ dr' = s.drawn) → PL rs → Ext s.heap h' → ItOK prog w A h' (Av (orS X₀ Z) env O) t I fp wr S rs → S 0 h' → (∀ b ∈ wr, s.heap.get? b = none ∧ ∃ o, h'.get? b = some o) → Q (.ref I) { s with heap := h', toks := tk', drawn := dr' }) →
    wpAny (model prog w) A (eval e env) (fun x s₁ => wpAny (model prog w) A (pyIter x) Q E s₁) E s
theorem ITD.toZ {D : Prop} {PL : List Res → Prop} (it : ITD prog w B D n env (keepN st.loc) t iter PL) : ITZ prog w B D n env Z st t iter PL :=
  ⟨fun A s X₀ O Q E R F q => by
    obtain ⟨m, cm, f⟩ := F.inF
    exact it.run A s _ Q E R f.ok f.keepNm q⟩
theorem GF.forZ {D : Prop} {PL : List Res → Prop} {P : (Addr → Prop) → Fl → St → Prop} (it : ITZ prog w B D n env Z st t iter PL)
    (main : ∀ rs, PL rs → ∃ Inv : Nat → (Addr → Prop) → St → Prop, Inv 0 Z st ∧
      (∀ i r Z' st', rs[i]? = some r → Inv i Z' st' → ∃ st₁, AS prog w B n env Z' st' t r st₁ ∧ GF prog w B D n env Z' st₁ (execs body env) fun Z'' fl st'' => match fl with
        | .next | .cont => Inv (i + 1) Z'' st''
        | .brk => P Z'' .next st''
        | .ret r => P Z'' (.ret r) st'') ∧
      (∀ Z' st', Inv rs.length Z' st' → GF prog w B D n env Z' st' (execs orelse env) P))
    (hs : ∀ x, foldedSetIterable iter env x = pure x := by intro _; rfl) : GF prog w B D n env Z st (exec (.For t iter body orelse pos) env) P := by
  refine ⟨fun A s X₀ O Q E R hd F q => ?_⟩
  obtain ⟨m, cm, f⟩ := F.inF
  have hE : ∀ {T : Sem Value} {Q' : Value → Shared → Prop} {s : Shared}, True := trivial
  refine wpAny_For (it.run A s X₀ O _ E R F fun h₁ t₁ dr₁ I fp wr S rs hd₁ hPL k₁ ok hS fresh => ?_) hs
  obtain ⟨Inv, h0, turn, fin⟩ := main rs hPL
  -- the loop
  let X₁ : (Addr → Prop) → Addr → Prop := fun Z' => orS (orS X₀ Z') (· ∈ wr)
  let Inv' : Nat → Shared → Prop := fun j s' => ∃ i Z' st' O' h' tk' dr', j = rs.length - i ∧ i ≤ rs.length ∧ s' = { s with heap := h', toks := tk', drawn := dr' } ∧ (D ∨ dr' = s.drawn) ∧ Inv i Z' st' ∧ InZ B env Z' (X₁ Z') st' O' h' ∧ S i h' ∧
    (∀ a, Z a → Z' a) ∧ (∀ a, Z' a → Z a ∨ s.heap.get? a = none) ∧ (∀ a, Z' a → a ∉ wr ∧ (Z a ∨ h₁.get? a = none)) ∧
    (∀ b o, ¬ Mu env O b → ¬ Z b → b ∉ wr → h₁.get? b = some o → h'.get? b = some o) ∧ (∀ x a, O' x = some a → (∃ y, O y = some a) ∨ h₁.get? a = none) ∧ (∀ x a, O x = some a → ∃ o, h'.get? a = some o) ∧ (∀ a, Z a → ∃ o, h'.get? a = some o)
  -- what is had at the end
  have back : ∀ {Z' st' O' h'}, InZ B env Z' (X₁ Z') st' O' h' → InZ B env Z' (orS X₀ Z') st' O' h' := fun F' => F'.dropX (fun a z => .inl z) fun a z => .inr z
  have chg : ∀ {h' : Heap} {O' : Str → Option Addr}, (∀ b o, ¬ Mu env O b → ¬ Z b → b ∉ wr → h₁.get? b = some o → h'.get? b = some o) → (∀ x a, O' x = some a → (∃ y, O y = some a) ∨ h₁.get? a = none) → (∀ x a, O x = some a → ∃ o, h'.get? a = some o) → (∀ a, Z a → ∃ o, h'.get? a = some o) → ChZ env Z O s.heap O' h' :=
    fun c1 c2 c3 c4 => ⟨fun b o n nz e => c1 b o n nz (fun hb => by rw [(fresh b hb).1] at e; cases e) (k₁ b o e), fun x a e => (c2 x a e).imp id fun w => (by
      cases g : s.heap.get? a with
      | none => rfl
      | some o => rw [k₁ a o g] at w; cases w), c3, c4⟩
  refine forLoop_any Inv' (fun j s' hI E' => ?_) rs.length ⟨0, Z, st, O, h₁, t₁, dr₁, rfl, Nat.zero_le _, rfl, hd₁, h0, ?_, hS, fun _ z => z, fun _ z => .inl z, fun a z => ⟨fun hw => ?_, .inl z⟩, fun b o _ _ _ e => e, fun x a e => .inl ⟨x, e⟩, fun x a e => ?_, fun a z => ?_⟩
  rotate_left
  · exact F.addX k₁ (fun a z => z.imp id fun hw => fresh a hw) fun a z => .inl z
  · obtain ⟨o, e⟩ := f.ok.live a (.inl (F.foot a z))
    rw [(fresh a hw).1] at e; cases e
  · obtain ⟨o, e⟩ := F.liveMu a (.inr ⟨x, e⟩)
    exact ⟨o, k₁ a o e⟩
  · obtain ⟨o, e⟩ := f.ok.live a (.inl (F.foot a z))
    exact ⟨o, k₁ a o e⟩
  obtain ⟨i, Z', st', O', h', tk', dr', rfl, hi, rfl, hdr, hInv, F', hS', z1, z2, z3, c1, c2, c3, c4⟩ := hI
  by_cases hlt : i < rs.length
  · obtain ⟨st₁, hAS, hbody⟩ := turn i rs[i] Z' st' (List.getElem?_eq_getElem hlt) hInv
    obtain ⟨m', cm', f'⟩ := F'.inF
    -- what the iterable had is there still
    have held : ∀ b o, ¬ Av (orS X₀ Z) env O b → b ∉ wr → h₁.get? b = some o → h'.get? b = some o ∧ ¬ Av (X₁ Z') env O' b := by
      intro b o nb nw e
      have nmu : ¬ Mu env O b := fun z => nb (.inr z)
      have nz : ¬ Z b := fun z => nb (.inl (.inr z))
      refine ⟨c1 b o nmu nz nw e, fun z => ?_⟩
      rcases z with z | z
      · rcases z with z | z
        · rcases z with z | z
          · exact nb (.inl (.inl z))
          · rcases (z3 b z).2 with z | z
            · exact nz z
            · rw [z] at e; cases e
        · exact nw z
      · rcases z with z | ⟨x, z⟩
        · exact nmu (.inl z)
        · rcases c2 x b z with z | z
          · exact nmu (.inr z)
          · rw [z] at e; cases e
    have gone : ∀ {h₂ : Heap}, (∀ b o, b ∉ wr → h'.get? b = some o → h₂.get? b = some o) → (∀ b ∈ wr, ∃ o, h₂.get? b = some o) → InZ B env Z' (X₁ Z') st' O' h₂ := by
      intro h₂ keep₂ lw
      refine F'.outer (fun b o nb e => keep₂ b o (fun hw => ?_) e) fun a z => ?_
      · rcases nb with nb | nb
        · exact nb (.inr hw)
        · exact (z3 b nb).1 hw
      · obtain ⟨o, e⟩ := f'.ok.live a (.inl z)
        by_cases hw : a ∈ wr
        · exact lw a hw
        · exact ⟨o, keep₂ a o hw e⟩
    refine wpAny_mono (ok.item i rs[i] { s with heap := h', toks := tk', drawn := dr' } (Av (X₁ Z') env O') (fun v s₂ => wpAny (model prog w) A (assign t env v) (fun _ s₂ => wpAny (model prog w) A (execs body env) (fun f s₃ => match f with
          | .next | .cont => ∃ m, m < rs.length - i ∧ Inv' m s₃
          | .brk => Q .next s₃
          | .ret v => Q (.ret v) s₃) E' s₂) E' s₂) E' (List.getElem?_eq_getElem hlt) hS' held f'.ok.live fun v h₂ tk₂ y₂ hS₂ keep₂ => ?_) (fun o s₂ ⟨v, e, hv⟩ => by subst e; exact hv) fun _ _ e => e
    have F₂ := gone keep₂ (ok.live _ _ hS₂)
    refine hAS.run A { s with heap := h₂, toks := tk₂, drawn := dr' } _ O' _ E' v R F₂ y₂ fun h₃ tk₃ F₃ c₃ => ?_
    have e1 : ∀ {G : Addr → Prop}, orS (orS X₀ (· ∈ wr)) G = orS (orS X₀ G) (· ∈ wr) := fun {G} => funext fun a => propext ⟨fun z => by
        rcases z with (z | z) | z
        · exact .inl (.inl z)
        · exact .inr z
        · exact .inl (.inr z), fun z => by
        rcases z with (z | z) | z
        · exact .inl (.inl z)
        · exact .inr z
        · exact .inl (.inr z)⟩
    have hd' : ∀ a, Z' a → ¬ orS X₀ (· ∈ wr) a := fun a z y => by
      rcases y with y | y
      · rcases z2 a z with w | w
        · exact hd a w y
        · obtain ⟨o, e⟩ := f.ok.live a (.inl (.inl y))
          rw [w] at e; cases e
      · exact (z3 a z).1 y
    refine hbody.run A { s with heap := h₃, toks := tk₃, drawn := dr' } (orS X₀ (· ∈ wr)) O' _ E' R hd' (e1.symm ▸ F₃) fun Z'' fl fw st'' O'' h₄ tk₄ dr₄ hdr₄ p₄ zz zn F₄ c₄ y₄ => ?_
    have hdr₅ : D ∨ dr₄ = s.drawn := hdr₄.elim .inl fun e => hdr.imp id fun e' => e.trans e'
    have c₃' : ChZ env Z' O' h₂ O' h₃ := c₃.toZ F₂
    have c₅ : ChZ env Z' O' h₂ O'' h₄ := ChZ.and F₂ F₃ (fun _ z => z) (fun _ z => .inl z) c₃' c₄
    -- what was there is there still
    have al1 : ∀ a, (∃ o, h₁.get? a = some o) → ∃ o, h'.get? a = some o := fun a ⟨o, e⟩ => by
      by_cases hw : a ∈ wr
      · exact ok.live _ _ hS' a hw
      · by_cases n : Mu env O a
        · rcases n with n | ⟨x, n⟩
          · exact F'.liveMu a (.inl n)
          · exact c3 x a n
        · by_cases z : Z a
          · exact c4 a z
          · exact ⟨o, c1 a o n z hw e⟩
    have al2 : ∀ a, (∃ o, h'.get? a = some o) → ∃ o, h₂.get? a = some o := fun a ⟨o, e⟩ => by
      by_cases hw : a ∈ wr
      · exact ok.live _ _ hS₂ a hw
      · exact ⟨o, keep₂ a o hw e⟩
    have al3 : ∀ a, (∃ o, h₂.get? a = some o) → ∃ o, h₃.get? a = some o := fun a l => c₃'.alive F₃ a l
    have al4 : ∀ a, (∃ o, h₃.get? a = some o) → ∃ o, h₄.get? a = some o := fun a l => c₄.alive F₄ a l
    have nn : ∀ a, h₃.get? a = none → h₁.get? a = none := fun a e => by
      cases g : h₁.get? a with
      | none => rfl
      | some o => obtain ⟨o', e'⟩ := al3 a (al2 a (al1 a ⟨o, g⟩)); rw [e] at e'; cases e'
    have nn0 : ∀ a, h₁.get? a = none → s.heap.get? a = none := fun a e => by
      cases g : s.heap.get? a with
      | none => rfl
      | some o => rw [k₁ a o g] at e; cases e
    have wrMu : ∀ b ∈ wr, ¬ Mu env O' b ∧ ¬ Z' b := fun b hb => by
      obtain ⟨m₂, cm₂, f₂⟩ := F₂.inF
      exact ⟨fun z => f₂.offX b z (.inr hb), fun z => (z3 b z).1 hb⟩
    have d1 : ∀ b o, ¬ Mu env O b → ¬ Z b → b ∉ wr → h₁.get? b = some o → h₄.get? b = some o := fun b o n nz nw e => by
      have n' : ¬ Mu env O' b := fun z => by
        rcases z with z | ⟨x, z⟩
        · exact n (.inl z)
        · rcases c2 x b z with y | y
          · exact n (.inr y)
          · rw [y] at e; cases e
      have nz' : ¬ Z' b := fun z => by
        rcases (z3 b z).2 with y | y
        · exact nz y
        · rw [y] at e; cases e
      exact c₅.keep b o n' nz' (keep₂ b o nw (c1 b o n nz nw e))
    have d2 : ∀ x a, O'' x = some a → (∃ y, O y = some a) ∨ h₁.get? a = none := fun x a e => by
      rcases c₄.own x a e with ⟨y, e⟩ | e
      · exact c2 y a e
      · exact .inr (nn a e)
    have d3 : ∀ x a, O x = some a → ∃ o, h₄.get? a = some o := fun x a e => al4 a (al3 a (al2 a (c3 x a e)))
    have d4 : ∀ a, Z a → ∃ o, h₄.get? a = some o := fun a z => al4 a (al3 a (al2 a (c4 a z)))
    have dz1 : ∀ a, Z a → Z'' a := fun a z => zz a (z1 a z)
    have dz2 : ∀ a, Z'' a → Z a ∨ s.heap.get? a = none := fun a z => (zn a z).elim (z2 a) fun e => .inr (nn0 a (nn a e))
    have dz3 : ∀ a, Z'' a → a ∉ wr ∧ (Z a ∨ h₁.get? a = none) := fun a z => by
      rcases zn a z with z | e
      · exact z3 a z
      · refine ⟨fun hw => ?_, .inr (nn a e)⟩
        obtain ⟨o, g⟩ := al3 a (ok.live _ _ hS₂ a hw)
        rw [e] at g; cases g
    have eX : orS (orS X₀ (· ∈ wr)) Z'' = X₁ Z'' := e1
    have F₅ : InZ B env Z'' (X₁ Z'') st'' O'' h₄ := eX ▸ F₄
    have dS : S (i + 1) h₄ := by
      refine ok.frame _ _ _ hS₂ fun b hb o e => ?_
      by_cases hw : b ∈ wr
      · exact c₅.keep b o (wrMu b hw).1 (wrMu b hw).2 e
      · rcases ok.own b hb with y | ⟨nb, o₁, g₁⟩
        · exact absurd y hw
        · obtain ⟨g', nb'⟩ := held b o₁ nb hw g₁
          have e2 := keep₂ b o₁ hw g'
          have e3 : o₁ = o := by rw [e2] at e; exact Option.some.inj e
          subst e3
          exact c₅.keep b o₁ (fun z => nb' (.inr z)) (fun z => nb' (.inl (.inl (.inr z)))) e2
    have again : Inv (i + 1) Z'' st'' → ∃ m, m < rs.length - i ∧ Inv' m { s with heap := h₄, toks := tk₄, drawn := dr₄ } := fun p =>
      ⟨rs.length - (i + 1), by omega, i + 1, Z'', st'', O'', h₄, tk₄, dr₄, rfl, hlt, rfl, hdr₅, p, F₅, dS, dz1, dz2, dz3, d1, d2, d3, d4⟩
    cases fl with
    | next => cases fw <;> first | exact y₄.elim | exact again p₄
    | cont => cases fw <;> first | exact y₄.elim | exact again p₄
    | brk => cases fw <;> first | exact y₄.elim | exact q Z'' _ _ _ _ _ _ _ hdr₅ p₄ dz1 dz2 (back F₅) (chg d1 d2 d3 d4) trivial
    | ret r => cases fw <;> first | exact y₄.elim | exact q Z'' _ _ _ _ _ _ _ hdr₅ p₄ dz1 dz2 (back F₅) (chg d1 d2 d3 d4) (FlOk.less (fl := .ret r) (f := .ret _) (fun a z => .inl z) y₄)
  · have hin : i = rs.length := by omega
    subst hin
    refine wpAny_mono (ok.done { s with heap := h', toks := tk', drawn := dr' } (fun o s₁ => o = none ∧ wpAny (model prog w) A (execs orelse env) (fun f s₃ => Q f s₃) E' s₁) E' hS' fun h₂ tk₂ keep₂ => ⟨rfl, ?_⟩) (fun o s₂ ⟨e, hv⟩ => by subst e; exact hv) fun _ _ e => e
    have F₂ : InZ B env Z' (orS X₀ Z') st' O' h₂ := F'.outDrop (fun a z => .inl z) (fun a z => .inr z) fun b o nb e => keep₂ b o (fun hw => by
      rcases nb with nb | nb
      · exact nb (.inr hw)
      · rcases nb with nb | nb
        · obtain ⟨o', e'⟩ := f.ok.live b (.inl (.inl nb))
          rw [(fresh b hw).1] at e'; cases e'
        · exact (z3 b nb).1 hw) e
    have nwr : ∀ a o, s.heap.get? a = some o → a ∉ wr := fun a o e hw => by rw [(fresh a hw).1] at e; cases e
    have lv : ∀ a o, s.heap.get? a = some o → (∃ o, h'.get? a = some o) → ∃ o, h₂.get? a = some o := fun a o e ⟨o', e'⟩ => ⟨o', keep₂ a o' (nwr a o e) e'⟩
    refine (fin Z' st' hInv).run A { s with heap := h₂, toks := tk₂, drawn := dr' } X₀ O' _ E' R (fun a z y => by
      rcases z2 a z with w | w
      · exact hd a w y
      · obtain ⟨o, e⟩ := f.ok.live a (.inl (.inl y))
        rw [w] at e; cases e) F₂ fun Z'' fl fw st'' O'' h₄ tk₄ dr₄ hdr₄ p₄ zz zn F₄ c₄ y₄ => ?_
    have hdr₅ : D ∨ dr₄ = s.drawn := hdr₄.elim .inl fun e => hdr.imp id fun e' => e.trans e'
    have c₂ : ChZ env Z O s.heap O' h₂ := chg (fun b o n nz nw e => keep₂ b o nw (c1 b o n nz nw e)) c2 (fun x a e => by
        obtain ⟨o, g⟩ := F.liveMu a (.inr ⟨x, e⟩)
        exact lv a o g (c3 x a e)) fun a z => by
        obtain ⟨o, g⟩ := f.ok.live a (.inl (F.foot a z))
        exact lv a o g (c4 a z)
    refine q Z'' fl fw st'' O'' h₄ tk₄ dr₄ hdr₅ p₄ (fun a z => zz a (z1 a z)) (fun a z => ?_) F₄ (ChZ.and F F₂ z1 z2 c₂ c₄) y₄
    rcases zn a z with z | e
    · exact z2 a z
    · right
      cases g : s.heap.get? a with
      | none => rfl
      | some o => obtain ⟨o', e'⟩ := c₂.alive F₂ a ⟨o, g⟩; rw [e] at e'; cases e'
theorem GF.forP {D : Prop} {PL : List Res → Prop} {P : (Addr → Prop) → Fl → St → Prop} (it : ITD prog w B D n env (keepN st.loc) t iter PL)
    (main : ∀ rs, PL rs → ∃ Inv : Nat → (Addr → Prop) → St → Prop, Inv 0 Z st ∧
      (∀ i r Z' st', rs[i]? = some r → Inv i Z' st' → ∃ st₁, AS prog w B n env Z' st' t r st₁ ∧ GF prog w B D n env Z' st₁ (execs body env) fun Z'' fl st'' => match fl with
        | .next | .cont => Inv (i + 1) Z'' st''
        | .brk => P Z'' .next st''
        | .ret r => P Z'' (.ret r) st'') ∧
      (∀ Z' st', Inv rs.length Z' st' → GF prog w B D n env Z' st' (execs orelse env) P))
    (hs : ∀ x, foldedSetIterable iter env x = pure x := by intro _; rfl) : GF prog w B D n env Z st (exec (.For t iter body orelse pos) env) P := GF.forZ it.toZ main hs
theorem GF.for {D : Prop} {P : (Addr → Prop) → Fl → St → Prop} (Inv : Nat → (Addr → Prop) → St → Prop) (it : IT prog w B n env (keepN st.loc) t iter rs) (h0 : Inv 0 Z st)
    (turn : ∀ i r Z' st', rs[i]? = some r → Inv i Z' st' → ∃ st₁, AS prog w B n env Z' st' t r st₁ ∧ GF prog w B D n env Z' st₁ (execs body env) fun Z'' fl st'' => match fl with
      | .next | .cont => Inv (i + 1) Z'' st''
      | .brk => P Z'' .next st''
      | .ret r => P Z'' (.ret r) st'')
    (fin : ∀ Z' st', Inv rs.length Z' st' → GF prog w B D n env Z' st' (execs orelse env) P)
    (hs : ∀ x, foldedSetIterable iter env x = pure x := by intro _; rfl) : GF prog w B D n env Z st (exec (.For t iter body orelse pos) env) P :=
  GF.forP it.toD (fun rs' e => by subst e; exact ⟨Inv, h0, turn, fin⟩) hs
end
end Mine
end
section
open PySem PySem.W PyProof.Rows PySem.Calls
namespace Mine
section
variable {prog : Program} {w : World} {B : Heap} {n k : Nat} {env : Env} {Z X₀ X₁ : Addr → Prop} {st st' : St} {O : Str → Option Addr} {h h' : Heap} {m cm : Str → Option Value} {t iter test : Expr} {body orelse : List Stmt} {rs : List Res} {pos : Pos} {P : Fl → St → Prop}
noncomputable def Turned (next : St → Prop) (P : Fl → St → Prop) (fl : Fl) (st : St) : Prop := match fl with
  | .next | .cont => next st
  | .brk => P .next st
  | .ret r => P (.ret r) st
theorem SF.for (hZ : ∀ a, ¬ Z a) (Inv : Nat → St → Prop) (it : IT prog w B n env (keepN st.loc) t iter rs) (h0 : Inv 0 st)
    (turn : ∀ i r st', rs[i]? = some r → Inv i st' → ∃ st₁, AS prog w B n env Z st' t r st₁ ∧ SF prog w B n env Z st₁ (execs body env) (Turned (Inv (i + 1)) P))
    (fin : ∀ st', Inv rs.length st' → SF prog w B n env Z st' (execs orelse env) P)
    (hs : ∀ x, foldedSetIterable iter env x = pure x := by intro _; rfl) : SF prog w B n env Z st (exec (.For t iter body orelse pos) env) P := by
  refine GF.toS (GF.for (fun i Z' st' => Z' = Z ∧ Inv i st') it ⟨rfl, h0⟩ (fun i r Z' st' e hI => ?_) (fun Z' st' hI => ?_) hs) hZ
  · obtain ⟨rfl, hI⟩ := hI
    obtain ⟨st₁, a, b⟩ := turn i r st' e hI
    refine ⟨st₁, a, b.toG fun fl st'' p => ?_⟩
    cases fl <;> exact ⟨rfl, p⟩
  · obtain ⟨rfl, hI⟩ := hI
    exact (fin st' hI).toG fun fl st'' p => ⟨rfl, p⟩
theorem SF.while (Inv : Nat → St → Prop) (n0 : Nat) (h0 : Inv n0 st)
    (turn : ∀ j st', Inv j st' → ∃ b, TV prog w B n env (allN st'.loc) test b ∧ (b = true → SF prog w B n env Z st' (execs body env) (Turned (fun st'' => ∃ m, m < j ∧ Inv m st'') P)) ∧ (b = false → SF prog w B n env Z st' (execs orelse env) P)) :
    SF prog w B n env Z st (exec (.While test body orelse pos) env) P := by
  refine ⟨fun A s X₀ O Q E R F q => ?_⟩
  refine wpAny_While (codeAny_whileLoop (fun j s' => ∃ st' O' h' tk', s' = { s with heap := h', toks := tk' } ∧ Inv j st' ∧ InZ B env Z X₀ st' O' h' ∧ Chg env O s.heap O' h') (fun j s' hI => ?_) n0 ⟨st, O, s.heap, s.toks, rfl, h0, F, Chg.ofZ F (Ext.refl _)⟩)
  obtain ⟨st', O', h', tk', rfl, hInv, F', c⟩ := hI
  obtain ⟨b, ht, h1, h2⟩ := turn j st' hInv
  obtain ⟨m, cm, f⟩ := F'.inF
  refine ht.run A { s with heap := h', toks := tk' } _ _ _ R f.okB f.allNm fun h₂ tk₂ k₂ => ?_
  have F₂ := F'.grow k₂
  have c₂ := Chg.and F F' c (Chg.ofZ F' k₂)
  cases b with
  | true =>
    refine (h1 rfl).run A { s with heap := h₂, toks := tk₂ } X₀ O' _ _ R F₂ fun fl fw st'' O'' h₃ tk₃ p F₃ c₃ y => ?_
    have c₄ := Chg.and F F₂ c₂ c₃
    cases fl with
    | next => cases fw <;> first | exact y.elim | (obtain ⟨m, hm, p⟩ := p; exact ⟨m, hm, st'', O'', h₃, tk₃, rfl, p, F₃, c₄⟩)
    | cont => cases fw <;> first | exact y.elim | (obtain ⟨m, hm, p⟩ := p; exact ⟨m, hm, st'', O'', h₃, tk₃, rfl, p, F₃, c₄⟩)
    | brk => cases fw <;> first | exact y.elim | exact q _ _ _ _ _ _ p F₃ c₄ trivial
    | ret r => cases fw <;> first | exact y.elim | exact q (.ret r) (.ret _) _ _ _ _ p F₃ c₄ y
  | false =>
    exact (h2 rfl).run A { s with heap := h₂, toks := tk₂ } X₀ O' _ _ R F₂ fun fl fw st'' O'' h₃ tk₃ p F₃ c₃ y => q fl fw st'' O'' h₃ tk₃ p F₃ (Chg.and F F₂ c₂ c₃) y
end
end Mine
end
section
open PySem PySem.W PyProof.Rows PySem.Calls
namespace Mine
theorem cellsFrom_acc : ∀ (names : List (Str × NameKind)) (n : Nat) (acc : List (Str × Addr)), cellsFrom n names acc = cellsFrom n names [] ++ acc
  | [], _, _ => rfl
  | (name, kind) :: r, n, acc => by
    unfold cellsFrom
    split
    · rw [cellsFrom_acc r (n + 1) ((name, n) :: acc), cellsFrom_acc r (n + 1) [(name, n)]]; simp
    · exact cellsFrom_acc r n acc
theorem cellsFrom_mem : ∀ (names : List (Str × NameKind)) (n : Nat) (y : Str), (y, NameKind.cell) ∈ names → ∃ c, (cellsFrom n names []).lookup y = some c
  | (name, kind) :: r, n, y, h => by
    unfold cellsFrom
    have key : ∀ (l : List (Str × Addr)) (a : Addr), l.lookup y ≠ none ∨ name = y → ∃ c, (l ++ [(name, a)]).lookup y = some c := by
      intro l a h
      rw [List.lookup_append]
      cases g : l.lookup y with
      | some c => exact ⟨c, rfl⟩
      | none =>
        rcases h with h | h
        · exact absurd g h
        · subst h; exact ⟨a, by simp⟩
    by_cases hk : (kind == NameKind.cell) = true
    · rw [if_pos hk, cellsFrom_acc]
      refine key _ _ ?_
      rcases List.mem_cons.mp h with e | h
      · cases e; exact .inr rfl
      · obtain ⟨c, hc⟩ := cellsFrom_mem r (n + 1) y h
        exact .inl (by rw [hc]; simp)
    · rw [if_neg hk]
      rcases List.mem_cons.mp h with e | h
      · cases e; simp at hk
      · exact cellsFrom_mem r n y h
theorem cellsFrom_names : ∀ (names : List (Str × NameKind)) (n : Nat) (p : Str × Addr), p ∈ cellsFrom n names [] → (p.1, NameKind.cell) ∈ names
  | [], _, _, h => nomatch h
  | (name, kind) :: r, n, p, h => by
    unfold cellsFrom at h
    by_cases hk : (kind == NameKind.cell) = true
    · rw [if_pos hk, cellsFrom_acc] at h
      rcases List.mem_append.mp h with h | h
      · exact .tail _ (cellsFrom_names r _ p h)
      · rw [List.mem_singleton.mp h, ← beq_iff_eq.mp hk]; exact .head _
    · rw [if_neg hk] at h
      exact .tail _ (cellsFrom_names r _ p h)
theorem closureFor_all {scope : Scope} {env : Env} (h : ∀ p ∈ scope.names, p.2 = .free → ∃ c, env.cells.lookup p.1 = some c) :
    ∃ cl, closureFor scope env = pure cl ∧ (∀ p ∈ cl, env.cells.lookup p.1 = some p.2 ∧ (p.1, NameKind.free) ∈ scope.names) ∧ (∀ y, (y, NameKind.free) ∈ scope.names → ∃ c, cl.lookup y = some c) ∧ ((scope.names.map (·.1)).Nodup → cl.Pairwise fun p q => p.1 ≠ q.1) := by
  have main : ∀ (names : List (Str × NameKind)) (acc : List (Str × Addr)) (f : Str × NameKind → List (Str × Addr) → Sem (ForInStep (List (Str × Addr)))),
      (∀ p a, f p a = if p.2 == .free then (do let c ← cellOf env p.1; pure (.yield ((p.1, c) :: a))) else pure (.yield a)) → (∀ p ∈ names, p.2 = .free → ∃ c, env.cells.lookup p.1 = some c) →
      ∃ cl, forIn names acc f = pure (cl ++ acc) ∧ (∀ p ∈ cl, env.cells.lookup p.1 = some p.2 ∧ (p.1, NameKind.free) ∈ names) ∧ (∀ y, (y, NameKind.free) ∈ names → ∃ c, cl.lookup y = some c) ∧ ((names.map (·.1)).Nodup → cl.Pairwise fun p q => p.1 ≠ q.1) := by
    intro names
    induction names with
    | nil => intro acc f _ _; exact ⟨[], rfl, by simp, by simp, fun _ => .nil⟩
    | cons p r ih =>
      intro acc f hf hn
      obtain ⟨name, kind⟩ := p
      rw [List.forIn_cons, hf]
      by_cases hk : kind = .free
      · subst hk
        obtain ⟨c, hc⟩ := hn (name, .free) (.head _) rfl
        obtain ⟨cl, e, p1, p2, p3⟩ := ih ((name, c) :: acc) f hf fun q hq => hn q (.tail _ hq)
        refine ⟨cl ++ [(name, c)], ?_, ?_, ?_, ?_⟩
        · simp only [beq_self_eq_true, if_true]
          have e1 : cellOf env name = pure c := by unfold cellOf; rw [hc]
          rw [e1]
          simp only [pure_bind, e]
          simp
        · intro q hq
          rcases List.mem_append.mp hq with hq | hq
          · exact ⟨(p1 q hq).1, .tail _ (p1 q hq).2⟩
          · rw [List.mem_singleton.mp hq]; exact ⟨hc, .head _⟩
        · intro y hy
          rw [List.lookup_append]
          cases g : cl.lookup y with
          | some c => exact ⟨c, rfl⟩
          | none =>
            rcases List.mem_cons.mp hy with e' | hy
            · cases e'; exact ⟨c, by simp⟩
            · obtain ⟨c', h'⟩ := p2 y hy; rw [g] at h'; cases h'
        · intro nd
          rw [List.map_cons, List.nodup_cons] at nd
          refine List.pairwise_append.mpr ⟨p3 nd.2, List.pairwise_singleton .., fun a ha b hb e' => ?_⟩
          rw [List.mem_singleton.mp hb] at e'
          exact nd.1 (List.mem_map.mpr ⟨_, (p1 a ha).2, e'⟩)
      · obtain ⟨cl, e, p1, p2, p3⟩ := ih acc f hf fun q hq => hn q (.tail _ hq)
        refine ⟨cl, ?_, fun q hq => ⟨(p1 q hq).1, .tail _ (p1 q hq).2⟩, fun y hy => ?_, fun nd => p3 (List.nodup_cons.mp nd).2⟩
        · have : (kind == NameKind.free) = false := by simpa using hk
          simp only [this, Bool.false_eq_true, if_false, pure_bind, e]
        · rcases List.mem_cons.mp hy with e' | hy
          · cases e'; exact absurd rfl hk
          · exact p2 y hy
  obtain ⟨cl, e, p1, p2, p3⟩ := main scope.names [] _ (fun p a => rfl) h
  refine ⟨cl, ?_, p1, p2, p3⟩
  unfold closureFor
  simp only [List.append_nil] at e
  exact (congrArg (· >>= fun cs => pure cs) e).trans (pure_bind _ _)
theorem newCompEnv {M : Model} {A : Around} {E : Value → Shared → Prop} {s : Shared} {scope : Scope} {globals : Addr} {cl : List (Str × Addr)} {qual : Str} {outer : Env} {Q : Env → Shared → Prop}
    (hQ : ∀ h₁ cs, Ext s.heap h₁ → (∀ y, (y, NameKind.cell) ∈ scope.names → ∃ c, cs.lookup y = some c) → h₁.Ns s.heap.objs.size (fun _ => none) → (∀ p ∈ cs, h₁.IsCell p.2 none ∧ s.heap.objs.size + 1 ≤ p.2) → cs.Pairwise (fun p q => p.2 ≠ q.2) → (∀ p ∈ cs, (p.1, NameKind.cell) ∈ scope.names) →
      Q { scope, locals := s.heap.objs.size, globals, cells := cs ++ cl, qual, func := none, code := outer.code, frame := outer.frame, builtins := outer.builtins } { s with heap := h₁ }) :
    wpAny M A (newFunctionEnv scope globals cl [] qual none .none (some outer)) Q E s := by
  simp only [newFunctionEnv, Option.isSome_some, if_true]
  refine wpAny_bind (wpAny_alloc ?_)
  refine wpAny_bind (wpAny_layCells _ (fun name kind cells => by cases hkc : kind == NameKind.cell <;> simp [hkc]) _ _ _ _ ?_)
  have ok := cellsFrom_ok scope.names (s.heap.push { cls := .type "dict", data := .dict #[] }) (s.heap.objs.size + 1) [] ⟨fun _ _ hm => (nomatch hm), List.Pairwise.nil⟩ (by rw [Heap.size_push]; exact Nat.le_refl _)
  rw [Heap.size_push] at ok
  rw [show ({ s with heap := s.heap.push { cls := .type "dict", data := .dict #[] } } : Shared).heap.objs.size = s.heap.objs.size + 1 from Heap.size_push ..]
  rw [cellsFrom_acc]
  refine wpAny_bind (wpAny_pure (wpAny_pure ?_))
  refine hQ (pushCells (s.heap.push { cls := .type "dict", data := .dict #[] }) scope.names) (cellsFrom (s.heap.objs.size + 1) scope.names []) (fun b o e => pushCells_keeps _ _ b o (Heap.get?_push_of_some _ e)) (fun y hy => cellsFrom_mem _ _ y hy) ?_ (fun p hp => ok.empty p.1 p.2 hp) ok.apart (fun p hp => cellsFrom_names _ _ p hp)
  exact (Heap.Ns.new s.heap (.type "dict")).keeps (pushCells_keeps _ _)
end Mine
end
section
open PySem PySem.W PyProof.Rows PySem.Calls
namespace Mine
theorem relabel_lookup (scope : Scope) (env : Env) (y : Str) : (relabel scope env).names.lookup y = (scope.names.lookup y).map fun k => if (k == NameKind.free && env.scope.kind == .function && env.kindOf y == some .cell) then .cell else k := by
  unfold relabel
  dsimp only
  generalize scope.names = l
  induction l with
  | nil => rfl
  | cons p r ih =>
    obtain ⟨z, k⟩ := p
    rw [List.map_cons]
    have e1 : ((if (k == NameKind.free && env.scope.kind == .function && env.kindOf z == some .cell) = true then (z, NameKind.cell) else (z, k)) : Str × NameKind) = (z, if (k == NameKind.free && env.scope.kind == .function && env.kindOf z == some .cell) = true then NameKind.cell else k) := by split <;> rfl
    dsimp only
    rw [e1]
    simp only [List.lookup_cons]
    cases hb : y == z with
    | true => rw [beq_iff_eq.mp hb]; rfl
    | false => exact ih
noncomputable def slotsOf (nu : List (Str × Res)) : List (Str × Slot) := nu.map fun p => (p.1, .r p.2)
theorem keepN_slotsOf (nu : List (Str × Res)) : keepN (slotsOf nu) = nu := by
  induction nu with
  | nil => rfl
  | cons p r ih => show (p.1, p.2) :: keepN (slotsOf r) = _; rw [ih]
theorem slotsOf_names (nu : List (Str × Res)) : (slotsOf nu).map (·.1) = nu.map (·.1) := by simp [slotsOf]
theorem RVs.snoc {h : Heap} {X : Addr → Prop} {vs : List Value} {rs : List Res} {v : Value} {r : Res} (x : RVs h X vs rs) (y : RV h X v r) : RVs h X (vs ++ [v]) (rs ++ [r]) := by
  induction x with
  | nil => exact .cons y .nil
  | cons a _ ih => exact .cons a ih
section
variable (prog : Program) (w : World) (B : Heap)
noncomputable def TVs (n : Nat) (env : Env) (nu : List (Str × Res)) (ifs : List Expr) (b : Bool) : Prop := match ifs with
  | [] => b = true
  | [c] => TV prog w B n env nu c b
  | _ => False
end
section
variable {prog : Program} {w : World} {B : Heap} {n : Nat} {env : Env} {nu nuC : List (Str × Res)} {elt iter : Expr} {x : Str} {px : Pos} {ifs : List Expr} {scope : Scope} {pos : Pos} {rs : List Res} {f : Res → Option Res}
theorem TVs.run {A : Around} {s : Shared} {X : Addr → Prop} {Q : Bool → Shared → Prop} {E : Value → Shared → Prop} {b : Bool} (t : TVs prog w B n env nu ifs b) (R : Room n A) (O : OkH B s.heap X) (N : Nm env s.heap X nu) (q : ∀ h' tk', Ext s.heap h' → Q b { s with heap := h', toks := tk' }) :
    wpAny (model prog w) A (forIn ifs true fun c r => if r = true then do let ok ← isTrue c env (eval c env); pure (ForInStep.yield ok) else pure (ForInStep.yield r)) Q E s := by
  match ifs, t with
  | [], t => cases t; exact wpAny_tests_nil (q _ _ (Ext.refl _))
  | [c], t => exact wpAny_tests_one ((show TV _ _ _ _ _ _ _ _ from t).run A s X Q E R O N q)
structure CompOk (env : Env) (nu nuC : List (Str × Res)) (scope : Scope) (x : Str) : Prop where
  kind : scope.kind = .function
  ekind : env.scope.kind = .function
  nodup : (scope.names.map (·.1)).Nodup
  free : ∀ p ∈ scope.names, p.2 = .free → ∃ r, (p.1, r) ∈ nuC
  caps : ∀ q ∈ nuC, q ∈ nu ∧ env.kindOf q.1 = some .cell ∧ scope.names.lookup q.1 = some .free
  capsN : (nuC.map (·.1)).Nodup
  var : scope.names.lookup x = some .local ∨ scope.names.lookup x = some .cell
theorem lookup_of_mem {l : List (Str × NameKind)} (n : (l.map (·.1)).Nodup) {y : Str} {k : NameKind} (h : (y, k) ∈ l) : l.lookup y = some k := by
  induction l with
  | nil => cases h
  | cons p r ih =>
    obtain ⟨z, j⟩ := p
    rw [List.map_cons, List.nodup_cons] at n
    rcases List.mem_cons.mp h with e | h
    · cases e; simp [List.lookup_cons]
    · have : (y == z) = false := by
        cases g : y == z with
        | false => rfl
        | true => exact absurd (List.mem_map.mpr ⟨_, h, beq_iff_eq.mp g⟩) n.1
      rw [List.lookup_cons, this]
      exact ih n.2 h
theorem InF.restrict {X₀ : Addr → Prop} {O : Str → Option Addr} {st st' : St} {h : Heap} {m cm : Str → Option Value} (F : InF B env X₀ st O h m cm) (e : st'.ext = st.ext) (s : st'.loc.Sublist st.loc) : InF B env X₀ st' O h m cm :=
  { F with nodup := (s.map _).nodup F.nodup, slots := fun p hp => F.slots p (s.subset hp), ext := e ▸ F.ext, stab := e ▸ F.stab }
noncomputable def cellVal (h : Heap) (c : Addr) : Option Value := match h.get? c with
  | some o => match o.data with
    | .cell v => v
    | _ => none
  | none => none
theorem cellVal_of {h : Heap} {c : Addr} {v : Option Value} (x : h.IsCell c v) : cellVal h c = v := by
  obtain ⟨o, e, d⟩ := x
  unfold cellVal; rw [e]; dsimp only; rw [d]
noncomputable def cmOf (h : Heap) (cs cl : List (Str × Addr)) (y : Str) : Option Value := match cs.lookup y with
  | some _ => none
  | none => match cl.lookup y with
    | some c => cellVal h c
    | none => none
structure AccOk (prog : Program) (w : World) (A : Around) (ce : Expr) (x : Str) (px : Pos) (ifs : List Expr) (elt : Expr) (newAcc : Sem Value) (o₀ : Obj) (emit : Value → Value → Sem Value) (J : Heap → (Addr → Prop) → Addr → List Res → Prop) (G : Res → Prop) (N : Nat) : Prop where
  new : ∀ (s : Shared) (Q : Value → Shared → Prop) (E : Value → Shared → Prop), Q (.ref s.heap.objs.size) { s with heap := s.heap.push o₀ } → wpAny (model prog w) A newAcc Q E s
  fits : ∀ h : Heap, (h.push o₀).get? h.objs.size = some o₀
  start : ∀ {it acc : Value} {env : Env} {R : Result → Shared → Prop} {s : Shared}, codeAny (model prog w) A (.compLoop ce 0 it acc env) R s → wpAny (model prog w) A (pyIter it) (fun it' s' => codeAny (model prog w) A (.compLoop ce 0 it' acc env) R s') (notedBy (model prog w) A env fun e s' => R (.error e) s') s → codeAny (model prog w) A (.compStart ce 0 it acc env) R s
  loop : ∀ {it : Value} {D : Addr} {env : Env} {R : Result → Shared → Prop} (I : Nat → Shared → Prop), (∀ n s, I n s → wpAny (model prog w) A (pyNext it) (fun r s₁ => match r with
      | none => R (.ok .next) s₁
      | some v => wpAny (model prog w) A (assign (.Name x px) env v) (fun _ s₂ =>
          wpAny (model prog w) A (forIn ifs true fun c r => if r = true then do let ok ← isTrue c env (eval c env); pure (ForInStep.yield ok) else pure (ForInStep.yield r)) (fun ok s₃ =>
            if ok = true then wpAny (model prog w) A (eval elt env) (fun x s₄ =>
              wpAny (model prog w) A (emit (.ref D) x) (fun _ s₅ => ∃ m, m < n ∧ I m s₅) (notedBy (model prog w) A env fun e s' => R (.error e) s') s₄) (notedBy (model prog w) A env fun e s' => R (.error e) s') s₃
            else ∃ m, m < n ∧ I m s₃) (notedBy (model prog w) A env fun e s' => R (.error e) s') s₂) (notedBy (model prog w) A env fun e s' => R (.error e) s') s₁) (notedBy (model prog w) A env fun e s' => R (.error e) s') s) →
    ∀ (n : Nat) {s : Shared}, I n s → codeAny (model prog w) A (.compLoop ce 0 it (.ref D) env) R s
  nil : ∀ (h : Heap) (X : Addr → Prop) (D : Addr), h.get? D = some o₀ → J h X D []
  up : ∀ (h h' : Heap) (X Y : Addr → Prop) (D : Addr) (rs : List Res), J h X D rs → (∀ o, h.get? D = some o → h'.get? D = some o) → (∀ b o, ¬ X b → h.get? b = some o → h'.get? b = some o ∧ ¬ Y b) → J h' Y D rs
  live : ∀ (h : Heap) (X : Addr → Prop) (D : Addr) (rs : List Res), J h X D rs → ∃ o, h.get? D = some o
  add : ∀ (s : Shared) (X : Addr → Prop) (D : Addr) (rs : List Res) (r : Res) (y : Value) (Q : Value → Shared → Prop) (E : Value → Shared → Prop), J s.heap X D rs → rs.length ≤ N → G r → X D → RV s.heap X y r →
    (∀ v h' tk', Heap.SameBut D s.heap h' → J h' X D (rs ++ [r]) → Q v { s with heap := h', toks := tk' }) → wpAny (model prog w) A (emit (.ref D) y) Q E s
theorem comp_gen {α : Type} {L₀ : List α} {ρ : α → Res} {f : α → Option Res} (it : IT prog w B n env nu (.Name x px) iter (L₀.map ρ)) (C : CompOk env nu nuC scope x)
    (body : ∀ r ∈ L₀, ∀ cs L, TVs prog w B n (compEnvC scope cs L env) ((x, ρ r) :: nuC) ifs (f r).isSome ∧ ∀ d, f r = some d → EV prog w B n (compEnvC scope cs L env) ((x, ρ r) :: nuC) elt d)
    {A : Around} {s : Shared} {X : Addr → Prop} {E : Value → Shared → Prop} {RR : Value → Addr → Result → Shared → Prop} {ce : Expr} {newAcc : Sem Value} {o₀ : Obj} {emit : Value → Value → Sem Value} {J : Heap → (Addr → Prop) → Addr → List Res → Prop} {G : Res → Prop} (K : AccOk prog w A ce x px ifs elt newAcc o₀ emit J G L₀.length) (hG : ∀ r ∈ L₀, ∀ d, f r = some d → G d)
    (R : Room n A) (O : OkH B s.heap X) (N : Nm env s.heap X nu)
    (q : ∀ D L h' tk' m, Ext s.heap h' → s.heap.get? D = none → s.heap.get? L = none → D ≠ L → (∃ o, h'.get? D = some o) → h'.Ns L m → J h' (fun a => X a ∨ a = L ∨ a = D) D (L₀.filterMap f) → RR (.ref D) L (.ok .next) { s with heap := h', toks := tk' }) :
    ∃ cl, closureFor scope env = pure cl ∧ wpAny (model prog w) A (eval iter env) (fun v s₁ => wpAny (model prog w) A (pyIter v) (fun it s₂ => wpAny (model prog w) A newAcc (fun acc s₃ =>
      wpAny (model prog w) A (newFunctionEnv scope env.globals cl [] env.qual none .none (some env)) (fun cenv s₄ =>
        codeAny (model prog w) A (.compStart ce 0 it acc { cenv with scope := relabel scope env }) (RR acc cenv.locals) s₄) E s₃) E s₂) E s₁) E s := by
  obtain ⟨cl, hcl, cl1, cl2, cl3⟩ := closureFor_all (scope := scope) (env := env) fun p hp hk => by
    obtain ⟨r, hr⟩ := C.free p hp hk
    obtain ⟨v, l, _⟩ := N _ (C.caps _ hr).1
    obtain ⟨_, c, hc, _⟩ := l.cell (C.caps _ hr).2.1
    exact ⟨c, hc⟩
  have cl3 := cl3 C.nodup
  refine ⟨cl, hcl, it.run A s X _ E R O N fun h₁ t₁ I fp wr S k₁ ok hS fresh => ?_⟩
  refine K.new _ _ _ (newCompEnv fun h₃ cs k₃ cells ns cem cap csn => ?_)
  dsimp only at k₃ ns cem ⊢
  have hL : (h₁.push o₀).objs.size = h₁.objs.size + 1 := Heap.size_push ..
  have gD : (h₁.push o₀).get? h₁.objs.size = some o₀ := K.fits h₁
  have gO : ∀ b o, h₁.get? b = some o → (h₁.push o₀).get? b = some o := fun b o e => Heap.get?_push_of_some _ e
  generalize h₁.push o₀ = h₂ at k₃ ns cem hL gD gO ⊢
  generalize hDd : h₁.objs.size = D at *
  generalize hLd : h₂.objs.size = L at *
  have lt1 : ∀ {b : Nat} {o}, h₁.get? b = some o → b < D := fun e => hDd ▸ Heap.lt_size e
  have lt0 : ∀ {b : Nat} {o}, s.heap.get? b = some o → b < D := fun e => lt1 (k₁ _ _ e)
  have none0 : ∀ b : Nat, D ≤ b → s.heap.get? b = none := fun b hb => by
    cases g : s.heap.get? b with
    | none => rfl
    | some o => exact absurd (lt0 g) (Nat.not_lt.mpr hb)
  have noneB : ∀ b, s.heap.get? b = none → B.get? b = none := fun b hb => by
    cases g : B.get? b with
    | none => rfl
    | some o => rw [O.base b o g] at hb; cases hb
  have k13 : ∀ b o, h₁.get? b = some o → h₃.get? b = some o := fun b o e => k₃ b o (gO b o e)
  have wrlt : ∀ b : Nat, b ∈ wr → b < D := fun b hb => let ⟨_, _, e⟩ := fresh b hb; lt1 e
  -- the captured cells
  have clX : ∀ p ∈ cl, X p.2 ∧ ∃ v, s.heap.IsCell p.2 (some v) := fun p hp => by
    obtain ⟨e1, e2⟩ := cl1 p hp
    obtain ⟨r, hr⟩ := C.free _ e2 rfl
    obtain ⟨c1, c2, _⟩ := C.caps _ hr
    obtain ⟨v, l, _, hX⟩ := N _ c1
    obtain ⟨_, c, hc, hi⟩ := l.cell c2
    have : c = p.2 := by rw [e1] at hc; exact (Option.some.inj hc).symm
    subst this
    exact ⟨hX c2 _ e1, v, hi⟩
  have cllt : ∀ p ∈ cl, @LT.lt Nat _ p.2 D := fun p hp => let ⟨_, _, _, e, _⟩ := clX p hp; lt0 e
  let cenv : Env := compEnvC scope (cs ++ cl) L env
  let X₀ : Addr → Prop := fun (a : Nat) => (X a ∧ ∀ p ∈ cl, p.2 ≠ a) ∨ a = D ∨ a ∈ wr
  let O₀ : Str → Option Addr := fun _ => none
  let X' : Addr → Prop := Av X₀ cenv O₀
  have X'X : ∀ a, X a → X' a := fun a z => by
    by_cases hc : ∃ p ∈ cl, p.2 = a
    · obtain ⟨p, hp, e⟩ := hc
      exact .inr (.inl (.inr ⟨p, List.mem_append_right _ hp, e⟩))
    · exact .inl (.inl ⟨z, fun p hp e => hc ⟨p, hp, e⟩⟩)
  have X'inv : ∀ a : Nat, X' a → a < D → X a ∨ a ∈ wr := fun (a : Nat) z hlt => by
    rcases z with (z | z | z) | ((z | ⟨p, hp, z⟩) | ⟨_, z⟩)
    · exact .inl z.1
    · omega
    · exact .inr z
    · have z : @Eq Nat a L := z
      omega
    · have z : @Eq Nat p.2 a := z
      rcases List.mem_append.mp hp with hp | hp
      · have := (cem p hp).2; omega
      · exact .inl (z ▸ (clX p hp).1)
    · cases z
  let st₀ : St := ⟨slotsOf nuC, fun _ => True⟩
  let cm₀ : Str → Option Value := cmOf h₃ cs cl
  have F₀ : InF B cenv X₀ st₀ O₀ h₃ (fun _ => none) cm₀ := by
    refine ⟨⟨fun b o e => k13 b o (k₁ b o (O.base b o e)), fun (a : Nat) z => ?_, fun (a : Nat) z => ?_⟩, C.kind, ns, fun y c hc => ?_, ?_, fun p hp => ?_, fun (a : Nat) z y => ?_, (fun _ _ e => nomatch e), (fun _ _ _ e => nomatch e), ?_, fun p hp => ?_, trivial, fun _ _ _ _ => trivial⟩
    · rcases z with (z | z | z) | ((z | ⟨p, hp, z⟩) | ⟨_, z⟩)
      · obtain ⟨o, e⟩ := O.live a z.1; exact ⟨o, k13 a o (k₁ a o e)⟩
      · subst z; exact ⟨_, k₃ _ _ gD⟩
      · obtain ⟨_, o, e⟩ := fresh a z; exact ⟨o, k13 a o e⟩
      · have : a = L := z
        subst this
        obtain ⟨o, _, _, e, _⟩ := ns; exact ⟨o, e⟩
      · subst z
        rcases List.mem_append.mp hp with hp | hp
        · obtain ⟨⟨o, e, _⟩, _⟩ := cem p hp; exact ⟨o, e⟩
        · obtain ⟨_, v, o, e, _⟩ := clX p hp; exact ⟨o, k13 _ o (k₁ _ o e)⟩
      · cases z
    · rcases z with (z | z | z) | ((z | ⟨p, hp, z⟩) | ⟨_, z⟩)
      · exact O.off a z.1
      · subst z; exact noneB _ (none0 _ (Nat.le_refl _))
      · exact noneB _ (fresh a z).1
      · have : a = L := z
        exact noneB _ (none0 _ (by omega))
      · subst z
        rcases List.mem_append.mp hp with hp | hp
        · exact noneB _ (none0 _ (by have := (cem p hp).2; omega))
        · exact O.off _ (clX p hp).1
      · cases z
    · have hc' : (cs ++ cl).lookup y = some c := hc
      rw [List.lookup_append] at hc'
      show h₃.IsCell c (cmOf h₃ cs cl y)
      unfold cmOf
      cases g : cs.lookup y with
      | some c' =>
        rw [g] at hc'
        have : c' = c := by simpa using hc'
        subst this
        exact (cem _ (mem_of_lookup g)).1
      | none =>
        rw [g] at hc'
        have hc' : cl.lookup y = some c := by simpa using hc'
        rw [hc']
        obtain ⟨_, v, hi⟩ := clX _ (mem_of_lookup hc')
        have hi := hi.keeps fun b o e => k13 b o (k₁ b o e)
        dsimp only at hi ⊢
        rw [cellVal_of hi]; exact hi
    · refine List.pairwise_append.mpr ⟨cap, ?_, fun p hp r hr e => ?_⟩
      · refine cl3.imp_of_mem fun {p r} hp hr hne e => hne ?_
        obtain ⟨e1, e2⟩ := cl1 p hp
        obtain ⟨r', hr'⟩ := C.free _ e2 rfl
        obtain ⟨v, l, _⟩ := N _ (C.caps _ hr').1
        exact name_of_addr (l.cell (C.caps _ hr').2.1).1 (mem_of_lookup e1) (e ▸ mem_of_lookup (cl1 r hr).1)
      · have h1 := (cem p hp).2
        have h2 := cllt r hr
        exact absurd (show @Eq Nat p.2 r.2 from e) (by omega)
    · rcases List.mem_append.mp hp with hp | hp
      · have := (cem p hp).2
        exact fun e => by have e2 : @Eq Nat p.2 L := e; omega
      · have := cllt p hp
        exact fun e => by have e2 : @Eq Nat p.2 L := e; omega
    · rcases z with (z | ⟨p, hp, z⟩) | ⟨_, z⟩
      · have z : @Eq Nat a L := z
        rcases y with y | y | y
        · obtain ⟨o, e⟩ := O.live a y.1; have := lt0 e; omega
        · omega
        · have := wrlt a y; omega
      · subst z
        rcases List.mem_append.mp hp with hp | hp
        · have h1 := (cem p hp).2
          rcases y with y | y | y
          · obtain ⟨o, e⟩ := O.live _ y.1; have := lt0 e; omega
          · have y : @Eq Nat p.2 D := y; omega
          · have := wrlt _ y; omega
        · rcases y with y | y | y
          · exact y.2 p hp rfl
          · have := cllt p hp; have y : @Eq Nat p.2 D := y; omega
          · obtain ⟨_, v, o, e, _⟩ := clX p hp
            rw [(fresh _ y).1] at e; cases e
      · cases z
    · show ((slotsOf nuC).map (·.1)).Nodup
      rw [slotsOf_names]; exact C.capsN
    · obtain ⟨q, hq, rfl⟩ := List.mem_map.mp hp
      obtain ⟨c1, c2, c3⟩ := C.caps q hq
      obtain ⟨v, l, y, hX⟩ := N _ c1
      obtain ⟨c, hc⟩ := cl2 q.1 (mem_of_lookup c3)
      obtain ⟨hi1, c', hc', hi⟩ := l.cell c2
      have e1 := (cl1 _ (mem_of_lookup hc)).1
      have : c' = c := by
        have e1 : env.cells.lookup q.1 = some c := e1
        rw [hc'] at e1; exact Option.some.inj e1
      subst this
      have csno : cs.lookup q.1 = none := by
        cases g : cs.lookup q.1 with
        | none => rfl
        | some z =>
          have := lookup_of_mem C.nodup (csn _ (mem_of_lookup g))
          rw [c3] at this; cases this
      refine ⟨v, .inr ⟨?_, ⟨c', ?_⟩, ?_⟩, ?_⟩
      · show (relabel scope env).names.lookup q.1 = _
        rw [relabel_lookup, c3]
        simp [C.ekind, c2]
      · show (cs ++ cl).lookup q.1 = _
        rw [List.lookup_append, csno, hc]; rfl
      · show cmOf h₃ cs cl q.1 = some v
        unfold cmOf
        rw [csno, hc]
        exact cellVal_of (hi.keeps fun b o e => k13 b o (k₁ b o e))
      · refine RV.up (fun b o nb e => ⟨k13 b o (k₁ b o e), fun z => ?_⟩) y
        rcases X'inv b z (lt0 e) with z | z
        · exact nb z
        · rw [(fresh b z).1] at e; cases e
  -- the loop
  have hDw : D ∉ wr := fun hw => Nat.lt_irrefl _ (wrlt D hw)
  have hDL : @Ne Nat D L := by omega
  have fplt : ∀ b : Nat, b ∈ fp → b < D := fun b hb => by
    rcases ok.own b hb with y | ⟨_, o, e⟩
    · exact wrlt b y
    · exact lt1 e
  have hk : Sto cenv x := by
    have e1 : cenv.kindOf x = (relabel scope env).names.lookup x := rfl
    rcases C.var with hv | hv
    · left; rw [e1, relabel_lookup, hv]; rfl
    · right
      refine ⟨by rw [e1, relabel_lookup, hv]; rfl, ?_⟩
      obtain ⟨c, hc⟩ := cells x (mem_of_lookup hv)
      exact ⟨c, by show (cs ++ cl).lookup x = _; rw [List.lookup_append, hc]; rfl⟩
  have hcellx : ∀ a : Nat, cenv.kindOf x = some .cell → cenv.cells.lookup x = some a → L < a := fun a hk' hc => by
    have e1 : cenv.kindOf x = (relabel scope env).names.lookup x := rfl
    rw [e1, relabel_lookup] at hk'
    rcases C.var with hv | hv
    · rw [hv] at hk'; cases hk'
    · obtain ⟨c, hc'⟩ := cells x (mem_of_lookup hv)
      have e2 : (cs ++ cl).lookup x = some a := hc
      rw [List.lookup_append, hc'] at e2
      have e3 : c = a := by simpa using e2
      have := (cem _ (mem_of_lookup hc')).2
      have e3 : @Eq Nat c a := e3
      have this : L + 1 ≤ c := this
      omega
  have hxC : x ∉ nuC.map (·.1) := fun hx => by
    obtain ⟨p, hp, e⟩ := List.mem_map.mp hx
    have := (C.caps p hp).2.2
    rw [e] at this
    rcases C.var with hv | hv <;> (rw [hv] at this; cases this)
  have gone : ∀ {st : St} {H H' : Heap} {m cm : Str → Option Value}, InF B cenv X₀ st O₀ H m cm → st.ext H' → (∀ b o, ¬ X₀ b → H.get? b = some o → H'.get? b = some o) → (∀ a, X₀ a → ∃ o, H'.get? a = some o) → InF B cenv X₀ st O₀ H' m cm :=
    fun F e keep live => F.outer keep live e
  let Inv : Nat → Shared → Prop := fun j s' => ∃ i h' tk' m cm, j = L₀.length - i ∧ i ≤ L₀.length ∧ s' = { s with heap := h', toks := tk' } ∧ S i h' ∧ InF B cenv X₀ st₀ O₀ h' m cm ∧ J h' X' D ((L₀.take i).filterMap f) ∧ (∀ b o, b ∉ wr → h₁.get? b = some o → h'.get? b = some o)
  have loop : ∀ s₃ : Shared, s₃ = { s with heap := h₃, toks := t₁ } → codeAny (model prog w) A (.compLoop ce 0 (.ref I) (.ref D) cenv) (RR (.ref D) L) s₃ := by
    rintro s₃ rfl
    refine K.loop Inv (fun j s' hI => ?_) L₀.length ⟨0, h₃, t₁, _, _, rfl, Nat.zero_le _, rfl, ok.frame _ _ _ hS fun b _ o e => k13 b o e, F₀, K.nil _ _ _ (k₃ _ _ gD), fun b o _ e => k13 b o e⟩
    generalize (notedBy (model prog w) A cenv fun e s' => RR (.ref D) L (.error e) s') = E'
    obtain ⟨i, h', tk', m, cm, rfl, hi, rfl, hS', F, hr, old⟩ := hI
    have held : ∀ b o, ¬ X b → b ∉ wr → h₁.get? b = some o → h'.get? b = some o ∧ ¬ X' b := fun b o nb nw e =>
      ⟨old b o nw e, fun z => (X'inv b z (lt1 e)).elim nb nw⟩
    by_cases hlt : i < L₀.length
    · obtain ⟨htest, helt⟩ := body L₀[i] (List.getElem_mem hlt) (cs ++ cl) L
      have etake : (L₀.take (i + 1)).filterMap f = (L₀.take i).filterMap f ++ (f L₀[i]).toList := by
        rw [List.take_add_one, List.getElem?_eq_getElem hlt, List.filterMap_append]
        cases g : f L₀[i] <;> simp [g]
      refine wpAny_mono (ok.item i (ρ L₀[i]) { s with heap := h', toks := tk' } X' (fun v s₂ => wpAny (model prog w) A (assign (.Name x px) cenv v) (fun _ s₂ =>
          wpAny (model prog w) A (forIn ifs true fun c r => if r = true then do let ok ← isTrue c cenv (eval c cenv); pure (ForInStep.yield ok) else pure (ForInStep.yield r)) (fun ok s₃ =>
            if ok = true then wpAny (model prog w) A (eval elt cenv) (fun x s₄ =>
              wpAny (model prog w) A (emit (.ref D) x) (fun _ s₅ => ∃ m, m < L₀.length - i ∧ Inv m s₅) E' s₄) E' s₃
            else ∃ m, m < L₀.length - i ∧ Inv m s₃) E' s₂) E' s₂) E' (by rw [List.getElem?_map, List.getElem?_eq_getElem hlt]; rfl) hS' held F.ok.live fun v h₄ tk₄ y₄ hS₄ keep₄ => ?_) (fun o s₂ ⟨v, e, hv⟩ => ?_) fun _ _ e => e
      rotate_left
      · subst e
        have := wpAny_bind hv
        rwa [show letOwnedTupleGo (.Name x px) (.ref I) v = pure () from rfl, pure_bind] at this
      have F₄ : InF B cenv X₀ st₀ O₀ h₄ m cm := gone F trivial (fun b o nb e => keep₄ b o (fun hw => nb (.inr (.inr hw))) e) fun a z => by
        by_cases hw : a ∈ wr
        · exact ok.live _ _ hS₄ a hw
        · obtain ⟨o, e⟩ := F.ok.live a (.inl z); exact ⟨o, keep₄ a o hw e⟩
      have nX' : ∀ b, ¬ X' b → b ∉ wr := fun b nb hw => nb (.inl (.inr (.inr hw)))
      have hr₄ : J h₄ X' D ((L₀.take i).filterMap f) := K.up _ _ _ _ _ _ hr (fun o e => keep₄ D o hDw e) fun b o nb e => ⟨keep₄ b o (nX' b nb) e, nb⟩
      have old₄ : ∀ b o, b ∉ wr → h₁.get? b = some o → h₄.get? b = some o := fun b o nw e => keep₄ b o nw (old b o nw e)
      refine wpAny_assign_Name (F₄.storeS hk (sl := .r (ρ L₀[i])) (loc' := slotsOf ((x, ρ L₀[i]) :: nuC)) y₄ ?_ (fun p hp' => ?_) fun h₅ m₅ cm₅ tk₅ F₅ c₅ ⟨a, ha, hs₅⟩ => ?_)
      · rw [slotsOf_names, List.map_cons, List.nodup_cons]
        exact ⟨hxC, C.capsN⟩
      · rcases List.mem_cons.mp hp' with e | hp'
        · exact .inl e
        · refine .inr ⟨hp', fun e => hxC ?_⟩
          obtain ⟨q, hq, e'⟩ := List.mem_map.mp hp'
          exact List.mem_map.mpr ⟨q, hq, by rw [← e, ← e']⟩
      · have aL : @LE.le Nat _ L a := by
          rcases ha with ⟨ha, _⟩ | ⟨h1, h2⟩
          · have ha : @Eq Nat a L := ha
            omega
          · exact Nat.le_of_lt (hcellx a h1 h2)
        have aX : X' a := by
          rcases ha with ⟨ha, _⟩ | ⟨h1, h2⟩
          · exact .inr (.inl (.inl ha))
          · exact .inr (.inl (.inr ⟨_, mem_of_lookup h2, rfl⟩))
        have ne : ∀ b : Nat, b ≤ D → b ≠ a := fun b hb e => by omega
        have hS₅ : S (i + 1) h₅ := ok.frame _ _ _ hS₄ fun b hb o e => (hs₅.2 b (ne b (Nat.le_of_lt (fplt b hb)))).trans e
        have hr₅ : J h₅ X' D ((L₀.take i).filterMap f) := K.up _ _ _ _ _ _ hr₄ (fun o e => (hs₅.2 D (ne D (Nat.le_refl _))).trans e) fun b o nb e => ⟨(hs₅.2 b (fun e => nb (e ▸ aX))).trans e, nb⟩
        have old₅ : ∀ b o, b ∉ wr → h₁.get? b = some o → h₅.get? b = some o := fun b o nw e => (hs₅.2 b (ne b (Nat.le_of_lt (lt1 e)))).trans (old₄ b o nw e)
        have N₅ : Nm cenv h₅ X' ((x, ρ L₀[i]) :: nuC) := by
          have y := F₅.keepNm
          have e1 : keepN (slotsOf ((x, ρ L₀[i]) :: nuC)) = (x, ρ L₀[i]) :: nuC := keepN_slotsOf _
          exact e1 ▸ y
        refine htest.run (X := X') R F₅.ok N₅ fun h₆ tk₆ k₆ => ?_
        have F₆ := F₅.grow k₆
        have hS₆ : S (i + 1) h₆ := ok.frame _ _ _ hS₅ fun b _ o e => k₆ b o e
        cases hf : f L₀[i] with
        | none =>
          refine (if_neg (by simp [hf])).mpr ?_
          refine ⟨L₀.length - (i + 1), by omega, i + 1, h₆, tk₆, m₅, cm₅, rfl, hlt, rfl, hS₆, F₆.restrict rfl (List.sublist_cons_self ..), ?_, fun b o nw e => k₆ b o (old₅ b o nw e)⟩
          rw [etake, hf]
          simpa using K.up _ _ _ _ _ _ hr₅ (fun o e => k₆ _ o e) fun b o nb e => ⟨k₆ b o e, nb⟩
        | some d =>
          refine (if_pos (by simp [hf])).mpr ?_
          refine (helt d hf).run A { s with heap := h₆, toks := tk₆ } X' _ _ R F₆.ok (N₅.ext k₆) fun y h₇ tk₇ k₇ y₇ => ?_
          have F₇ := F₆.grow k₇
          have DX : X' D := .inl (.inr (.inl rfl))
          have hle : ((L₀.take i).filterMap f).length ≤ L₀.length := by
            have h1 := List.length_filterMap_le f (L₀.take i)
            have h2 := List.length_take_le i L₀
            omega
          refine K.add { s with heap := h₇, toks := tk₇ } X' D _ d y _ _ (K.up _ _ _ _ _ _ hr₅ (fun o e => k₇ _ o (k₆ _ o e)) fun b o nb e => ⟨k₇ b o (k₆ b o e), nb⟩) hle (hG _ (List.getElem_mem hlt) d hf) DX y₇ fun _ h₈ tk₈ hs₈ hr₈ => ?_
          have F₈ : InF B cenv X₀ { st₀ with loc := slotsOf ((x, ρ L₀[i]) :: nuC) } O₀ h₈ m₅ cm₅ := gone F₇ trivial (fun b o nb e => (hs₈.2 b fun z => nb (.inr (.inl z))).trans e) fun a z => by
            by_cases ha : a = D
            · subst ha; exact K.live _ _ _ _ hr₈
            · obtain ⟨o, e⟩ := F₇.ok.live a (.inl z); exact ⟨o, (hs₈.2 a ha).trans e⟩
          refine ⟨L₀.length - (i + 1), by omega, i + 1, h₈, tk₈, m₅, cm₅, rfl, hlt, rfl, ?_, F₈.restrict rfl (List.sublist_cons_self ..), ?_, fun b o nw e => (hs₈.2 b fun z => ?_).trans (k₇ b o (k₆ b o (old₅ b o nw e)))⟩
          · exact ok.frame _ _ _ hS₆ fun b hb o e => (hs₈.2 b fun z => by have := fplt b hb; have z : @Eq Nat b D := z; omega).trans (k₇ b o e)
          · rw [etake, hf]
            exact hr₈
          · have := lt1 e; have z : @Eq Nat b D := z; omega
    · have hin : i = L₀.length := by omega
      subst hin
      refine wpAny_mono (ok.done { s with heap := h', toks := tk' } (fun o s₁ => o = none ∧ RR (.ref D) L (.ok .next) s₁) E' (by rw [List.length_map]; exact hS') fun h₂' tk₂ keep₂ => ⟨rfl, ?_⟩) (fun o s₂ ⟨e, hv⟩ => by subst e; exact hv) fun _ _ e => e
      have nwr : ∀ b o, s.heap.get? b = some o → b ∉ wr := fun b o e hw => by rw [(fresh b hw).1] at e; cases e
      refine q D L h₂' tk₂ m (fun b o e => keep₂ b o (nwr b o e) (old b o (nwr b o e) (k₁ b o e))) (none0 D (Nat.le_refl _)) (none0 L (by omega)) hDL ?_ (F.ns.at' fun o e => keep₂ _ o (fun hw => ?_) e) ?_
      · obtain ⟨o, g⟩ := K.live _ _ _ _ hr; exact ⟨_, keep₂ D _ hDw g⟩
      · have := wrlt L hw; omega
      · rw [List.take_length] at hr
        refine K.up _ _ _ _ _ _ hr (fun o e => keep₂ D o hDw e) fun b o nb e => ⟨keep₂ b o (fun hw => nb (.inl (.inr (.inr hw)))) e, fun z => nb ?_⟩
        rcases z with z | z | z
        · exact X'X b z
        · exact .inr (.inl (.inl z))
        · exact .inl (.inr (.inl z))
  exact K.start (loop _ rfl) (ok.self 0 _ _ _ (ok.frame _ _ _ hS fun b _ o e => k13 b o e) (loop _ rfl))
theorem acc_list {A : Around} {N : Nat} (hN : N ≤ sizeLine) : AccOk prog w A (.ListComp elt [⟨.Name x px, iter, ifs, 0⟩] scope pos) x px ifs elt (newList []) { cls := .type "list", dict := none, data := .seq ([] : List Value).toArray } (fun D y => call (.builtin "list.append") [D, y]) (fun h X D rs => ∃ vs, h.PlainList D (List.toArray vs) ∧ RVs h X vs rs) (fun _ => True) N where
  new := fun s Q E h => wpAny_newObj_type h
  fits := fun h => Heap.get?_push_size _ rfl
  start := codeAny_compStart_list
  loop := fun I turn n s h => codeAny_compLoop_tests I turn n h
  nil := fun h X D g => ⟨[], ⟨_, g⟩, .nil⟩
  up := fun h h' X Y D rs ⟨vs, hp, hr⟩ k up => ⟨vs, hp.at k, hr.up up⟩
  live := fun h X D rs ⟨vs, ⟨n, g⟩, _⟩ => ⟨_, g⟩
  add := fun s X D rs r y Q E ⟨vs, hp, hr⟩ hl _ hX hy q => by
    have hn := hr.length
    refine wpAny_list_append_plain hp (fun h₈ hp₈ hs₈ => ?_) (by simp only [List.size_toArray]; omega)
    have e1 : vs.toArray.push y = (vs ++ [y]).toArray := by simp
    rw [e1] at hp₈
    exact q _ _ _ hs₈ ⟨_, hp₈, (hr.snoc hy).up fun b o nb e => ⟨(hs₈.2 b fun z => nb (z ▸ hX)).trans e, nb⟩⟩
theorem comp_core {α : Type} {L₀ : List α} {ρ : α → Res} {f : α → Option Res} (it : IT prog w B n env nu (.Name x px) iter (L₀.map ρ)) (C : CompOk env nu nuC scope x) (hsz : L₀.length ≤ sizeLine)
    (body : ∀ r ∈ L₀, ∀ cs L, TVs prog w B n (compEnvC scope cs L env) ((x, ρ r) :: nuC) ifs (f r).isSome ∧ ∀ d, f r = some d → EV prog w B n (compEnvC scope cs L env) ((x, ρ r) :: nuC) elt d)
    {A : Around} {s : Shared} {X : Addr → Prop} {E : Value → Shared → Prop} {RR : Value → Addr → Result → Shared → Prop} (R : Room n A) (O : OkH B s.heap X) (N : Nm env s.heap X nu)
    (q : ∀ D L h' tk' vs m, Ext s.heap h' → s.heap.get? D = none → s.heap.get? L = none → D ≠ L → (∃ o, h'.get? D = some o) → h'.Ns L m → h'.PlainList D (List.toArray vs) → RVs h' (fun a => X a ∨ a = L ∨ a = D) vs (L₀.filterMap f) → RR (.ref D) L (.ok .next) { s with heap := h', toks := tk' }) :
    ∃ cl, closureFor scope env = pure cl ∧ wpAny (model prog w) A (eval iter env) (fun v s₁ => wpAny (model prog w) A (pyIter v) (fun it s₂ => wpAny (model prog w) A (newList []) (fun acc s₃ =>
      wpAny (model prog w) A (newFunctionEnv scope env.globals cl [] env.qual none .none (some env)) (fun cenv s₄ =>
        codeAny (model prog w) A (.compStart (.ListComp elt [⟨.Name x px, iter, ifs, 0⟩] scope pos) 0 it acc { cenv with scope := relabel scope env }) (RR acc cenv.locals) s₄) E s₃) E s₂) E s₁) E s := by
  refine comp_gen it C body (acc_list hsz) (fun _ _ _ _ => trivial) R O N fun D L h' tk' m k nD nL hDL lD hns hJ => ?_
  obtain ⟨vs, hp, hr⟩ := hJ
  exact q D L h' tk' vs m k nD nL hDL lD hns hp hr
end
end Mine
end
section
open PySem PySem.W PyProof.Rows PySem.Calls
namespace Mine
section
variable {prog : Program} {w : World} {B : Heap} {n : Nat} {env : Env} {nu nuC : List (Str × Res)} {elt iter : Expr} {x y : Str} {px py : Pos} {ifs : List Expr} {scope : Scope} {pos spos : Pos} {rs : List Res} {Z : Addr → Prop} {st : St} {P : Fl → St → Prop}
theorem filterMap_d {α : Type} (f : α → Option PyData) (rs : List α) : rs.filterMap (fun r => (f r).map Res.d) = (rs.filterMap f).map .d := by
  induction rs with
  | nil => rfl
  | cons r rs ih => rw [List.filterMap_cons, List.filterMap_cons]; cases f r <;> simp [ih]
theorem filterMap_v {α : Type} (f : α → Option Value) (rs : List α) : rs.filterMap (fun r => (f r).map Res.v) = (rs.filterMap f).map .v := by
  induction rs with
  | nil => rfl
  | cons r rs ih => rw [List.filterMap_cons, List.filterMap_cons]; cases f r <;> simp [ih]
theorem RVs.vals {h : Heap} {X : Addr → Prop} {vs us : List Value} (x : RVs h X vs (us.map .v)) : vs = us := by
  induction us generalizing vs with
  | nil => cases x; rfl
  | cons u us ih => cases x with | cons a r => rw [ih r, show _ = u from a]
theorem EV.listcomp {α : Type} {L₀ : List α} {ρ : α → Res} (f : α → Option PyData) (it : IT prog w B n env nu (.Name x px) iter (L₀.map ρ)) (C : CompOk env nu nuC scope x)
    (body : ∀ r ∈ L₀, ∀ cs L, TVs prog w B n (compEnvC scope cs L env) ((x, ρ r) :: nuC) ifs (f r).isSome ∧ ∀ d, f r = some d → EV prog w B n (compEnvC scope cs L env) ((x, ρ r) :: nuC) elt (.d d))
    (hsz : L₀.length ≤ sizeLine) (hs : ∀ x, foldedSetIterable iter env x = pure x := by intro _; rfl) :
    EV prog w B n env nu (.ListComp elt [⟨.Name x px, iter, ifs, 0⟩] scope pos) (.d (.list (L₀.filterMap f))) := by
  refine ⟨fun A s X Q E R O N q => ?_⟩
  rw [eval_ListComp]
  refine (comp_core (E := E) (f := fun r => (f r).map Res.d) (pos := pos) (RR := fun acc L => compPost (model prog w) A E none Q acc L) it C hsz (fun r hr cs L => ⟨by simpa using (body r hr cs L).1, fun d hd => by
      cases g : f r with
      | none => simp [g] at hd
      | some e => simp [g] at hd; subst hd; exact (body r hr cs L).2 e g⟩) R O N fun D L h' tk' vs m k nD nL hDL lD hns hp hr => ?_).elim fun cl hm => ?_
  rotate_left
  · obtain ⟨hcl, main⟩ := hm
    exact wpAny_comprehension_free (use := none) rfl hs hcl C.kind (fun z hz hl => lookup_of_mem C.nodup (by rw [← hl]; exact hz)) main
  · refine ⟨m, hns, fun h'' hs'' => ?_⟩
    rw [filterMap_d] at hr
    have nL' : ∀ b o, s.heap.get? b = some o → b ≠ L := fun b o e z => by subst z; rw [nL] at e; cases e
    refine q (.ref D) h'' tk' (fun b o e => (hs''.2 b (nL' b o e)).trans (k b o e)) (Rd.of_list (fun z => by obtain ⟨o, e⟩ := O.live D z; rw [nD] at e; cases e) (hp.at fun o e => (hs''.2 D hDL).trans e) ?_)
    exact hr.all.up fun b o nb e => ⟨(hs''.2 b fun z => nb (.inr (.inl z))).trans e, fun z => nb (.inl z)⟩
theorem EV.listcompV {α : Type} {L₀ : List α} {ρ : α → Res} (f : α → Option Value) (it : IT prog w B n env nu (.Name x px) iter (L₀.map ρ)) (C : CompOk env nu nuC scope x)
    (body : ∀ r ∈ L₀, ∀ cs L, TVs prog w B n (compEnvC scope cs L env) ((x, ρ r) :: nuC) ifs (f r).isSome ∧ ∀ d, f r = some d → EV prog w B n (compEnvC scope cs L env) ((x, ρ r) :: nuC) elt (.v d))
    (hsz : L₀.length ≤ sizeLine) (hs : ∀ x, foldedSetIterable iter env x = pure x := by intro _; rfl) :
    EV prog w B n env nu (.ListComp elt [⟨.Name x px, iter, ifs, 0⟩] scope pos) (.lv (L₀.filterMap f)) := by
  refine ⟨fun A s X Q E R O N q => ?_⟩
  rw [eval_ListComp]
  refine (comp_core (E := E) (f := fun r => (f r).map Res.v) (pos := pos) (RR := fun acc L => compPost (model prog w) A E none Q acc L) it C hsz (fun r hr cs L => ⟨by simpa using (body r hr cs L).1, fun d hd => by
      cases g : f r with
      | none => simp [g] at hd
      | some e => simp [g] at hd; subst hd; exact (body r hr cs L).2 e g⟩) R O N fun D L h' tk' vs m k nD nL hDL lD hns hp hr => ?_).elim fun cl hm => ?_
  rotate_left
  · obtain ⟨hcl, main⟩ := hm
    exact wpAny_comprehension_free (use := none) rfl hs hcl C.kind (fun z hz hl => lookup_of_mem C.nodup (by rw [← hl]; exact hz)) main
  · refine ⟨m, hns, fun h'' hs'' => ?_⟩
    rw [filterMap_v] at hr
    have hv := hr.vals
    subst hv
    have nL' : ∀ b o, s.heap.get? b = some o → b ≠ L := fun b o e z => by subst z; rw [nL] at e; cases e
    refine q (.ref D) h'' tk' (fun b o e => (hs''.2 b (nL' b o e)).trans (k b o e)) ⟨D, rfl, (fun z => by obtain ⟨o, e⟩ := O.live D z; rw [nD] at e; cases e), ?_⟩
    obtain ⟨nn, g⟩ := hp
    exact ⟨_, (hs''.2 D hDL).trans g, rfl, nn, rfl⟩
theorem SF.assignComp {loc' : List (Str × Slot)} {α : Type} {L₀ : List α} {ρ : α → Res} (f : α → Option PyData) (it : IT prog w B n env (keepN st.loc) (.Name x px) iter (L₀.map ρ)) (C : CompOk env (keepN st.loc) nuC scope x)
    (body : ∀ r ∈ L₀, ∀ cs L, TVs prog w B n (compEnvC scope cs L env) ((x, ρ r) :: nuC) ifs (f r).isSome ∧ ∀ d, f r = some d → EV prog w B n (compEnvC scope cs L env) ((x, ρ r) :: nuC) elt (.d d))
    (hsz : L₀.length ≤ sizeLine) (hk : Sto env y) (up : Upd st.loc y (.r (.d (.list (L₀.filterMap f)))) loc') (p : P .next { st with loc := loc' })
    (hs : ∀ x, foldedSetIterable iter env x = pure x := by intro _; rfl)
    (hsw : swapsWith (.ListComp elt [⟨.Name x px, iter, ifs, 0⟩] scope pos) (some (.Name y py)) spos.line env = pure true := by rfl) :
    SF prog w B n env Z st (exec (.Assign [.Name y py] (.ListComp elt [⟨.Name x px, iter, ifs, 0⟩] scope pos) spos) env) P := by
  refine ⟨fun A s X₀ O Q E R F q => ?_⟩
  obtain ⟨m, cm, fr⟩ := F.inF
  refine (comp_core (E := E) (f := fun r => (f r).map Res.d) (pos := pos) (RR := fun acc L => compPost (model prog w) A E (some (PySem.assign (.Name y py) env)) (fun _ s' => Q .next s') acc L) it C hsz (fun r hr cs L => ⟨by simpa using (body r hr cs L).1, fun d hd => by
      cases g : f r with
      | none => simp [g] at hd
      | some e => simp [g] at hd; subst hd; exact (body r hr cs L).2 e g⟩) R fr.ok fr.keepNm fun D L h' tk' vs mL k nD nL hDL lD hns hp hr => ?_).elim fun cl hm => ?_
  rotate_left
  · obtain ⟨hcl, main⟩ := hm
    rw [exec_Assign_Name_used _ _ _ _ hsw]
    refine wpAny_bind (wpAny_standAt (wpAny_bind ?_))
    show wpAny _ A (do let _ ← comprehension (.ListComp elt [⟨.Name x px, iter, ifs, 0⟩] scope pos) scope env _ (newList []) false (eval iter env) (some (PySem.assign (.Name y py) env))) _ _ s
    exact wpAny_bind (wpAny_mono (wpAny_comprehension_free (use := some (PySem.assign (.Name y py) env)) (Q := fun _ s' => Q .next s') rfl hs hcl C.kind (fun z hz hl => lookup_of_mem C.nodup (by rw [← hl]; exact hz)) main)
      (fun _ s' hq => wpAny_pure (wpAny_pure hq)) fun _ _ e => e)
  · rw [filterMap_d] at hr
    have dead : ∀ a, s.heap.get? a = none → ¬ Av X₀ env O a := fun a e z => by obtain ⟨o, g⟩ := fr.ok.live a z; rw [e] at g; cases g
    have lL : ∃ o, h'.get? L = some o := let ⟨o, _, _, e, _⟩ := hns; ⟨o, e⟩
    have F₁ : InZ B env Z (orS X₀ (· = L)) st O h' := F.addX k (fun a z => z.imp id fun (z : a = L) => by rw [z]; exact ⟨nL, lL⟩) fun a z => .inl z
    obtain ⟨m₁, cm₁, f₁⟩ := F₁.inF
    have nmL : ¬ Mu env O L := fun z => dead L nL (.inr z)
    show wpAny _ A (PySem.assign (.Name y py) env (.ref D)) _ _ _
    have yD : RV h' (Av (orS X₀ (· = L)) env O) (.ref D) (.d (.list (L₀.filterMap f))) := Rd.of_list (fun z => by
        rcases z with (z | z) | z
        · exact dead D nD (.inl z)
        · exact hDL z
        · exact dead D nD (.inr z)) hp (hr.all.less fun b z => by
        rcases z with (z | z) | z
        · exact .inl (.inl z)
        · exact .inr (.inl z)
        · exact .inl (.inr z))
    refine wpAny_assign_Name (f₁.store hk yD up fun h₂ m₂ cm₂ tk₂ f₂ c₂ => ?_)
    have F₂ : InZ B env Z (orS X₀ (· = L)) { st with loc := loc' } O h₂ := ⟨F₁.foot, F₁.stab, m₂, cm₂, f₂⟩
    obtain ⟨oL, hL⟩ := lL
    refine ⟨mL, hns.at' fun o e => c₂.keep L o nmL e, fun h₃ hs₃ => ?_⟩
    have F₃ : InZ B env Z X₀ { st with loc := loc' } O h₃ := F₂.outDrop (fun a z => .inl z) F.foot fun b o nb e => (hs₃.2 b fun z => by
      rcases nb with nb | nb
      · exact nb (.inr z)
      · exact dead L nL (.inl (z ▸ nb))).trans e
    refine q .next .next _ O h₃ _ p F₃ ⟨fun b o nb e => (hs₃.2 b fun z => by subst z; rw [nL] at e; cases e).trans (c₂.keep b o nb (k b o e)), fun z a e => .inl ⟨z, e⟩, fun z a e => ?_⟩ trivial
    obtain ⟨o, g⟩ := c₂.live z a e
    exact ⟨o, (hs₃.2 a fun w => nmL (w ▸ .inr ⟨z, e⟩)).trans g⟩
end
end Mine
end
section
open PySem PySem.W PyProof.Rows PySem.Calls
namespace Mine
theorem cellsFrom_lookup : ∀ (names : List (Str × NameKind)) (n : Nat), (names.map (·.1)).Nodup → ∀ p ∈ cellsFrom n names [], (cellsFrom n names []).lookup p.1 = some p.2
  | [], _, _, _, h => nomatch h
  | (name, kind) :: r, n, nd, p, h => by
    rw [List.map_cons, List.nodup_cons] at nd
    unfold cellsFrom at h ⊢
    by_cases hk : (kind == NameKind.cell) = true
    · rw [if_pos hk, cellsFrom_acc] at h ⊢
      rw [List.lookup_append]
      rcases List.mem_append.mp h with h | h
      · rw [cellsFrom_lookup r _ nd.2 p h]; rfl
      · rw [List.mem_singleton.mp h]
        cases g : (cellsFrom (n + 1) r []).lookup name with
        | none => simp
        | some c => exact absurd (List.mem_map.mpr ⟨_, cellsFrom_names _ _ _ (mem_of_lookup g), rfl⟩) nd.1
    · rw [if_neg hk] at h ⊢
      exact cellsFrom_lookup r n nd.2 p h
theorem bind_keep {K : Str → Option NameKind} {x : Str} : ∀ (binds : List (Str × Value)) (m cm : Str → Option Value), x ∉ binds.map (·.1) → bindL K binds m x = m x ∧ bindC K binds cm x = cm x
  | [], _, _, _ => ⟨rfl, rfl⟩
  | (y, v) :: r, m, cm, h => by
    rw [List.map_cons, List.mem_cons] at h
    have hy : x ≠ y := fun e => h (.inl e)
    obtain ⟨h1, h2⟩ := bind_keep (K := K) (x := x) r (if K y = some .local then fun z => if z = y then some v else m z else m) (if K y = some .local then cm else fun z => if z = y then some v else cm z) fun z => h (.inr z)
    unfold bindL bindC
    rw [h1, h2]
    constructor
    · split
      · exact if_neg hy
      · rfl
    · split
      · rfl
      · exact if_neg hy
theorem bind_get {K : Str → Option NameKind} {x : Str} {v : Value} : ∀ (binds : List (Str × Value)) (m cm : Str → Option Value), (binds.map (·.1)).Nodup → (x, v) ∈ binds → (K x = some .local → bindL K binds m x = some v) ∧ (K x ≠ some .local → bindC K binds cm x = some v)
  | (y, u) :: r, m, cm, nd, h => by
    rw [List.map_cons, List.nodup_cons] at nd
    unfold bindL bindC
    rcases List.mem_cons.mp h with e | h
    · cases e
      obtain ⟨h1, h2⟩ := bind_keep (K := K) (x := x) r (if K x = some .local then fun z => if z = x then some v else m z else m) (if K x = some .local then cm else fun z => if z = x then some v else cm z) nd.1
      rw [h1, h2]
      exact ⟨fun hl => by rw [if_pos hl]; simp, fun hl => by rw [if_neg hl]; simp⟩
    · exact bind_get r _ _ nd.2 h
noncomputable def Gives (r : Res) (fl : Fl) (_ : St) : Prop := match fl with
  | .ret r' => ∀ (h : Heap) (X : Addr → Prop) (u : Value), RV h X u r' → RV h X u r
  | .next => ∀ (h : Heap) (X : Addr → Prop), RV h X .none r
  | _ => False
theorem Gives.ret (r : Res) (st : St) : Gives r (.ret r) st := fun _ _ _ y => y
structure OPD (prog : Program) (w : World) (B : Heap) (D : Prop) (n : Nat) (f : List Value → Sem Value) (rs : List Res) (r : Res) : Prop where
  run : ∀ (A : Around) (s : Shared) (X : Addr → Prop) (Q : Value → Shared → Prop) (E : Value → Shared → Prop) (vs : List Value), Room n A → OkH B s.heap X → RVs s.heap X vs rs →
    (∀ v h' tk' dr', (D ∨ dr' = s.drawn) → Ext s.heap h' → RV h' X v r → Q v { s with heap := h', toks := tk', drawn := dr' }) → wpAny (model prog w) A (f vs) Q E s
section
variable {prog : Program} {w : World} {B : Heap} {n : Nat} {a : Addr} {o : Obj} {fd : FuncData} {body : List Stmt} {rs rs' : List Res} {r : Res} {xs : List Str}
theorem RVs.mem {h : Heap} {X : Addr → Prop} {binds : List (Str × Value)} {rs : List Res} (y : RVs h X (binds.map (·.2)) rs) {x : Str} {r : Res} (hm : (x, r) ∈ (binds.map (·.1)).zip rs) : ∃ v, (x, v) ∈ binds ∧ RV h X v r := by
  induction binds generalizing rs with
  | nil => simp at hm
  | cons b bs ih =>
    cases y with
    | cons y1 y2 =>
      rw [List.map_cons, List.zip_cons_cons, List.mem_cons] at hm
      rcases hm with e | hm
      · cases e; exact ⟨_, .head _, y1⟩
      · obtain ⟨v, h1, h2⟩ := ih y2 hm; exact ⟨v, .tail _ h1, h2⟩
theorem zip_fst_sub {xs : List Str} {rs : List Res} : ((xs.zip rs).map (·.1)).Sublist xs := by
  induction xs generalizing rs with
  | nil => simp
  | cons x xs ih =>
    cases rs with
    | nil => simp
    | cons r rs => rw [List.zip_cons_cons, List.map_cons]; exact .cons₂ _ ih
theorem OPD.fnG {D : Prop} (hB : B.get? a = some o) (hd : o.data = .func fd) (hlim : B.NoLimit) (hcd : B.CodeRec fd.code fd.qualname) (hbody : fd.body = .stmts body) (hclo : fd.closure = [])
    (hbind : ∀ (A : Around) (s : Shared) (X : Addr → Prop) (Q : List (Str × Value) → Shared → Prop) (E : Value → Shared → Prop) (vs : List Value), Room n A → OkH B s.heap X → RVs s.heap X vs rs →
      (∀ binds h' tk', Ext s.heap h' → binds.map (·.1) = xs → RVs h' X (binds.map (·.2)) rs' → Q binds { s with heap := h', toks := tk' }) → wpAny (model prog w) A (bindArgs fd ⟨vs, []⟩) Q E s)
    (hk : ∀ x ∈ xs, fd.scope.names.lookup x = some .local ∨ fd.scope.names.lookup x = some .cell) (nd : xs.Nodup) (ndn : (fd.scope.names.map (·.1)).Nodup)
    (main : ∀ L, GF prog w B D n (callEnvC fd L a) (fun _ => False) ⟨slotsOf (xs.zip rs'), fun _ => True⟩ (execs body (callEnvC fd L a)) (fun _ => Gives r))
    (hco : fd.scope.isCoroutine = false := by rfl) (hgen : fd.scope.isGenerator = false := by rfl) (hkind : fd.scope.kind = .function := by rfl) :
    OPD prog w B D (n + 1) (fun vs => call (.ref a) vs) rs r := by
  refine ⟨fun A s X Q E vs R O y q => ?_⟩
  refine wpAny_call (codeAny_call_function R.hroom (O.base _ _ hB) hd hco hgen hbody (hcd.keeps O.base) ?_)
  refine hbind A.in1 s X _ _ vs R.in1 O y fun binds h₁ t₁ k₁ hx y₁ => ?_
  subst hx
  rw [hclo]
  have O₁ := O.ext k₁
  refine wpAny_newFunctionEnv_cells hkind (fun p hp => ?_) fun env he s₂ x => ?_
  · rcases hk p.1 (List.mem_map.mpr ⟨p, hp, rfl⟩) with h | h
    · exact .inl h
    · refine .inr ⟨h, ?_⟩
      obtain ⟨c, hc⟩ := cellsFrom_mem fd.scope.names (h₁.objs.size + 1) p.1 (mem_of_lookup h)
      show ((cellsFrom (h₁.objs.size + 1) fd.scope.names []).lookup p.1).isSome = true
      rw [hc]; rfl
  · have he : env = callEnvC fd h₁.objs.size a := he
    subst he
    generalize hL : h₁.objs.size = L at x
    obtain ⟨h₂, tk₂, rfl⟩ := x.toInCall.same
    have keep : Ext h₁ h₂ := x.toInCall.keep
    refine ⟨hlim.keeps fun b o e => keep b o (O₁.base b o e), codeAny_func ?_⟩
    have old : ∀ {b o}, h₁.get? b = some o → @LT.lt Nat _ b L := fun e => hL ▸ Heap.lt_size e
    have hLn : h₁.get? L = none := by
      cases g : h₁.get? L with
      | none => rfl
      | some o => exact absurd (old g) (Nat.lt_irrefl _)
    have hcn : ∀ p ∈ (callEnvC fd L a).cells, h₁.get? p.2 = none := fun p hp => by
      cases g : h₁.get? p.2 with
      | none => rfl
      | some o =>
        have h1 := old g
        have h2 : @LT.lt Nat _ L p.2 := x.above p.1 p.2 hp
        exact absurd (Nat.lt_trans h1 h2) (Nat.lt_irrefl _)
    have muN : ∀ b, MuF (callEnvC fd L a) b → h₁.get? b = none := fun b z => by
      rcases z with z | ⟨p, hp, z⟩
      · rw [z]; exact hLn
      · rw [← z]; exact hcn p hp
    have noneB : ∀ b, h₁.get? b = none → B.get? b = none := fun b hb => by
      cases g : B.get? b with
      | none => rfl
      | some o => rw [O₁.base b o g] at hb; cases hb
    have F : InF B (callEnvC fd L a) X ⟨slotsOf ((binds.map (·.1)).zip rs'), fun _ => True⟩ (fun _ => none) h₂ (bindL (callEnvC fd L a).kindOf binds fun _ => none) (bindC (callEnvC fd L a).kindOf binds fun _ => none) := by
      refine ⟨⟨fun b o e => keep b o (O₁.base b o e), fun b z => ?_, fun b z => ?_⟩, hkind, x.toInCall.ns, x.cell, x.apart, fun p hp => ?_, fun b z y => ?_, (fun _ _ e => nomatch e), (fun _ _ _ e => nomatch e), ?_, fun p hp => ?_, trivial, fun _ _ _ _ => trivial⟩
      · rcases z with z | (z | ⟨p, hp, z⟩) | ⟨_, z⟩
        · obtain ⟨o, e⟩ := O₁.live b z; exact ⟨o, keep b o e⟩
        · obtain ⟨o, _, _, e, _⟩ := x.toInCall.ns; exact ⟨o, z ▸ e⟩
        · obtain ⟨o, e, _⟩ := x.cell p.1 p.2 (cellsFrom_lookup _ _ ndn p hp); exact ⟨o, z ▸ e⟩
        · cases z
      · rcases z with z | z | ⟨_, z⟩
        · exact O₁.off b z
        · exact noneB b (muN b z)
        · cases z
      · intro e
        have h2 : @LT.lt Nat _ L p.2 := x.above p.1 p.2 hp
        have e2 : @Eq Nat p.2 L := e
        rw [e2] at h2
        exact Nat.lt_irrefl _ h2
      · rcases z with z | ⟨_, z⟩
        · obtain ⟨o, e⟩ := O₁.live b y
          rw [muN b z] at e; cases e
        · cases z
      · rw [show (St.mk (slotsOf ((binds.map (·.1)).zip rs')) (fun _ => True)).loc = slotsOf ((binds.map (·.1)).zip rs') from rfl, slotsOf_names]
        exact zip_fst_sub.nodup nd
      · obtain ⟨z, hz, rfl⟩ := List.mem_map.mp hp
        obtain ⟨v, hm, yv⟩ := y₁.mem (x := z.1) (r := z.2) hz
        obtain ⟨g1, g2⟩ := bind_get (K := (callEnvC fd L a).kindOf) binds (fun _ => none) (fun _ => none) nd hm
        refine ⟨v, ?_, RV.up (fun b o nb e => ⟨keep b o e, fun z => ?_⟩) yv⟩
        · rcases hk z.1 (List.mem_map.mpr ⟨_, hm, rfl⟩) with h | h
          · exact .inl ⟨h, g1 h⟩
          · refine .inr ⟨h, ?_, g2 (by rw [show (callEnvC fd L a).kindOf z.1 = fd.scope.names.lookup z.1 from rfl, h]; simp)⟩
            exact cellsFrom_mem fd.scope.names (L + 1) z.1 (mem_of_lookup h)
        · rcases z with z | z | ⟨_, z⟩
          · exact nb z
          · rw [muN b z] at e; cases e
          · cases z
    have e1 : orS X (fun _ => False) = X := orS_of fun _ z => z.elim
    refine (main L).run (A.deeper (callEnvC fd L a)) { s with heap := h₂, toks := tk₂ } X (fun _ => none) _ _ (R.deeper _) (fun _ z => z.elim) (e1.symm ▸ ⟨fun _ z => z.elim, fun _ _ _ _ => trivial, _, _, F⟩) fun Z' fl fw st' O' h' tk' dr' hdr p _ _ F' c yf => ?_
    have ext : Ext s.heap h' := fun b o e => c.keep b o (fun z => by
      rcases z with z | ⟨_, z⟩
      · have := muN b z
        rw [k₁ b o e] at this; cases this
      · cases z) (fun z => z) (keep b o (k₁ b o e))
    cases fl with
    | next => cases fw <;> first | exact yf.elim | exact q _ _ _ _ hdr ext (p _ _)
    | brk => exact p.elim
    | cont => exact p.elim
    | ret r' => cases fw <;> first | exact yf.elim | exact q _ _ _ _ hdr ext (p _ _ _ yf)
theorem OPD.toP {f : List Value → Sem Value} (h : OPD prog w B False n f rs r) : OP prog w B n f rs r :=
  .mk fun A s X Q E vs R O y q => h.run A s X Q E vs R O y fun v h' tk' dr' hdr k z => by
    obtain rfl : dr' = s.drawn := hdr.elim False.elim id
    exact q v h' tk' k z
theorem OP.fnG (hB : B.get? a = some o) (hd : o.data = .func fd) (hlim : B.NoLimit) (hcd : B.CodeRec fd.code fd.qualname) (hbody : fd.body = .stmts body) (hclo : fd.closure = [])
    (hbind : ∀ (A : Around) (s : Shared) (X : Addr → Prop) (Q : List (Str × Value) → Shared → Prop) (E : Value → Shared → Prop) (vs : List Value), Room n A → OkH B s.heap X → RVs s.heap X vs rs →
      (∀ binds h' tk', Ext s.heap h' → binds.map (·.1) = xs → RVs h' X (binds.map (·.2)) rs' → Q binds { s with heap := h', toks := tk' }) → wpAny (model prog w) A (bindArgs fd ⟨vs, []⟩) Q E s)
    (hk : ∀ x ∈ xs, fd.scope.names.lookup x = some .local ∨ fd.scope.names.lookup x = some .cell) (nd : xs.Nodup) (ndn : (fd.scope.names.map (·.1)).Nodup)
    (main : ∀ L, SF prog w B n (callEnvC fd L a) (fun _ => False) ⟨slotsOf (xs.zip rs'), fun _ => True⟩ (execs body (callEnvC fd L a)) (Gives r))
    (hco : fd.scope.isCoroutine = false := by rfl) (hgen : fd.scope.isGenerator = false := by rfl) (hkind : fd.scope.kind = .function := by rfl) :
    OP prog w B (n + 1) (fun vs => call (.ref a) vs) rs r :=
  OPD.toP (OPD.fnG hB hd hlim hcd hbody hclo hbind hk nd ndn (fun L => (main L).toG fun _ _ p => p) hco hgen hkind)
theorem OP.fn (hB : B.get? a = some o) (hd : o.data = .func fd) (hlim : B.NoLimit) (hcd : B.CodeRec fd.code fd.qualname) (hbody : fd.body = .stmts body) (hclo : fd.closure = [])
    (hbind : ∀ (vs : List Value), vs.length = rs.length → bindArgs fd ⟨vs, []⟩ = pure (xs.zip vs)) (hlen : xs.length = rs.length)
    (hk : ∀ x ∈ xs, fd.scope.names.lookup x = some .local ∨ fd.scope.names.lookup x = some .cell) (nd : xs.Nodup) (ndn : (fd.scope.names.map (·.1)).Nodup)
    (main : ∀ L, SF prog w B n (callEnvC fd L a) (fun _ => False) ⟨slotsOf (xs.zip rs), fun _ => True⟩ (execs body (callEnvC fd L a)) (Gives r))
    (hco : fd.scope.isCoroutine = false := by rfl) (hgen : fd.scope.isGenerator = false := by rfl) (hkind : fd.scope.kind = .function := by rfl) :
    OP prog w B (n + 1) (fun vs => call (.ref a) vs) rs r := by
  refine OP.fnG (rs' := rs) hB hd hlim hcd hbody hclo (fun A s X Q E vs R O y q => ?_) hk nd ndn main hco hgen hkind
  have hl := y.length
  rw [hbind vs hl]
  have h1 : (xs.zip vs).map (·.1) = xs := List.map_fst_zip (by omega)
  have h2 : (xs.zip vs).map (·.2) = vs := List.map_snd_zip (by omega)
  exact wpAny_pure (q _ _ _ (Ext.refl _) h1 (by rw [h2]; exact y))
end
section
variable {prog : Program} {w : World} {B : Heap} {n : Nat} {env : Env} {nu : List (Str × Res)} {x : Str} {pos : Pos} {mg mb : Str → Option Value} {v : Value} {d : PyData}
theorem EV.glob (G : B.Ns env.globals mg) (hv : mg x = some v) (hk : env.kindOf x = some .globalImplicit) (hf : env.scope.kind = .function) (hd : (x == ("__debug__" : Str)) = false) : EV prog w B n env nu (.Name x pos) (.v v) :=
  .mk fun A s X Q E R O N q => Name_function_global hf hk (loadGlobal_global (G.keeps O.base) hv (q _ _ _ (Ext.refl _) rfl)) hd
theorem EV.built (G : B.Ns env.globals mg) (hm : mg x = none) (Gb : B.Ns env.builtins mb) (hv : mb x = some v) (hk : env.kindOf x = some .globalImplicit) (hf : env.scope.kind = .function) (hd : (x == ("__debug__" : Str)) = false) : EV prog w B n env nu (.Name x pos) (.v v) :=
  .mk fun A s X Q E R O N q => Name_function_global hf hk (loadGlobal_builtin (G.keeps O.base) hm (Gb.keeps O.base) hv (q _ _ _ (Ext.refl _) rfl)) hd
theorem EV.globD {X₀ : Addr → Prop} (G : B.Ns env.globals mg) (hv : mg x = some v) (hr : Rd B X₀ v d) (hk : env.kindOf x = some .globalImplicit) (hf : env.scope.kind = .function) (hd : (x == ("__debug__" : Str)) = false) : EV prog w B n env nu (.Name x pos) (.d d) :=
  .mk fun A s X Q E R O N q => Name_function_global hf hk (loadGlobal_global (G.keeps O.base) hv (q _ _ _ (Ext.refl _) (Rd.up (fun b o _ e => ⟨O.base b o e, O.inBase e⟩) hr))) hd
end
end Mine
end
section
open PySem PySem.W PyProof.Rows PySem.Calls
namespace Mine
noncomputable def byText (w : World) : Bool := w.params.followText "set-order"
section
variable {prog : Program} {w : World} {K : Type} [DecidableEq K] (knd : KeyKind prog w K)
noncomputable def SetX (h : Heap) (a : Addr) (S : K → Bool) (n : Nat) : Prop :=
  ∃ es ep t, h.get? a = some { cls := .type "set", data := .set es ep t } ∧ ElemsOf knd es.toList ∧ (∀ k, S k = true ↔ ∃ e ∈ es.toList, knd.is k e.2 = true) ∧ es.size < scanBound ∧ t.fits es.size = true ∧ es.size = n ∧ t.led = !byText w ∧ (n ≤ 1 ∨ t.plain = false)
variable {knd}
variable {A : Around} {E : Value → Shared → Prop} {s : Shared} {a : Addr} {S : K → Bool} {n : Nat}
theorem SetX.of {h : Heap} (x : SetX knd h a S n) : h.SetOf knd a S n :=
  let ⟨es, ep, t, g, h1, h2, h3, h4, h5, _⟩ := x; ⟨_, es, ep, t, g, ⟨rfl, rfl, rfl⟩, rfl, h1, h2, h3, h4, h5⟩
theorem SetX.at {h h' : Heap} (x : SetX knd h a S n) (k : ∀ o, h.get? a = some o → h'.get? a = some o) : SetX knd h' a S n :=
  let ⟨es, ep, t, g, r⟩ := x; ⟨es, ep, t, k _ g, r⟩
theorem SetX.live {h : Heap} (x : SetX knd h a S n) : ∃ o, h.get? a = some o := let ⟨_, _, _, g, _⟩ := x; ⟨_, g⟩
theorem orStandIn_led (t : SetTable) (k : Nat) : (t.orStandIn k).led = t.led := by unfold SetTable.orStandIn; split <;> rfl
theorem orStandIn_plain {t : SetTable} {k : Nat} (h : t.plain = false) : (t.orStandIn k).plain = false := by unfold SetTable.orStandIn; split <;> first | exact h | rfl
theorem layNew_led (t : SetTable) (es : Array (Int × Value)) (h : Int) (x : Value) : (layNew t es h x).2.1.led = t.led := by
  unfold layNew
  split
  · exact (orStandIn_led _ _).trans rfl
  · rfl
theorem layNew_plain {t : SetTable} {es : Array (Int × Value)} {h : Int} {x : Value} (hp : t.plain = false) : (layNew t es h x).2.1.plain = false := by
  unfold layNew
  split
  · exact orStandIn_plain hp
  · rfl
theorem laid_led {mask finger moves : Nat} {led plain : Bool} {hs : Array Int} {r : SetTable × Array Nat} (h : SetTable.laid mask finger moves led plain hs = some r) : r.1.led = led ∧ r.1.plain = plain := by
  unfold SetTable.laid at h
  cases hc : SetTable.layClean mask hs with
  | none => rw [hc] at h; cases h
  | some o => rw [hc] at h; cases h; exact ⟨rfl, rfl⟩
theorem relayAll_led (t : SetTable) (es : Array (Int × Value)) (k : Nat) : (relayAll t es k).2.1.led = t.led := by
  unfold relayAll
  split
  · rename_i t' order h
    dsimp only
    split
    · exact (laid_led h).1
    · rfl
  · rfl
theorem relayAll_plain {t : SetTable} {es : Array (Int × Value)} {k : Nat} (hp : t.plain = false) : (relayAll t es k).2.1.plain = false := by
  unfold relayAll
  split
  · rename_i t' order h
    dsimp only
    split
    · exact (laid_led h).2.trans hp
    · rfl
  · rfl
theorem setx_store {es : Array (Int × Value)} {ep : Nat} {t : SetTable} {es' : Array (Int × Value)} {t' : SetTable} {Q : Unit → Shared → Prop} (g : s.heap.get? a = some { cls := .type "set", data := .set es ep t }) (hz : es'.size < scanBound)
    (h : ∀ h', Heap.SameBut a s.heap h' → h'.get? a = some { cls := .type "set", data := .set es' (ep + 1) t' } → Q () { s with heap := h' }) : wpAny (model prog w) A (storeSet a es' t') Q E s := by
  refine wpAny_storeSet_of g rfl (h _ (Heap.SameBut.update ..) ?_) (fits_of_scanBound hz)
  have := Heap.get?_update_self (Obj.putSet es' t') g (by rw [putSet_of es' t' rfl]; rfl)
  rw [putSet_of es' t' rfl] at this; exact this
theorem setx_add {k : K} {x : Value} {Q : Bool → Shared → Prop} (hkey : knd.is k x = true) (hsc : x.scannable = true) (hS : SetX knd s.heap a S n) (hroom : n + 1 < scanBound) (hp : plainKind x = false ∨ S k = true ∨ n = 0)
    (h : ∀ h', Heap.SameBut a s.heap h' → SetX knd h' a (fun k' => S k' || decide (k' = k)) (if S k then n else n + 1) → Q (!S k) { s with heap := h' }) :
    wpAny (model prog w) A (setAddHashed a x (knd.hash k)) Q E s := by
  obtain ⟨es, ep, t, g, hel, hmem, hb, hf, hn, hled, hpl⟩ := hS
  have hb1 : es.size + 1 < scanBound := by rw [hn]; exact hroom
  unfold setAddHashed setAddHashedIn
  refine wpAny_holding (wpAny_bind (wpAny_setState_of g rfl hf ?_))
  dsimp only
  rw [byScan_of hsc hb hel]
  simp only [↓reduceIte]
  unfold setAddByScan
  refine wpAny_bind (wpAny_bind (wpAny_rule (wpAny_bind (wpAny_setScan_of hkey g rfl hf hel ?_))))
  cases hr : List.findIdx? (fun e => knd.is k e.2) es.toList with
  | some j =>
    dsimp only
    obtain ⟨hj, hpj, _⟩ := List.findIdx?_eq_some_iff_getElem.mp hr
    have hSk : S k = true := (hmem k).mpr ⟨es.toList[j], List.getElem_mem hj, hpj⟩
    refine wpAny_pure (wpAny_pure ?_)
    have := h s.heap (Heap.SameBut.refl a s.heap) ⟨es, ep, t, g, hel, fun k' => by
      rw [Bool.or_eq_true, decide_eq_true_eq, ← hmem k']
      exact ⟨fun hk => hk.elim id (fun e => e ▸ hSk), .inl⟩, hb, hf, by rw [hSk]; exact hn, hled, by rw [hSk]; exact hpl⟩
    rw [hSk] at this
    exact this
  | none =>
    dsimp only
    have hSk : S k = false := by
      cases hk : S k with
      | false => rfl
      | true => obtain ⟨e, he, hp⟩ := (hmem k).mp hk; have := List.findIdx?_eq_none_iff.mp hr e he; rw [hp] at this; exact Bool.noConfusion this
    have hperm := layNew_perm t es (knd.hash k) x
    have hfits := layNew_fits t es (knd.hash k) x
    have hled1 := layNew_led t es (knd.hash k) x
    have hpl1 := fun hp => layNew_plain (t := t) (es := es) (h := knd.hash k) (x := x) hp
    generalize hL : layNew t es (knd.hash k) x = L at hperm hfits hled1 hpl1 ⊢
    obtain ⟨es1, t1, wasDummy, gave⟩ := L
    dsimp only at hperm hfits hled1 hpl1 ⊢
    rw [Array.toList_push] at hperm
    have hel1 : ElemsOf knd es1.toList := (hel.push hkey hsc).perm hperm
    have hmem1 : ∀ k', (S k' || decide (k' = k)) = true ↔ ∃ e ∈ es1.toList, knd.is k' e.2 = true := mem_push_iff hkey hmem hperm
    have hsz1 : es1.size = n + 1 := by rw [← Array.length_toList, hperm.length_eq, List.length_append, Array.length_toList, hn]; rfl
    have hb1' : es1.size < scanBound := by rw [hsz1]; exact hroom
    -- what is stored in the end
    have tail : ∀ (t2 : SetTable), t2.fits es1.size = true → t2.led = !byText w → (n + 1 ≤ 1 ∨ t2.plain = false) → ∀ (g' : Bool → Sem Unit), (∀ (b : Bool) (s₁ : Shared) (Q' : Unit → Shared → Prop), Q' () s₁ → wpAny (model prog w) A (g' b) Q' E s₁) →
        wpAny (model prog w) A (do
          storeSet a es1 t2
          if (!wasDummy && t2.tooFull) = true then do
              g' (relayAll t2 es1 (SetTable.grown es1.size)).2.2
              storeSet a (relayAll t2 es1 (SetTable.grown es1.size)).1 (relayAll t2 es1 (SetTable.grown es1.size)).2.1
              pure (some true)
            else pure (some true)) (fun r s' => r = some true ∧ Q true s') E s := by
      intro t2 hf2 hled2 hpl2 g' hg'
      refine wpAny_bind (setx_store g hb1' fun h₁ hs₁ g₁ => ?_)
      split
      · have hpm := relayAll_perm t2 es1 (SetTable.grown es1.size)
        have hfr := relayAll_fits t2 es1 (SetTable.grown es1.size)
        have hledr := relayAll_led t2 es1 (SetTable.grown es1.size)
        have hplr := fun hp => relayAll_plain (t := t2) (es := es1) (k := SetTable.grown es1.size) hp
        generalize hRl : relayAll t2 es1 (SetTable.grown es1.size) = Rl at hpm hfr hledr hplr ⊢
        obtain ⟨es2, t3, gave2⟩ := Rl
        dsimp only at hpm hfr hledr hplr ⊢
        have hel2 : ElemsOf knd es2.toList := hel1.perm hpm
        have hmem2 : ∀ k', (S k' || decide (k' = k)) = true ↔ ∃ e ∈ es2.toList, knd.is k' e.2 = true := fun k' => (hmem1 k').trans ⟨fun ⟨e, he, q⟩ => ⟨e, hpm.mem_iff.mpr he, q⟩, fun ⟨e, he, q⟩ => ⟨e, hpm.mem_iff.mp he, q⟩⟩
        have hsz : es2.size = es1.size := by rw [← Array.length_toList, hpm.length_eq, Array.length_toList]
        refine wpAny_bind (hg' _ _ _ (wpAny_bind (setx_store g₁ (by rw [hsz]; exact hb1') fun h₂ hs₂ g₂ => wpAny_pure ⟨rfl, ?_⟩)))
        have := h h₂ (hs₁.trans hs₂) ⟨es2, _, t3, g₂, hel2, hmem2, by rw [hsz]; exact hb1', hfr, by rw [hSk, hsz, hsz1]; rfl, hledr.trans hled2, by rw [hSk]; exact hpl2.imp id hplr⟩
        rw [hSk] at this; exact this
      · refine wpAny_pure ⟨rfl, ?_⟩
        have := h h₁ hs₁ ⟨es1, _, t2, g₁, hel1, hmem1, hb1', hf2, by rw [hSk, hsz1]; rfl, hled2, by rw [hSk]; exact hpl2⟩
        rw [hSk] at this; exact this
    have hgw : ∀ (b : Bool) {s₁ : Shared} {Q' : Unit → Shared → Prop}, Q' () s₁ → wpAny (model prog w) A (match b with | true => rule "set.scan.the-table-gave-way" | false => pure ()) Q' E s₁ :=
      fun b s₁ Q' hq => by cases b <;> first | exact wpAny_pure hq | exact wpAny_rule hq
    have last : ∀ {T : Sem (Option Bool)}, wpAny (model prog w) A T (fun r s' => r = some true ∧ Q true s') E s → wpAny (model prog w) A T (fun r s' => wpAny (model prog w) A (match r with | some added => pure added | none => setAddHashedIn a x (knd.hash k) 99999) Q E s') E s :=
      fun ht => wpAny_mono ht (fun r s' ⟨e, hq⟩ => by subst e; exact wpAny_pure hq) fun _ _ e => e
    refine wpAny_bind (hgw _ ?_)
    split
    · rename_i hpt
      refine wpAny_bind ?_
      rw [hashByValue_scannable 8 hsc]
      refine wpAny_pure ?_
      refine last (tail _ ?_ ?_ ?_ _ fun b s₁ Q' hq => by cases b <;> first | exact wpAny_pure hq | exact wpAny_rule hq)
      · split
        · exact hfits
        · exact SetTable.fits_plain_off hfits
      · split <;> exact hled1.trans hled
      · rcases hp with hp | hp | hp
        · right; rw [hp]; rfl
        · rw [hSk] at hp; cases hp
        · left; omega
    · rename_i hpt
      refine wpAny_bind (wpAny_pure ?_)
      simp only [↓reduceIte]
      refine last (tail _ hfits (hled1.trans hled) (.inr (by simpa using hpt)) _ fun b s₁ Q' hq => by cases b <;> first | exact wpAny_pure hq | exact wpAny_rule hq)
end
end Mine
end
section
open PySem PySem.W PyProof.Rows PySem.Calls
set_option maxRecDepth 100000
namespace Mine
-- facts of the iterator's type
theorem setit_next : PySem.Slot "set_iterator" "__next__" "set_iterator.__next__" :=
  .of (owner := "set_iterator") (n := "__next__") (by rw [typeLookup_type, builtinLookup_eq_fast]; kernel_rfl) (by decide +kernel) (by decide +kernel) (by decide +kernel) (by first | exact .inl (by decide +kernel) | exact .inr (by decide +kernel)) (by rw [isSubtype_type]; kernel_rfl)
theorem setit_iter : PySem.Slot "set_iterator" "__iter__" "set_iterator.__iter__" :=
  .of (owner := "set_iterator") (n := "__iter__") (by rw [typeLookup_type, builtinLookup_eq_fast]; kernel_rfl) (by decide +kernel) (by decide +kernel) (by decide +kernel) (by first | exact .inl (by decide +kernel) | exact .inr (by decide +kernel)) (by rw [isSubtype_type]; kernel_rfl)
theorem entry_setit_next : entryFor table "set_iterator.__next__" = some Builtin.«set_iterator.__next__» := entryFor_of_tree (by kernel_rfl)
theorem entry_setit_iter : entryFor table "set_iterator.__iter__" = some Builtin.«dict_keyiterator.__iter__» :=
  entryFor_alias (id' := "dict_keyiterator.__iter__") (by kernel_rfl) (by first | rfl | decide +kernel | (unfold String.splitOn; simp +decide [String.splitOnAux])) (by decide +kernel) (by kernel_rfl)
theorem owner_setit : Manifest.owners.lookup (String.ofList ['r', 'o', 't', 'a', 'r', 'e', 't', 'i', '_', 't', 'e', 's'].reverse) = some Manifest.sig_set_iterator := by kernel_rfl
theorem args_setit_next (a : Value) : argsOk "set_iterator.__next__" ⟨[a], []⟩ := by
  unfold argsOk; rw [signature?_of (id := "set_iterator.__next__") (n := ['_', '_', 't', 'x', 'e', 'n', '_', '_']) (o := ['r', 'o', 't', 'a', 'r', 'e', 't', 'i', '_', 't', 'e', 's']) (by kernel_rfl) owner_setit]; kernel_rfl
theorem args_setit_iter (a : Value) : argsOk "set_iterator.__iter__" ⟨[a], []⟩ := by
  unfold argsOk; rw [signature?_of (id := "set_iterator.__iter__") (n := ['_', '_', 'r', 'e', 't', 'i', '_', '_']) (o := ['r', 'o', 't', 'a', 'r', 'e', 't', 'i', '_', 't', 'e', 's']) (by kernel_rfl) owner_setit]; kernel_rfl
theorem entry_set_iter' : entryFor table "set.__iter__" = some Builtin.«frozenset.__iter__» :=
  entryFor_alias (id' := "frozenset.__iter__") (by kernel_rfl) (by first | rfl | decide +kernel | (unfold String.splitOn; simp +decide [String.splitOnAux])) (by decide +kernel) (by kernel_rfl)
-- orders
theorem perm_erase {α : Type} : ∀ (l : List α) (i : Nat) (h : i < l.length), (l[i] :: l.eraseIdx i).Perm l
  | x :: l, 0, _ => .refl _
  | x :: l, i + 1, h => by
    have h' : i < l.length := by simpa using h
    exact (List.Perm.swap ..).trans (List.Perm.cons x (perm_erase l i h'))
theorem pick_go {α : Type} (next : Nat → Nat) : ∀ (n k : Nat) (left : List α) (out : Array α), left.length = n → (pickOrder.go next n k left out).toList.Perm (out.toList ++ left)
  | 0, k, left, out, h => by
    have : left = [] := List.length_eq_zero_iff.mp h
    subst this; simp [pickOrder.go]
  | n + 1, k, left, out, h => by
    have hlt : next k % left.length < left.length := Nat.mod_lt _ (by omega)
    have hx : left[next k % left.length]? = some left[next k % left.length] := List.getElem?_eq_getElem hlt
    unfold pickOrder.go
    rw [hx]
    dsimp only
    refine (pick_go next n (k + 1) _ _ (by rw [List.length_eraseIdx]; simp [hlt]; omega)).trans ?_
    rw [Array.toList_push, List.append_assoc]
    refine List.Perm.append_left _ ?_
    have : left.Perm (left[next k % left.length] :: left.eraseIdx (next k % left.length)) := (perm_erase _ _ hlt).symm
    exact this.symm
theorem pick_perm {α : Type} (next : Nat → Nat) (xs : Array α) : (pickOrder next xs).toList.Perm xs.toList := by
  have := pick_go next xs.size 0 xs.toList #[] (by simp)
  simpa [pickOrder] using this
section
variable {prog : Program} {w : World} {A : Around} {E : Value → Shared → Prop} {s : Shared}
theorem wpAny_choose {src : Source} {n : Nat} {Q : Nat → Shared → Prop} (hn : n ≠ 0) (h : ∀ i dr, i < n → Q i { s with drawn := dr }) : wpAny (model prog w) A (choose src n) Q E s :=
  fun _ _ _ => ⟨hn, h _ _ (Nat.mod_lt _ (Nat.pos_of_ne_zero hn))⟩
theorem wpAny_drawOrder {α : Type} : ∀ (n : Nat) (xs : List α) (s : Shared) (Q : List α → Shared → Prop), xs.length = n → (∀ l dr, l.Perm xs → Q l { s with drawn := dr }) → wpAny (model prog w) A (drawOrder n xs) Q E s
  | 0, xs, s, Q, h, hq => by
    have : xs = [] := List.length_eq_zero_iff.mp h
    subst this
    unfold drawOrder
    exact wpAny_pure (hq [] s.drawn (.refl _))
  | n + 1, [], s, Q, h, hq => by simp at h
  | n + 1, x :: xs, s, Q, h, hq => by
    unfold drawOrder
    refine wpAny_bind (wpAny_choose (by simp) fun i dr hi => ?_)
    rw [List.getElem?_eq_getElem hi]
    dsimp only
    refine wpAny_bind (wpAny_drawOrder n _ _ _ (by rw [List.length_eraseIdx, if_pos hi, h]; rfl) fun l dr' hl => wpAny_pure (hq _ dr' ?_))
    exact (List.Perm.cons _ hl).trans (perm_erase _ _ hi)
theorem wpAny_byText {Q : Bool → Shared → Prop} (h : Q (byText w) s) : wpAny (model prog w) A setsByText Q E s := by
  unfold setsByText
  exact wpAny_bind (wpAny_askSetting (wpAny_pure h))
theorem newSetX {K : Type} [DecidableEq K] {knd : KeyKind prog w K} {Q : Value → Shared → Prop} (h : SetX knd (s.heap.push { cls := .type "set", data := .set #[] 0 (.fresh 0 0 (!byText w)) }) s.heap.objs.size (fun _ => false) 0 →
    Q (.ref s.heap.objs.size) { s with heap := s.heap.push { cls := .type "set", data := .set #[] 0 (.fresh 0 0 (!byText w)) } }) : wpAny (model prog w) A (newSet (.type "set")) Q E s := by
  unfold newSet
  refine wpAny_bind (wpAny_byText ?_)
  dsimp only
  simp only [newObj]
  exact wpAny_bind (wpAny_alloc (wpAny_pure (h ⟨#[], 0, _, Heap.get?_push_size _ rfl, fun e he => by simp at he, fun k => by simp, by decide, by rfl, rfl, rfl, .inl (Nat.zero_le _)⟩)))
end
end Mine
end
section
open PySem PySem.W PyProof.Rows PySem.Calls
set_option maxRecDepth 100000
namespace Mine
noncomputable abbrev setObj (es : Array (Int × Value)) (ep : Nat) (t : SetTable) : Obj := { cls := .type "set", data := .set es ep t }
noncomputable abbrev setIt (first : Value) (i : Int) (a : Addr) (n ep : Nat) : Obj := { cls := .type "set_iterator", data := .fields #[first, rawInt i, .ref a, rawInt n, rawInt ep] }
section
variable {prog : Program} {w : World} {A : Around} {E : Value → Shared → Prop} {s : Shared} {I a T : Addr} {es : Array (Int × Value)} {ep n : Nat} {t : SetTable}
theorem setNext_text {slot i : Nat} {Q : Option (Value × Nat) → Shared → Prop} (hb : byText w = true) (g : s.heap.get? a = some (setObj es ep t)) (hf : t.fits es.size = true) (h : Q (((pickOrder (w.params.setOrder a ep) es)[i]?).map fun e => (e.2, slot)) s) :
    wpAny (model prog w) A (setNext a slot i ep) Q E s := by
  unfold setNext
  refine wpAny_bind (wpAny_setState_of g rfl hf ?_)
  try dsimp only
  refine wpAny_bind (wpAny_byText ?_)
  rw [hb, if_pos rfl]
  rw [if_neg (by simp)]
  unfold setWalk
  refine wpAny_bind (wpAny_bind (wpAny_setState_of g rfl hf ?_))
  try dsimp only
  refine wpAny_bind (wpAny_byText ?_)
  rw [hb, if_pos rfl]
  exact wpAny_bind (wpAny_askSetting (wpAny_pure (wpAny_pure h)))
theorem setNext_small {slot i : Nat} {Q : Option (Value × Nat) → Shared → Prop} (hb : byText w = false) (g : s.heap.get? a = some (setObj es ep t)) (hf : t.fits es.size = true) (hs : es.size ≤ 1) (hled : t.led = true)
    (h : Q (match es[SetTable.below t.place slot]?, t.place[SetTable.below t.place slot]? with | some (_, x), some j => some (x, j + 1) | _, _ => none) s) :
    wpAny (model prog w) A (setNext a slot i ep) Q E s := by
  unfold setNext
  refine wpAny_bind (wpAny_setState_of g rfl hf ?_)
  try dsimp only
  refine wpAny_bind (wpAny_byText ?_)
  rw [hb, if_neg Bool.false_ne_true]
  split
  · rename_i hd
    exfalso
    have hd : (!t.plain && decide (es.size > 1)) = true := hd
    simp at hd; omega
  · refine wpAny_bind ?_
    show wpAny _ _ (if (!t.led && !es.isEmpty) = true then _ else _) _ _ _
    rw [hled, if_neg (by simp)]
    exact wpAny_pure (wpAny_pure h)
theorem setit_typeIs {first : Value} {i : Int} (hI : s.heap.get? I = some (setIt first i a n ep)) : s.TypeIs (.ref I) "set_iterator" := ⟨_, hI, rfl⟩
theorem setit_item {Q : Option Value → Shared → Prop} {slot i nx : Nat} {x : Value} (hI : s.heap.get? I = some (setIt (rawInt slot) i a n ep)) (g : s.heap.get? a = some (setObj es ep t)) (hf : t.fits es.size = true) (hn : es.size = n)
    (hstep : ∀ (Q' : Option (Value × Nat) → Shared → Prop) (E' : Value → Shared → Prop), Q' (some (x, nx)) s → wpAny (model prog w) A.in1 (setNext a slot i ep) Q' E' s)
    (hQ : ∀ h', h'.get? I = some (setIt (rawInt nx) ((i + 1 : Nat) : Int) a n ep) → Heap.SameBut I s.heap h' → Q (some x) { s with heap := h' }) : wpAny (model prog w) A (pyNext (.ref I)) Q E s := by
  have hT := setit_typeIs hI
  unfold pyNext
  refine wpAny_bind (wpAny_attempt (wpAny_callSpecial?_slot (name := Str.ofString "__next__") hT setit_next (wpAny_call_entry setit_next hT entry_setit_next ?_ (args_setit_next _))))
  unfold Builtin.«set_iterator.__next__»
  refine wpAny_bind (m := slotArgs "__next__" 0 _) (wpAny_pure ?_)
  try dsimp only
  refine wpAny_bind (wpAny_fieldsOf hI rfl ?_)
  try dsimp only [rawInt]
  refine wpAny_bind (wpAny_setEntries_of g rfl hf ?_)
  rw [if_neg (by rw [hn]; simp)]
  try dsimp only
  refine wpAny_bind (hstep _ _ ?_)
  try dsimp only
  refine wpAny_bind (wpAny_setField_rec hI (by simp) fun h₁ hI₁ hs₁ => ?_)
  refine wpAny_bind (wpAny_setField_rec hI₁ (by simp) fun h₂ hI₂ hs₂ => ?_)
  exact wpAny_pure ⟨_, rfl, wpAny_pure (hQ h₂ (by simpa [rawInt, setIt] using hI₂) (hs₁.trans hs₂))⟩
theorem setit_end {Q : Option Value → Shared → Prop} {slot i : Nat} (hh : A.handled = none) (hI : s.heap.get? I = some (setIt (rawInt slot) i a n ep)) (g : s.heap.get? a = some (setObj es ep t)) (hf : t.fits es.size = true) (hn : es.size = n)
    (hstep : ∀ (Q' : Option (Value × Nat) → Shared → Prop) (E' : Value → Shared → Prop), Q' none s → wpAny (model prog w) A.in1 (setNext a slot i ep) Q' E' s)
    (hQ : ∀ h', Heap.ExtBut I s.heap h' → Q none { s with heap := h' }) : wpAny (model prog w) A (pyNext (.ref I)) Q E s := by
  have hT := setit_typeIs hI
  unfold pyNext
  refine wpAny_bind (wpAny_attempt (wpAny_callSpecial?_slot (name := Str.ofString "__next__") hT setit_next (wpAny_call_entry setit_next hT entry_setit_next ?_ (args_setit_next _))))
  unfold Builtin.«set_iterator.__next__»
  refine wpAny_bind (m := slotArgs "__next__" 0 _) (wpAny_pure ?_)
  try dsimp only
  refine wpAny_bind (wpAny_fieldsOf hI rfl ?_)
  try dsimp only [rawInt]
  refine wpAny_bind (wpAny_setEntries_of g rfl hf ?_)
  rw [if_neg (by rw [hn]; simp)]
  try dsimp only
  refine wpAny_bind (hstep _ _ ?_)
  try dsimp only
  refine wpAny_bind (wpAny_setField_rec hI (by simp) fun h₁ hI₁ hs₁ => ?_)
  refine wpAny_bind ?_
  simp only [newExc, newTuple]
  refine wpAny_bind (wpAny_newObj_type ?_ (by size_fits))
  refine wpAny_bind (m := firstArgMember _ _) (wpAny_of_eq (a := Value.none) (by first | rfl | (simp only [firstArgMember]; rfl)) ?_)
  refine wpAny_newObj_type ?_ (by size_fits)
  simp only [raiseNew]
  refine wpAny_bind (wpAny_handled ?_)
  rw [show A.in1.handled = none from hh]
  refine wpAny_bind (wpAny_pure (wpAny_throw ?_))
  refine wpAny_bind (wpAny_isInstance (T := "StopIteration") (b := true) ⟨_, Heap.get?_push_size _ rfl, rfl⟩ isSubtype_stop ?_)
  exact wpAny_pure (hQ _ ((hs₁.extBut.push _).push _))
theorem setit_itemT {Q : Option Value → Shared → Prop} {i k : Nat} {x : Value} {h : Int} {ps : Array Value} {pn : Nat} (hI : s.heap.get? I = some (setIt (.ref T) i a n ep)) (hTp : s.heap.get? T = some { cls := .type "tuple", data := .seq ps pn }) (hp : ps[i]? = some (rawInt k)) (g : s.heap.get? a = some (setObj es ep t)) (hf : t.fits es.size = true) (hn : es.size = n)
    (hx : es[k]? = some (h, x)) (hQ : ∀ h', h'.get? I = some (setIt (.ref T) ((i + 1 : Nat) : Int) a n ep) → Heap.SameBut I s.heap h' → Q (some x) { s with heap := h' }) : wpAny (model prog w) A (pyNext (.ref I)) Q E s := by
  have hT := setit_typeIs hI
  unfold pyNext
  refine wpAny_bind (wpAny_attempt (wpAny_callSpecial?_slot (name := Str.ofString "__next__") hT setit_next (wpAny_call_entry setit_next hT entry_setit_next ?_ (args_setit_next _))))
  unfold Builtin.«set_iterator.__next__»
  refine wpAny_bind (m := slotArgs "__next__" 0 _) (wpAny_pure ?_)
  try dsimp only
  refine wpAny_bind (wpAny_fieldsOf hI rfl ?_)
  try dsimp only [rawInt]
  refine wpAny_bind (wpAny_setEntries_of g rfl hf ?_)
  rw [if_neg (by rw [hn]; simp)]
  try dsimp only
  refine wpAny_bind (wpAny_seqItems hTp rfl ?_)
  try dsimp only
  simp only [Int.toNat_natCast, hp, rawInt]
  unfold setNextDrawn
  refine wpAny_bind (wpAny_bind (wpAny_setState_of g rfl hf ?_))
  try dsimp only
  rw [if_neg (by simp)]
  simp only [hx]
  refine wpAny_pure ?_
  refine wpAny_bind (wpAny_setField_rec hI (by simp) fun h₁ hI₁ hs₁ => ?_)
  exact wpAny_pure ⟨_, rfl, wpAny_pure (hQ h₁ (by simpa [rawInt, setIt] using hI₁) hs₁)⟩
theorem setit_endT {Q : Option Value → Shared → Prop} {i : Nat} {ps : Array Value} {pn : Nat} (hh : A.handled = none) (hI : s.heap.get? I = some (setIt (.ref T) i a n ep)) (hTp : s.heap.get? T = some { cls := .type "tuple", data := .seq ps pn }) (hp : ps[i]? = none) (g : s.heap.get? a = some (setObj es ep t)) (hf : t.fits es.size = true) (hn : es.size = n)
    (hQ : ∀ h', Heap.ExtBut I s.heap h' → Q none { s with heap := h' }) : wpAny (model prog w) A (pyNext (.ref I)) Q E s := by
  have hT := setit_typeIs hI
  unfold pyNext
  refine wpAny_bind (wpAny_attempt (wpAny_callSpecial?_slot (name := Str.ofString "__next__") hT setit_next (wpAny_call_entry setit_next hT entry_setit_next ?_ (args_setit_next _))))
  unfold Builtin.«set_iterator.__next__»
  refine wpAny_bind (m := slotArgs "__next__" 0 _) (wpAny_pure ?_)
  try dsimp only
  refine wpAny_bind (wpAny_fieldsOf hI rfl ?_)
  try dsimp only [rawInt]
  refine wpAny_bind (wpAny_setEntries_of g rfl hf ?_)
  rw [if_neg (by rw [hn]; simp)]
  try dsimp only
  refine wpAny_bind (wpAny_seqItems hTp rfl ?_)
  try dsimp only
  simp only [Int.toNat_natCast, hp]
  refine wpAny_bind (wpAny_setField_rec hI (by simp) fun h₁ hI₁ hs₁ => ?_)
  refine wpAny_bind (wpAny_setField_rec hI₁ (by simp) fun h₂ hI₂ hs₂ => ?_)
  refine wpAny_bind ?_
  simp only [newExc, newTuple]
  refine wpAny_bind (wpAny_newObj_type ?_ (by size_fits))
  refine wpAny_bind (m := firstArgMember _ _) (wpAny_of_eq (a := Value.none) (by first | rfl | (simp only [firstArgMember]; rfl)) ?_)
  refine wpAny_newObj_type ?_ (by size_fits)
  simp only [raiseNew]
  refine wpAny_bind (wpAny_handled ?_)
  rw [show A.in1.handled = none from hh]
  refine wpAny_bind (wpAny_pure (wpAny_throw ?_))
  refine wpAny_bind (wpAny_isInstance (T := "StopIteration") (b := true) ⟨_, Heap.get?_push_size _ rfl, rfl⟩ isSubtype_stop ?_)
  exact wpAny_pure (hQ _ (((hs₁.trans hs₂).extBut.push _).push _))
theorem setit_self {Q : Value → Shared → Prop} {first : Value} {i : Int} (hI : s.heap.get? I = some (setIt first i a n ep)) (h : Q (.ref I) s) : wpAny (model prog w) A (pyIter (.ref I)) Q E s := by
  have hT := setit_typeIs hI
  refine wpAny_pyIter_slot hT setit_iter (wpAny_call_entry setit_iter hT entry_setit_iter ?_ (args_setit_iter _))
  show wpAny _ _ (ret (.ref I)) _ _ s
  exact wpAny_pure ⟨_, rfl, "set_iterator", _, hT, setit_next.lookup, h⟩
end
end Mine
end
section
open PySem PySem.W PyProof.Rows PySem.Calls
set_option maxRecDepth 100000
namespace Mine
section
variable {prog : Program} {w : World} {A : Around} {E : Value → Shared → Prop} {s : Shared} {I a T : Addr} {es : Array (Int × Value)} {ep n : Nat} {t : SetTable}
theorem ItOK.set {h₁ : Heap} {X₀ : Addr → Prop} {t : Expr} (first : Nat → Value) (ro : List (Addr × Obj)) (L : List Value) (hro : ∀ p ∈ ro, ¬ X₀ p.1 ∧ h₁.get? p.1 = some p.2) (hne : ∀ p ∈ ro, p.1 ≠ I)
    (item : ∀ (i : Nat) (x : Value) (s : Shared) (Q : Option Value → Shared → Prop) (E : Value → Shared → Prop), L[i]? = some x → s.heap.get? I = some (setIt (first i) (i : Nat) a n ep) → (∀ p ∈ ro, s.heap.get? p.1 = some p.2) → (∀ h', h'.get? I = some (setIt (first (i + 1)) ((i + 1 : Nat) : Int) a n ep) → Heap.SameBut I s.heap h' → Q (some x) { s with heap := h' }) → wpAny (model prog w) A (pyNext (.ref I)) Q E s)
    (done : ∀ (s : Shared) (Q : Option Value → Shared → Prop) (E : Value → Shared → Prop), s.heap.get? I = some (setIt (first L.length) (L.length : Nat) a n ep) → (∀ p ∈ ro, s.heap.get? p.1 = some p.2) → (∀ h', Heap.ExtBut I s.heap h' → Q none { s with heap := h' }) → wpAny (model prog w) A (pyNext (.ref I)) Q E s) :
    ItOK prog w A h₁ X₀ t I (I :: ro.map (·.1)) [I] (fun i h => h.get? I = some (setIt (first i) (i : Nat) a n ep) ∧ ∀ p ∈ ro, h.get? p.1 = some p.2) (L.map .v) where
  sub := fun b hb => by rw [List.mem_singleton.mp hb]; exact .head _
  own := fun b hb => by
    rcases List.mem_cons.mp hb with e | hb
    · exact .inl (List.mem_singleton.mpr e)
    · obtain ⟨p, hp, rfl⟩ := List.mem_map.mp hb
      exact .inr ⟨(hro p hp).1, _, (hro p hp).2⟩
  live := fun i h st b hb => by rw [List.mem_singleton.mp hb]; exact ⟨_, st.1⟩
  frame := fun i h h' st k => ⟨k I (.head _) _ st.1, fun p hp => k p.1 (.tail _ (List.mem_map.mpr ⟨p, hp, rfl⟩)) _ (st.2 p hp)⟩
  item := fun i r s X Q E hr st hk hX q => by
    rw [List.getElem?_map, Option.map_eq_some_iff] at hr
    obtain ⟨x, hx, rfl⟩ := hr
    refine item i x s _ E hx st.1 st.2 fun h' hI' hs' => ⟨x, rfl, ?_⟩
    exact letGo_plain hI' rfl (by decide) (q x h' s.toks rfl ⟨hI', fun p hp => (hs'.2 p.1 (hne p hp)).trans (st.2 p hp)⟩ fun b o hb e => (hs'.2 b fun z => hb (List.mem_singleton.mpr z)).trans e)
  done := fun s Q E st q => by
    rw [List.length_map] at st
    exact done s Q E st.1 st.2 fun h' he => q h' s.toks fun b o hb e => he b o (fun z => hb (List.mem_singleton.mpr z)) e
  self := fun i s Q E st q => setit_self st.1 q
theorem below_one {p : Nat} : SetTable.below #[p] 0 = 0 ∧ SetTable.below #[p] (p + 1) = 1 := by
  constructor
  · simp [SetTable.below, SetTable.below.go]
  · simp [SetTable.below, SetTable.below.go]
theorem pyIter_setX {K : Type} [DecidableEq K] {knd : KeyKind prog w K} {S : K → Bool} {X : Addr → Prop} {tg : Expr} {Q : Value → Shared → Prop} (x : SetX knd s.heap a S n) (nx : ¬ X a) (hX : ∀ b, X b → ∃ o, s.heap.get? b = some o) (hh : A.handled = none)
    (q : ∀ h' dr' I fp wr St (L : List Value), (dr' = s.drawn ∨ 1 < n) → (∀ v ∈ L, ∃ k, knd.is k v = true ∧ S k = true) → (∀ k, S k = true → ∃ v ∈ L, knd.is k v = true) → L.length = n → Ext s.heap h' → ItOK prog w A h' X tg I fp wr St (L.map .v) → St 0 h' → (∀ b ∈ wr, s.heap.get? b = none ∧ ∃ o, h'.get? b = some o) → Q (.ref I) { s with heap := h', drawn := dr' }) :
    wpAny (model prog w) A (pyIter (.ref a)) Q E s := by
  obtain ⟨es, ep, t, g, hel, hmem, hb, hf, hn, hled, hpl⟩ := x
  have hTa : s.TypeIs (.ref a) "set" := ⟨_, g, rfl⟩
  have hlt := Heap.lt_size g
  -- what an order of the entries gives
  have elems : ∀ (L : List (Int × Value)), L.Perm es.toList → (∀ v ∈ L.map (·.2), ∃ k, knd.is k v = true ∧ S k = true) ∧ (∀ k, S k = true → ∃ v ∈ L.map (·.2), knd.is k v = true) ∧ (L.map (·.2)).length = n := fun L hL => by
    refine ⟨fun v hv => ?_, fun k hk => ?_, by rw [List.length_map, hL.length_eq, Array.length_toList, hn]⟩
    · obtain ⟨e, he, rfl⟩ := List.mem_map.mp hv
      have he := hL.mem_iff.mp he
      obtain ⟨⟨k, hk, _⟩, _⟩ := hel e he
      exact ⟨k, hk, (hmem k).mpr ⟨e, he, hk⟩⟩
    · obtain ⟨e, he, hk⟩ := (hmem k).mp hk
      exact ⟨e.2, List.mem_map.mpr ⟨e, hL.mem_iff.mpr he, rfl⟩, hk⟩
  refine wpAny_pyIter_slot hTa F.slot_set_iter (wpAny_call_entry F.slot_set_iter hTa entry_set_iter' ?_ (F.args_set_iter_1 _))
  unfold Builtin.«frozenset.__iter__»
  refine wpAny_bind (m := Builtin.Frozenset.slot0 "__iter__" _) (wpAny_pure ?_)
  refine wpAny_bind (m := Builtin.Frozenset.sizeOf a) (wpAny_bind (wpAny_setEntries_of g rfl hf (wpAny_pure ?_)))
  try dsimp only
  -- the iterator is made
  have fin : ∀ (first : Nat → Value) (s₁ : Shared) (ro : List (Addr × Obj)) (L : List (Int × Value)), Ext s.heap s₁.heap → s₁ = { s with heap := s₁.heap, drawn := s₁.drawn } → (s₁.drawn = s.drawn ∨ 1 < n) → L.Perm es.toList → (∀ p ∈ ro, ¬ X p.1 ∧ s₁.heap.get? p.1 = some p.2) → (a, setObj es ep t) ∈ ro →
      (∀ (I : Addr) (i : Nat) (x : Value) (s : Shared) (Q : Option Value → Shared → Prop) (E : Value → Shared → Prop), (L.map (·.2))[i]? = some x → s.heap.get? I = some (setIt (first i) (i : Nat) a n ep) → (∀ p ∈ ro, s.heap.get? p.1 = some p.2) → (∀ h', h'.get? I = some (setIt (first (i + 1)) ((i + 1 : Nat) : Int) a n ep) → Heap.SameBut I s.heap h' → Q (some x) { s with heap := h' }) → wpAny (model prog w) A (pyNext (.ref I)) Q E s) →
      (∀ (I : Addr) (s : Shared) (Q : Option Value → Shared → Prop) (E : Value → Shared → Prop), s.heap.get? I = some (setIt (first (L.map (·.2)).length) ((L.map (·.2)).length : Nat) a n ep) → (∀ p ∈ ro, s.heap.get? p.1 = some p.2) → (∀ h', Heap.ExtBut I s.heap h' → Q none { s with heap := h' }) → wpAny (model prog w) A (pyNext (.ref I)) Q E s) →
      ∀ E', wpAny (model prog w) A.in1 (do ret (← newFields "set_iterator" [first 0, rawInt 0, .ref a, rawInt (es.size : Nat), rawInt (← setEpoch a)])) (fun fin s' => ∃ r, fin = .done (.ret r) ∧ ∃ (T' : String) (id : Value), s'.TypeIs r T' ∧ typeLookup (.type T') "__next__" = pure (some id) ∧ Q r s') E' s₁ := by
    intro first s₁ ro L k₁ hs₁ hdr hL hro ha item done E'
    have ga := (hro _ ha).2
    refine wpAny_bind (wpAny_setEpoch_of ga rfl hf ?_)
    unfold newFields
    refine wpAny_bind (wpAny_newObj_type ?_)
    have gI : (s₁.heap.push { cls := .type "set_iterator", dict := none, data := .fields [first 0, rawInt 0, .ref a, rawInt (es.size : Nat), rawInt (ep : Nat)].toArray }).get? s₁.heap.objs.size = some (setIt (first 0) ((0 : Nat) : Int) a n ep) := by
      rw [← hn]; exact Heap.get?_push_size _ rfl
    have k₂ := k₁.pushR { cls := .type "set_iterator", dict := none, data := .fields [first 0, rawInt 0, .ref a, rawInt (es.size : Nat), rawInt (ep : Nat)].toArray }
    obtain ⟨e1, e2, e3⟩ := elems L hL
    refine wpAny_pure ⟨_, rfl, "set_iterator", _, ⟨_, gI, rfl⟩, setit_next.lookup, ?_⟩
    have hro' : ∀ p ∈ ro, ¬ X p.1 ∧ (s₁.heap.push { cls := .type "set_iterator", dict := none, data := .fields [first 0, rawInt 0, .ref a, rawInt (es.size : Nat), rawInt (ep : Nat)].toArray }).get? p.1 = some p.2 := fun p hp => ⟨(hro p hp).1, Heap.get?_push_of_some _ (hro p hp).2⟩
    have := q _ s₁.drawn s₁.heap.objs.size _ _ _ (L.map (·.2)) hdr e1 e2 e3 k₂ (ItOK.set first ro (L.map (·.2)) hro' (fun p hp => Nat.ne_of_lt (Heap.lt_size (hro p hp).2)) (item _) (done _)) ⟨gI, fun p hp => (hro' p hp).2⟩ fun b hb => by
      rw [List.mem_singleton.mp hb]
      refine ⟨?_, _, gI⟩
      cases g' : s.heap.get? s₁.heap.objs.size with
      | none => rfl
      | some o => exact absurd (Heap.lt_size (k₁ _ _ g')) (Nat.lt_irrefl _)
    rw [hs₁]
    exact this
  refine wpAny_bind (wpAny_bind ?_)
  refine wpAny_setState_of g rfl hf ?_
  try dsimp only
  refine wpAny_bind (wpAny_byText ?_)
  have hlen : ∀ (L : List (Int × Value)), L.Perm es.toList → (L.map (·.2)).length = n := fun L hL => (elems L hL).2.2
  have self : s = { s with heap := s.heap, drawn := s.drawn } := rfl
  have hro1 : ∀ p ∈ [(a, setObj es ep t)], ¬ X p.1 ∧ s.heap.get? p.1 = some p.2 := fun p hp => by rw [List.mem_singleton.mp hp]; exact ⟨nx, g⟩
  cases hbt : byText w with
  | true =>
    refine wpAny_pure ?_
    show wpAny _ _ (if (!true && (!t.plain && decide (es.size > 1))) = true then _ else _) _ _ _
    rw [Bool.not_true, Bool.false_and, if_neg Bool.false_ne_true]
    refine wpAny_bind (wpAny_pure ?_)
    have hL := pick_perm (w.params.setOrder a ep) es
    refine fin (fun _ => rawInt ((0 : Nat) : Int)) s [(a, setObj es ep t)] (pickOrder (w.params.setOrder a ep) es).toList (Ext.refl _) self (.inl rfl) hL hro1 (.head _) (fun I i x s' Q' E' hx hI hr hq => ?_) (fun I s' Q' E' hI hr hq => ?_) _
    · refine setit_item hI (hr _ (.head _)) hf hn (fun Q'' E'' h'' => setNext_text hbt (hr _ (.head _)) hf ?_) hq
      rw [List.getElem?_map, Array.getElem?_toList, Option.map_eq_some_iff] at hx
      obtain ⟨e, he, rfl⟩ := hx
      rw [he]; exact h''
    · refine setit_end hh hI (hr _ (.head _)) hf hn (fun Q'' E'' h'' => setNext_text hbt (hr _ (.head _)) hf ?_) hq
      have : (pickOrder (w.params.setOrder a ep) es)[((pickOrder (w.params.setOrder a ep) es).toList.map (·.2)).length]? = none := Array.getElem?_eq_none (by simp)
      rw [this]; exact h''
  | false =>
    by_cases hs : es.size ≤ 1
    · have hdn : (!t.plain && decide (es.size > 1)) = false := by
        have : decide (es.size > 1) = false := decide_eq_false (by omega)
        rw [this, Bool.and_false]
      refine wpAny_pure ?_
      show wpAny _ _ (if (!false && (!t.plain && decide (es.size > 1))) = true then _ else _) _ _ _
      rw [hdn, Bool.and_false, if_neg Bool.false_ne_true]
      refine wpAny_bind (wpAny_pure ?_)
      have hled' : t.led = true := by rw [hled, hbt]; rfl
      have hpl2 : t.place.size = es.size := by
        simp only [SetTable.fits, Bool.and_eq_true, beq_iff_eq] at hf; exact hf.1
      refine fin (fun i => rawInt (((if i = 0 then 0 else t.place.getD 0 0 + 1 : Nat) : Nat) : Int)) s [(a, setObj es ep t)] es.toList (Ext.refl _) self (.inl rfl) (.refl _) hro1 (.head _) (fun I i x s' Q' E' hx hI hr hq => ?_) (fun I s' Q' E' hI hr hq => ?_) _
      · rw [List.getElem?_map, Array.getElem?_toList, Option.map_eq_some_iff] at hx
        obtain ⟨e, he, rfl⟩ := hx
        have hi := (Array.getElem?_eq_some_iff.mp he).1
        obtain rfl : i = 0 := by omega
        obtain ⟨p, hp⟩ : ∃ p, t.place = #[p] := Array.size_eq_one_iff.mp (by omega)
        refine setit_item (nx := p + 1) hI (hr _ (.head _)) hf hn (fun Q'' E'' h'' => setNext_small hbt (hr _ (.head _)) hf hs hled' ?_) fun h' hI' hs' => hq h' ?_ hs'
        · rw [hp, if_pos rfl, below_one.1, he]; exact h''
        · rw [hp]; exact hI'
      · refine setit_end hh hI (hr _ (.head _)) hf hn (fun Q'' E'' h'' => setNext_small hbt (hr _ (.head _)) hf hs hled' ?_) hq
        have hz : es.size = 0 ∨ es.size = 1 := by omega
        rcases hz with hz | hz
        · have : es = #[] := Array.size_eq_zero_iff.mp hz
          subst this
          simpa using h''
        · obtain ⟨p, hp⟩ : ∃ p, t.place = #[p] := Array.size_eq_one_iff.mp (by omega)
          have e1 : (es.toList.map (·.2)).length = 1 := by simp [hz]
          rw [e1, hp]
          show Q'' (match es[SetTable.below #[p] (p + 1)]?, _ with | some (_, x), some j => some (x, j + 1) | _, _ => none) _
          rw [below_one.2, Array.getElem?_eq_none (by omega)]
          exact h''
    · have hp : t.plain = false := hpl.resolve_left (by omega)
      have hdn : (!t.plain && decide (es.size > 1)) = true := by
        rw [hp, decide_eq_true (by omega)]; rfl
      refine wpAny_pure ?_
      show wpAny _ _ (if (!false && (!t.plain && decide (es.size > 1))) = true then _ else _) _ _ _
      rw [hdn, Bool.not_false, Bool.and_true, if_pos rfl]
      refine wpAny_bind (wpAny_drawOrder _ _ _ _ (by simp) fun p dr hperm => ?_)
      refine wpAny_bind (wpAny_newTuple ?_ ?_)
      rotate_left
      · exact (by rw [List.length_map, hperm.length_eq, List.length_range]; exact fits_of_scanBound hb)
      have hpm : ∀ j ∈ p, j < es.size := fun j hj => List.mem_range.mp (hperm.mem_iff.mp hj)
      have hL : (p.filterMap fun j => es[j]?).Perm es.toList := (hperm.filterMap _).trans (by rw [filterMap_getElem?_range])
      have hget : ∀ (q : List Nat), (∀ j ∈ q, j < es.size) → ∀ (i : Nat), (q.filterMap fun j => es[j]?)[i]? = (q[i]?).bind fun j => es[j]? := by
        intro q
        induction q with
        | nil => intro _ i; simp
        | cons j q ih =>
          intro hq i
          have hj := hq j (.head _)
          rw [List.filterMap_cons_some (b := es[j]) (by rw [Array.getElem?_eq_getElem hj])]
          cases i with
          | zero => simp [hj]
          | succ i => simpa using ih (fun k hk => hq k (.tail _ hk)) i
      have gT : (s.heap.push { cls := .type "tuple", data := .seq (p.map fun (i : Nat) => rawInt i).toArray }).get? s.heap.objs.size = some { cls := .type "tuple", data := .seq (p.map fun (i : Nat) => rawInt i).toArray } := Heap.get?_push_size _ rfl
      have nT : ¬ X s.heap.objs.size := fun hx => by obtain ⟨o, e⟩ := hX _ hx; exact Nat.lt_irrefl _ (Heap.lt_size e)
      refine fin (fun _ => .ref s.heap.objs.size) { s with heap := s.heap.push { cls := .type "tuple", data := .seq (p.map fun (i : Nat) => rawInt i).toArray }, drawn := dr } [(a, setObj es ep t), (s.heap.objs.size, { cls := .type "tuple", data := .seq (p.map fun (i : Nat) => rawInt i).toArray })] _ (Ext.push _ _) rfl (.inr (by omega)) hL (fun q hq => ?_) (.head _) (fun I i x s' Q' E' hx hI hr hq => ?_) (fun I s' Q' E' hI hr hq => ?_) _
      · rcases List.mem_cons.mp hq with e | hq
        · subst e; exact ⟨nx, Heap.get?_push_of_some _ g⟩
        · rw [List.mem_singleton.mp hq]; exact ⟨nT, gT⟩
      · rw [List.getElem?_map, Option.map_eq_some_iff] at hx
        obtain ⟨⟨hh', x'⟩, he, rfl⟩ := hx
        rw [hget p hpm, Option.bind_eq_some_iff] at he
        obtain ⟨k, hk, he⟩ := he
        refine setit_itemT hI (hr _ (.tail _ (.head _))) (k := k) (h := hh') ?_ (hr _ (.head _)) hf hn he hq
        simp [hk]
      · refine setit_endT hh hI (hr _ (.tail _ (.head _))) ?_ (hr _ (.head _)) hf hn hq
        have e1 := hlen _ hL
        refine Array.getElem?_eq_none ?_
        rw [e1, List.size_toArray, List.length_map, hperm.length_eq, List.length_range]; omega
end
end Mine
end
section
open PySem PySem.W PyProof.Rows PySem.Calls
set_option maxRecDepth 100000
namespace Mine
section
variable {prog : Program} {w : World} {A : Around} {E : Value → Shared → Prop} {s : Shared}
theorem pyHash_true {Q : Int → Shared → Prop} (h : Q 1 { s with toks := s.toks + 1 }) : wpAny (model prog w) A (pyHash (.bool true)) Q E s := by
  have hT : s.TypeIs (.bool true) "bool" := rfl
  unfold pyHash
  have hv : [Value.bool true].any Value.onHeap = false := rfl
  refine wpAny_bind ?_
  rw [cRoomFor, if_neg (by rw [hv]; exact Bool.false_ne_true)]; refine wpAny_pure ?_
  refine wpAny_bind (wpAny_specialOf hT F.slot_bool_hash.lookup ?_)
  show wpAny _ _ (if (some (Value.builtin "int.__hash__") == some Value.none) = true then _ else _) Q E s
  rw [if_neg (by rw [beq_builtin_none]; exact Bool.false_ne_true)]
  refine wpAny_bind (wpAny_specialOf hT F.slot_bool_hash.lookup ?_)
  show wpAny _ _ (callSpecialIfBoundUnlessNone? (.bool true) "__hash__" _ >>= _) Q E s
  refine wpAny_bind (wpAny_callSpecialIfBoundUnlessNone?_slot hT F.slot_bool_hash
    (wpAny_call_entry F.slot_bool_hash hT entry_int_hash (show wpAny _ _ (do ret (← mkInt (rawHash 1))) _ _ s from wpAny_ret_mkInt ?_) (args_int_hash _)))
  have e : rawHash 1 = 1 := by decide +kernel
  rw [e]
  show wpAny _ _ (if (decide (-(2 : Int) ^ 63 ≤ 1) && decide ((1 : Int) < 2 ^ 63)) = true then _ else _) Q E _
  rw [if_pos (by decide)]
  exact wpAny_pure h
theorem eqBool_true {Q : Bool → Shared → Prop} (h : Q true s) : wpAny (model prog w) A (eqBool (.bool true) (.bool true)) Q E s := by
  unfold eqBool
  refine wpAny_holding ?_
  rw [if_pos (show (Value.bool true == Value.bool true) = true from rfl)]
  exact wpAny_bind (wpAny_rule (wpAny_pure h))
end
noncomputable def isTrueV : Value → Bool
  | .bool true => true
  | _ => false
theorem isTrueV_shape {v : Value} (h : isTrueV v = true) : v = .bool true := by
  unfold isTrueV at h
  split at h
  · rfl
  · cases h
noncomputable def trueKind (prog : Program) (w : World) : KeyKind prog w Unit where
  is := fun _ => isTrueV
  hash := fun _ => 1
  inj := fun _ _ _ _ _ => rfl
  byValue := fun _ v h => by rw [isTrueV_shape h]; rfl
  pyHash := fun hv h => by rw [isTrueV_shape hv]; exact pyHash_true h
  eqBool := fun hu hv h => by rw [isTrueV_shape hu, isTrueV_shape hv]; exact eqBool_true (by simpa using h)
  «strs» := fun _ _ _ _ h => by simp [isTrueV] at h
-- a set's comprehension
theorem compTurn_set (elt target iter : Expr) (ifs : List Expr) (scope : Scope) (pos : Pos) (it acc : Value) (env : Env) :
    compTurn (.SetComp elt [⟨target, iter, ifs, 0⟩] scope pos) 0 it acc env = (do
      standAt iter.pos
      match ← pyNext it with
      | none => pure (.done .next)
      | some v =>
        letOwnedTupleGo target it v
        assign target env v
        let mut ok := true
        for c in ifs do
          if ok then ok ← isTrue c env (eval c env)
        if ok then
          (do let v ← eval elt env; standAt elt.pos; let _ ← call (.builtin "set.add") [acc, v])
        again (.compLoop (.SetComp elt [⟨target, iter, ifs, 0⟩] scope pos) 0 it acc env)) := by rfl
section
variable {prog : Program} {w : World} {A : Around} {E : Value → Shared → Prop} {R : Result → Shared → Prop} {s : Shared}
theorem setcomp_loop {elt target iter : Expr} {ifs : List Expr} {scope : Scope} {pos : Pos} {it acc : Value} {env : Env} (I : Nat → Shared → Prop)
    (turn : ∀ n s, I n s → wpAny (model prog w) A (pyNext it) (fun r s₁ => match r with
      | none => R (.ok .next) s₁
      | some v => wpAny (model prog w) A (assign target env v) (fun _ s₂ =>
          wpAny (model prog w) A (forIn ifs true fun c r => if r = true then do let ok ← isTrue c env (eval c env); pure (ForInStep.yield ok) else pure (ForInStep.yield r)) (fun ok s₃ =>
            if ok = true then wpAny (model prog w) A (eval elt env) (fun x s₄ =>
              wpAny (model prog w) A (call (.builtin "set.add") [acc, x]) (fun _ s₅ => ∃ m, m < n ∧ I m s₅) (notedBy (model prog w) A env fun e s' => R (.error e) s') s₄) (notedBy (model prog w) A env fun e s' => R (.error e) s') s₃
            else ∃ m, m < n ∧ I m s₃) (notedBy (model prog w) A env fun e s' => R (.error e) s') s₂) (notedBy (model prog w) A env fun e s' => R (.error e) s') s₁) (notedBy (model prog w) A env fun e s' => R (.error e) s') s)
    (n : Nat) (h : I n s) (ht : ∀ v, letOwnedTupleGo target it v = pure () := by intro _; rfl) :
    codeAny (model prog w) A (.compLoop (.SetComp elt [⟨target, iter, ifs, 0⟩] scope pos) 0 it acc env) R s := by
  refine codeAny_loop rfl I (fun n s hI => ?_) n h
  show wpAny _ A ((compTurn (.SetComp elt [⟨target, iter, ifs, 0⟩] scope pos) 0 it acc env).onRaise (fun x => do noteFrame x env; theTreesLotGoes x)) _ _ s
  refine wpAny_noted ?_
  rw [compTurn_set]
  refine wpAny_bind (wpAny_standAt (wpAny_bind (wpAny_mono (turn n s hI) (fun r s₁ h₁ => ?_) fun _ _ h' => h')))
  cases r with
  | none => exact wpAny_pure h₁
  | some v =>
    refine wpAny_bind (wpAny_of_eq (ht v) ?_)
    refine wpAny_bind (wpAny_mono h₁ (fun _ s₂ h₂ => wpAny_bind (wpAny_mono h₂ (fun ok s₃ h₃ => ?_) fun _ _ h' => h')) fun _ _ h' => h')
    cases ok with
    | false => exact wpAny_pure ⟨rfl, h₃⟩
    | true =>
      refine wpAny_bind (wpAny_bind (wpAny_mono h₃ (fun x s₄ h₄ => wpAny_bind (wpAny_standAt (wpAny_bind (wpAny_mono h₄ (fun _ s₅ h₅ => wpAny_pure ?_) fun _ _ h' => h')))) fun _ _ h' => h'))
      exact wpAny_pure ⟨rfl, h₅⟩
theorem setcomp_start {elt target iter : Expr} {ifs : List Expr} {scope : Scope} {pos : Pos} {it acc : Value} {env : Env}
    (h0 : codeAny (model prog w) A (.compLoop (.SetComp elt [⟨target, iter, ifs, 0⟩] scope pos) 0 it acc env) R s)
    (h : wpAny (model prog w) A (pyIter it) (fun it' s' => codeAny (model prog w) A (.compLoop (.SetComp elt [⟨target, iter, ifs, 0⟩] scope pos) 0 it' acc env) R s') (notedBy (model prog w) A env fun x s' => R (.error x) s') s) :
    codeAny (model prog w) A (.compStart (.SetComp elt [⟨target, iter, ifs, 0⟩] scope pos) 0 it acc env) R s := by
  refine codeAny_of_tree ?_
  show wpAny _ _ ((compStart (.SetComp elt [⟨target, iter, ifs, 0⟩] scope pos) 0 it acc env).onRaise (fun x => do noteFrame x env; standAt theWindowsPlace)) _ _ s
  refine wpAny_notedAt ?_
  unfold compStart
  show wpAny _ _ (ask >>= _) _ _ s
  refine wpAny_bind (wpAny_askSetting (wpAny_ite ?_))
  split
  · first
      | exact wpAny_bind (wpAny_pure (wpAny_pure (And.intro rfl h0)))
      | exact wpAny_pure (And.intro rfl h0)
  · first
      | exact wpAny_bind (wpAny_rule (wpAny_bind (wpAny_standAt (wpAny_bind (wpAny_mono h (fun it' s' h' => wpAny_pure (And.intro rfl h')) fun _ _ x => x)))))
      | (refine wpAny_bind (wpAny_rule ?_); show wpAny _ _ (standAt iter.pos >>= _) _ _ s; exact wpAny_bind (wpAny_standAt (wpAny_bind (wpAny_mono h (fun it' s' h' => wpAny_pure (And.intro rfl h')) fun _ _ x => x))))
end
section
variable {prog : Program} {w : World} {K : Type} [DecidableEq K] {knd : KeyKind prog w K} {A : Around} {E : Value → Shared → Prop} {s : Shared} {a : Addr} {S : K → Bool} {n : Nat}
theorem SetX.typeIs (x : SetX knd s.heap a S n) : s.TypeIs (.ref a) "set" := let ⟨_, _, _, g, _⟩ := x; ⟨_, g, rfl⟩
theorem call_set_addX {k : K} {key : Value} {Q : Value → Shared → Prop} (hkey : knd.is k key = true) (hsc : key.scannable = true) (hS : SetX knd s.heap a S n) (hroom : n + 1 < scanBound) (hp : plainKind key = false ∨ S k = true ∨ n = 0)
    (h : ∀ h', Heap.SameBut a s.heap h' → SetX knd h' a (fun k' => S k' || decide (k' = k)) (if S k then n else n + 1) → Q .none { s with heap := h', toks := s.toks + 1 }) :
    wpAny (model prog w) A (call (.builtin "set.add") [.ref a, key]) Q E s := by
  refine wpAny_call_entry F.slot_set_add hS.typeIs F.entry_set_add ?_ (F.args_set_add_2 _ _)
  unfold Builtin.«set.add» Builtin.Frozenset.oneOther
  simp only [List.isEmpty_nil, bind_assoc]
  unfold Builtin.Frozenset.addrOf setAdd
  refine wpAny_bind (wpAny_pure ?_)
  try dsimp only
  refine wpAny_bind (wpAny_pure ?_)
  try dsimp only
  refine wpAny_bind ?_
  refine wpAny_holding ?_
  refine wpAny_bind (knd.pyHash hkey ?_)
  refine setx_add (s := { s with toks := s.toks + 1 }) hkey hsc hS hroom hp fun h' hsb hS' => ?_
  show wpAny _ _ (ret Value.none) _ _ _
  exact wpAny_pure ⟨_, rfl, h h' hsb hS'⟩
end
noncomputable def oneTrue (prog : Program) (w : World) : Heap → (Addr → Prop) → Value → Prop := fun h X u => ∃ a, u = .ref a ∧ ¬ X a ∧ SetX (trueKind prog w) h a (fun _ => true) 1
theorem oneTrue_stab {prog : Program} {w : World} : Stab (oneTrue prog w) := fun h h' X Y u k ⟨a, e, nx, x⟩ => by
  obtain ⟨es, ep, t, g, r⟩ := x
  exact ⟨a, e, (k _ _ nx g).2, es, ep, t, (k _ _ nx g).1, r⟩
section
variable {prog : Program} {w : World} {B : Heap} {n : Nat} {env : Env} {nu nuC : List (Str × Res)} {elt iter : Expr} {x : Str} {px : Pos} {ifs : List Expr} {scope : Scope} {pos : Pos}
theorem acc_set {A : Around} {N : Nat} (hN : N ≤ 1000) : AccOk prog w A (.SetComp elt [⟨.Name x px, iter, ifs, 0⟩] scope pos) x px ifs elt (newSet (.type "set")) { cls := .type "set", data := .set #[] 0 (.fresh 0 0 (!byText w)) } (fun D y => call (.builtin "set.add") [D, y])
    (fun h _ D rs => SetX (trueKind prog w) h D (fun _ => !rs.isEmpty) (if rs.isEmpty then 0 else 1)) (fun r => r = .d (.bool true)) N where
  new := fun s Q E h => newSetX (knd := trueKind prog w) fun _ => h
  fits := fun h => Heap.get?_push_size _ rfl
  start := setcomp_start
  loop := fun I turn n s h => setcomp_loop I turn n h
  nil := fun h X D g => ⟨#[], 0, _, g, fun e he => by simp at he, fun k => by simp, by decide, by rfl, rfl, rfl, .inl (Nat.zero_le _)⟩
  up := fun h h' X Y D rs j k _ => j.at k
  live := fun h X D rs j => j.live
  add := fun s X D rs r y Q E j hl hG hX hy q => by
    subst hG
    cases hy
    refine call_set_addX (k := ()) (knd := trueKind prog w) rfl rfl j ?_ ?_ fun h' hs hS => q _ h' _ hs ?_
    · have : (if rs.isEmpty then 0 else 1) ≤ 1 := by split <;> omega
      have h2 : scanBound = 4096 := rfl
      omega
    · cases hr : rs.isEmpty
      · right; left; rfl
      · right; right; rfl
    · have e1 : (rs ++ [Res.d (.bool true)]).isEmpty = false := by cases rs <;> rfl
      rw [e1]
      cases hr : rs.isEmpty <;> (rw [hr] at hS; simpa using hS)
theorem EV.setcompTrue {α : Type} {L₀ : List α} {ρ : α → Res} (it : IT prog w B n env nu (.Name x px) iter (L₀.map ρ)) (C : CompOk env nu nuC scope x) (hne : L₀ ≠ [])
    (body : ∀ r ∈ L₀, ∀ cs L, EV prog w B n (compEnvC scope cs L env) ((x, ρ r) :: nuC) elt (.d (.bool true)))
    (hsz : L₀.length ≤ 1000) (hs : ∀ x, foldedSetIterable iter env x = pure x := by intro _; rfl) :
    EV prog w B n env nu (.SetComp elt [⟨.Name x px, iter, [], 0⟩] scope pos) (.hp (oneTrue prog w)) := by
  refine ⟨fun A s X Q E R O N q => ?_⟩
  rw [arm_eval_SetComp]
  refine (comp_gen (E := E) (f := fun _ => some (.d (.bool true))) (ifs := []) (RR := fun acc L => compPost (model prog w) A E none Q acc L) it C (fun r hr cs L => ⟨rfl, fun d hd => by cases hd; exact body r hr cs L⟩) (acc_set (pos := pos) (iter := iter) (scope := scope) hsz) (fun _ _ d hd => by cases hd; rfl) R O N fun D L h' tk' m k nD nL hDL lD hns hJ => ?_).elim fun cl hm => ?_
  rotate_left
  · obtain ⟨hcl, main⟩ := hm
    exact wpAny_comprehension_free (use := none) rfl hs hcl C.kind (fun z hz hl => lookup_of_mem C.nodup (by rw [← hl]; exact hz)) main
  · refine ⟨m, hns, fun h'' hs'' => ?_⟩
    have nL' : ∀ b o, s.heap.get? b = some o → b ≠ L := fun b o e z => by subst z; rw [nL] at e; cases e
    have e1 : (L₀.filterMap fun _ => some (Res.d (.bool true))).isEmpty = false := by
      cases L₀ with
      | nil => exact absurd rfl hne
      | cons a l => rfl
    rw [e1] at hJ
    refine q (.ref D) h'' tk' (fun b o e => (hs''.2 b (nL' b o e)).trans (k b o e)) ⟨oneTrue_stab, D, rfl, (fun z => by obtain ⟨o, e⟩ := O.live D z; rw [nD] at e; cases e), ?_⟩
    exact SetX.at hJ fun o e => (hs''.2 D hDL).trans e
end
end Mine
end
section
open PySem PySem.W PyProof.Rows PySem.Calls
set_option maxRecDepth 100000
namespace Mine
section
variable {prog : Program} {w : World} {A : Around} {E : Value → Shared → Prop} {s : Shared}
theorem unpack_oneTrue {a : Addr} {Q : List Value → Shared → Prop} (hh : A.handled = none) (hX : SetX (trueKind prog w) s.heap a (fun _ => true) 1) (q : ∀ h' tk', Ext s.heap h' → Q [.bool true] { s with heap := h', toks := tk' }) :
    wpAny (model prog w) A (unpackItems (.ref a) 1 none) Q E s := by
  unfold unpackItems
  refine wpAny_bind ?_
  unfold notIterableAtAll
  refine wpAny_bind (wpAny_specialOf hX.typeIs F.slot_set_iter.lookup ?_)
  refine wpAny_pure ?_
  simp only [Bool.false_eq_true, if_false]
  refine wpAny_bind (wpAny_holding (pyIter_setX (X := fun _ => False) (tg := .Name "" ⟨0, 0, 0, 0⟩) hX (fun z => z) (fun _ z => z.elim) hh fun h₁ dr I fp wr St L hdr e1 e2 e3 k₁ ok hS fresh => ?_))
  obtain rfl : dr = s.drawn := hdr.elim id fun h => absurd h (by decide)
  obtain ⟨v, rfl⟩ := List.length_eq_one_iff.mp e3
  obtain ⟨k, hk, _⟩ := e1 v (.head _)
  have hv := isTrueV_shape hk
  subst hv
  have keepS : ∀ {h₂ : Heap}, (∀ b o, b ∉ wr → h₁.get? b = some o → h₂.get? b = some o) → Ext s.heap h₂ := fun kk b o e => kk b o (fun hb => by rw [(fresh b hb).1] at e; cases e) (k₁ b o e)
  -- the first
  have one : ∀ (Q' : List Value → Shared → Prop) (E' : Value → Shared → Prop), (∀ h₂ tk₂, (∀ b o, b ∉ wr → h₁.get? b = some o → h₂.get? b = some o) → St 1 h₂ → Q' [.bool true] { s with heap := h₂, toks := tk₂ }) → wpAny (model prog w) A (draw (.ref I) 1) Q' E' { s with heap := h₁ } := by
    intro Q' E' hq
    show wpAny _ _ (pyNext (.ref I) >>= _) Q' E' _
    refine wpAny_bind (wpAny_mono (ok.item 0 (.v (.bool true)) { s with heap := h₁ } (fun _ => False) (fun v s₂ => wpAny (model prog w) A (do return v :: (← holding [v] (draw (.ref I) 0))) Q' E' s₂) E' rfl hS (fun b o _ _ e => ⟨e, fun z => z⟩) (fun _ z => z.elim) fun v h₂ tk₂ y hS₂ kk => ?_) (fun o s₂ ⟨v, e, hv⟩ => ?_) fun _ _ e => e)
    · have y : v = .bool true := y
      subst y
      refine wpAny_bind (wpAny_holding ?_)
      show wpAny _ _ (pure []) _ _ _
      exact wpAny_pure (wpAny_pure (hq h₂ tk₂ kk hS₂))
    · subst e
      have := wpAny_bind hv
      rw [show letOwnedTupleGo (.Name "" ⟨0, 0, 0, 0⟩) (.ref I) v = pure () from rfl, pure_bind] at this
      exact this
  refine wpAny_bind (wpAny_holding (one _ _ fun h₂ tk₂ kk hS₂ => ?_))
  rw [if_neg (by simp)]
  refine wpAny_bind (wpAny_holding (ok.done { s with heap := h₂, toks := tk₂ } _ _ hS₂ fun h₃ tk₃ k₃ => ?_))
  simp only [Option.isSome_none, Bool.false_eq_true, if_false]
  exact wpAny_pure (q h₃ tk₃ fun b o e => k₃ b o (fun hb => by rw [(fresh b hb).1] at e; cases e) (keepS kk b o e))
end
section
variable {prog : Program} {w : World} {B : Heap} {n : Nat} {env : Env} {Z : Addr → Prop} {st : St} {l loc' : List (Str × Slot)} {xt : Heap → Prop} {x : Str} {px pp : Pos} {kd : Nat}
theorem AS.oneTrueL (up : Upd l x (.r (.d (.bool true))) loc') (hk : Sto env x) : AS prog w B n env Z ⟨l, xt⟩ (.Tuple [.Name x pp] kd px) (.hp (oneTrue prog w)) ⟨loc', xt⟩ := by
  refine ⟨fun A s X₀ O Q E v R F y q => ?_⟩
  obtain ⟨_, a, rfl, nx, hX⟩ := y
  rw [arm_assign_Tuple]
  refine wpAny_bind (wpAny_standAt ?_)
  unfold unpack
  refine wpAny_bind (wpAny_holding ?_)
  have e1 : (assignEach [Expr.Name x pp] env).length = 1 := rfl
  have e2 : (assignEach [Expr.Name x pp] env).findIdx? (·.1) = none := rfl
  rw [e1, e2]
  refine unpack_oneTrue R.handled hX fun h' tk' k => ?_
  have e3 : (assignEach [Expr.Name x pp] env).map (·.2) = [(x, pp)].map fun p => assign (.Name p.1 p.2) env := rfl
  rw [e3]
  exact stores_all (.cons (x := x) (p := pp) (d := .bool true) up .nil) (fun p hp => by rw [List.mem_singleton.mp hp]; exact hk) ⟨l, xt⟩ rfl A { s with heap := h', toks := tk' } X₀ O Q E [.bool true] (F.grow k) (.cons (.bool _) .nil) fun h'' tk'' F'' c => q h'' tk'' F'' (Chg.and F (F.grow k) (Chg.ofZ F k) c)
end
end Mine
end
section
open PySem PySem.W PyProof.Rows PySem.Calls
set_option maxRecDepth 100000
namespace Mine
noncomputable def ltW : List Str → List Str → Bool
  | [], [] => false
  | [], _ :: _ => true
  | _ :: _, [] => false
  | x :: a, y :: b => if x = y then ltW a b else decide (x.cps.toList < y.cps.toList)
theorem ltW_nil_right : ∀ a : List Str, ltW a [] = false
  | [] => rfl
  | _ :: _ => rfl
open AutoSeq1 (wpAny_loadPart') in
theorem lt_loop (l b : Addr) (xs ys : List (Str × Tok)) (n n2 : Nat) (k : Nat) : ∀ i : Nat, xs.length - i = k → i ≤ xs.length → i ≤ ys.length →
    Meets (Builtin.«list.__eq__.loop» ⟨[.ref l, .ref b, rawInt i, rawInt 0], []⟩)
      (fun _ R s => s.heap.get? l = some { cls := .type "list", data := .seq (strValues xs).toArray n } ∧ s.heap.get? b = some { cls := .type "list", data := .seq (strValues ys).toArray n2 } ∧
        R (.ok (.ret (.bool (ltW ((xs.map (·.1)).drop i) ((ys.map (·.1)).drop i))))) s) := by
  induction k with
  | zero =>
    intro i hk h1 h2 prog w A R s h
    obtain ⟨hp, g, d, tk, os⟩ := s; obtain ⟨hl, hb, h⟩ := h
    obtain rfl : i = xs.length := by omega
    wp_walk using wpAny_loadPart' hl, wpAny_loadPart' hb
    have hi1 : (strValues xs).toArray[((xs.length : Nat) : Int).toNat]? = none := by simp [strValues]
    have hres : (ltW ((xs.map (·.1)).drop xs.length) ((ys.map (·.1)).drop xs.length)) = decide ((strValues xs).toArray.size < (strValues ys).toArray.size) := by
      have e1 : (xs.map (·.1)).drop xs.length = [] := by simp
      rw [e1]
      cases hd : (ys.map (·.1)).drop xs.length with
      | nil =>
        have : ys.length ≤ xs.length := by simpa using List.drop_eq_nil_iff.mp hd
        simp [ltW, strValues]; omega
      | cons y r =>
        have : ¬ (ys.map (·.1)).length ≤ xs.length := fun hle => by rw [List.drop_eq_nil_of_le hle] at hd; cases hd
        simp [ltW, strValues] at this ⊢; omega
    rw [hres] at h
    rw [hi1]
    wp_walk using wpAny_loadPart' hl, wpAny_loadPart' hb
    exact h
  | succ k ih =>
    intro i hk h1 h2 prog w A R s h
    obtain ⟨hp, g, d, tk, os⟩ := s; obtain ⟨hl, hb, h⟩ := h
    wp_walk using wpAny_loadPart' hl, wpAny_loadPart' hb
    have hlt : i < xs.length := by omega
    have hi1 : (strValues xs).toArray[((i : Nat) : Int).toNat]? = some (.str xs[i].1 xs[i].2) := by simp [strValues, hlt]
    have hd1 : (xs.map (·.1)).drop i = xs[i].1 :: (xs.map (·.1)).drop (i + 1) := by rw [List.drop_eq_getElem_cons (by simpa using hlt)]; simp
    by_cases hlt2 : i < ys.length
    · have hi2 : (strValues ys).toArray[((i : Nat) : Int).toNat]? = some (.str ys[i].1 ys[i].2) := by simp [strValues, hlt2]
      have hd2 : (ys.map (·.1)).drop i = ys[i].1 :: (ys.map (·.1)).drop (i + 1) := by rw [List.drop_eq_getElem_cons (by simpa using hlt2)]; simp
      have hc : ((i : Int) + 1) = ((i + 1 : Nat) : Int) := by push_cast; rfl
      rw [hd1, hd2] at h
      rw [hi1, hi2]
      refine wpAny_bind (PyProof.Rows.eqBool_str ?_)
      by_cases he : xs[i].1 = ys[i].1
      · have e1 : (xs[i].1 == ys[i].1) = true := beq_iff_eq.mpr he
        rw [e1]
        have e2 : ltW (xs[i].1 :: (xs.map (·.1)).drop (i + 1)) (ys[i].1 :: (ys.map (·.1)).drop (i + 1)) = ltW ((xs.map (·.1)).drop (i + 1)) ((ys.map (·.1)).drop (i + 1)) := by rw [ltW, if_pos he]
        rw [e2] at h
        wp_walk
        rw [hc]
        exact ⟨plainId_quiet MeetsSeq3.plain_eq_loop _, codeAny_builtin MeetsSeq3.entry_eq_loop (by
          rw [Around.under_plainId MeetsSeq3.plain_eq_loop _]
          exact ih (i + 1) (by omega) (by omega) (by omega) prog w A R _ ⟨hl, hb, h⟩)⟩
      · have e1 : (xs[i].1 == ys[i].1) = false := beq_eq_false_iff_ne.mpr he
        rw [e1]
        have e2 : ltW (xs[i].1 :: (xs.map (·.1)).drop (i + 1)) (ys[i].1 :: (ys.map (·.1)).drop (i + 1)) = decide (xs[i].1.cps.toList < ys[i].1.cps.toList) := by rw [ltW, if_neg he]
        rw [e2] at h
        wp_walk using wpAny_loadPart' hl, wpAny_loadPart' hb
        rw [hi1, hi2]
        refine wpAny_bind (richCompare_gives (op := .Lt) (typeIs_str _ _ _) (typeIs_str _ _ _) F.slot_str_lt F.entry_str_lt (F.args_str_lt_2 _ _) (gives_str_lt _ _ _ _) (fun e => nomatch e) ?_)
        exact wpAny_pure h
    · have hi2 : (strValues ys).toArray[((i : Nat) : Int).toNat]? = none := by simp [strValues]; omega
      have hd2 : (ys.map (·.1)).drop i = [] := List.drop_eq_nil_of_le (by simp; omega)
      have hres : (ltW ((xs.map (·.1)).drop i) ((ys.map (·.1)).drop i)) = decide ((strValues xs).toArray.size < (strValues ys).toArray.size) := by
        rw [hd2, ltW_nil_right]
        simp [strValues]; omega
      rw [hres] at h
      rw [hi1, hi2]
      wp_walk using wpAny_loadPart' hl, wpAny_loadPart' hb
      exact h
open AutoSeq1 (wpAny_loadPart') in
theorem meets_lt (l b : Addr) (xs ys : List (Str × Tok)) (n n2 : Nat) :
    Meets (Builtin.«list.__lt__» ⟨[.ref l, .ref b], []⟩)
      (fun _ R s => s.heap.get? l = some { cls := .type "list", data := .seq (strValues xs).toArray n } ∧ s.heap.get? b = some { cls := .type "list", data := .seq (strValues ys).toArray n2 } ∧
        R (.ok (.ret (.bool (ltW (xs.map (·.1)) (ys.map (·.1)))))) s) := by
  intro prog w A R s h
  obtain ⟨hp, g, d, tk, os⟩ := s; obtain ⟨hl, hb, h⟩ := h
  have f3 := AutoSeq1.sub_list_list
  wp_walk using wpAny_loadPart' hl, wpAny_loadPart' hb
  exact ⟨plainId_quiet MeetsSeq3.plain_eq_loop _, codeAny_builtin MeetsSeq3.entry_eq_loop (by
    rw [Around.under_plainId MeetsSeq3.plain_eq_loop _]
    exact lt_loop l b xs ys n n2 _ 0 rfl (Nat.zero_le _) (Nat.zero_le _) prog w A R _ ⟨hl, hb, h⟩)⟩
theorem rich_lt {prog : Program} {w : World} {A : Around} {E : Value → Shared → Prop} {s : Shared} {l b : Addr} {xs ys : List (Str × Tok)} {n n2 : Nat} {Q : Value → Shared → Prop} (hu : A.units < cLine) (hl : s.heap.get? l = some { cls := .type "list", data := .seq (strValues xs).toArray n }) (hb : s.heap.get? b = some { cls := .type "list", data := .seq (strValues ys).toArray n2 })
    (h : Q (.bool (ltW (xs.map (·.1)) (ys.map (·.1)))) s) : wpAny (model prog w) A (richCompare .Lt (.ref l) (.ref b)) Q E s :=
  richCompare_meets_room (T := "list") ⟨_, hl, rfl⟩ ⟨_, hb, rfl⟩ F.slot_list_lt F.entry_list_lt (F.args_list_lt_2 _ _) (meets_lt l b xs ys n n2) ⟨hl, hb, (fun e => nomatch e), h⟩ hu
open AutoSeq1 (wpAny_loadPart') in
theorem gt_loop (l b : Addr) (xs ys : List (Str × Tok)) (n n2 : Nat) (k : Nat) : ∀ i : Nat, xs.length - i = k → i ≤ xs.length → i ≤ ys.length →
    Meets (Builtin.«list.__eq__.loop» ⟨[.ref l, .ref b, rawInt i, rawInt 4], []⟩)
      (fun _ R s => s.heap.get? l = some { cls := .type "list", data := .seq (strValues xs).toArray n } ∧ s.heap.get? b = some { cls := .type "list", data := .seq (strValues ys).toArray n2 } ∧
        R (.ok (.ret (.bool (ltW ((ys.map (·.1)).drop i) ((xs.map (·.1)).drop i))))) s) := by
  induction k with
  | zero =>
    intro i hk h1 h2 prog w A R s h
    obtain ⟨hp, g, d, tk, os⟩ := s; obtain ⟨hl, hb, h⟩ := h
    obtain rfl : i = xs.length := by omega
    wp_walk using wpAny_loadPart' hl, wpAny_loadPart' hb
    have hi1 : (strValues xs).toArray[((xs.length : Nat) : Int).toNat]? = none := by simp [strValues]
    have hres : (ltW ((ys.map (·.1)).drop xs.length) ((xs.map (·.1)).drop xs.length)) = decide ((strValues xs).toArray.size > (strValues ys).toArray.size) := by
      have e1 : (xs.map (·.1)).drop xs.length = [] := by simp
      rw [e1]
      cases hd : (ys.map (·.1)).drop xs.length with
      | nil =>
        have : ys.length ≤ xs.length := by simpa using List.drop_eq_nil_iff.mp hd
        simp [ltW, strValues]; omega
      | cons y r =>
        have : ¬ (ys.map (·.1)).length ≤ xs.length := fun hle => by rw [List.drop_eq_nil_of_le hle] at hd; cases hd
        simp [ltW, strValues] at this ⊢; omega
    rw [hres] at h
    rw [hi1]
    wp_walk using wpAny_loadPart' hl, wpAny_loadPart' hb
    exact h
  | succ k ih =>
    intro i hk h1 h2 prog w A R s h
    obtain ⟨hp, g, d, tk, os⟩ := s; obtain ⟨hl, hb, h⟩ := h
    wp_walk using wpAny_loadPart' hl, wpAny_loadPart' hb
    have hlt : i < xs.length := by omega
    have hi1 : (strValues xs).toArray[((i : Nat) : Int).toNat]? = some (.str xs[i].1 xs[i].2) := by simp [strValues, hlt]
    have hd1 : (xs.map (·.1)).drop i = xs[i].1 :: (xs.map (·.1)).drop (i + 1) := by rw [List.drop_eq_getElem_cons (by simpa using hlt)]; simp
    by_cases hlt2 : i < ys.length
    · have hi2 : (strValues ys).toArray[((i : Nat) : Int).toNat]? = some (.str ys[i].1 ys[i].2) := by simp [strValues, hlt2]
      have hd2 : (ys.map (·.1)).drop i = ys[i].1 :: (ys.map (·.1)).drop (i + 1) := by rw [List.drop_eq_getElem_cons (by simpa using hlt2)]; simp
      have hc : ((i : Int) + 1) = ((i + 1 : Nat) : Int) := by push_cast; rfl
      rw [hd1, hd2] at h
      rw [hi1, hi2]
      refine wpAny_bind (PyProof.Rows.eqBool_str ?_)
      by_cases he : xs[i].1 = ys[i].1
      · have e1 : (xs[i].1 == ys[i].1) = true := beq_iff_eq.mpr he
        rw [e1]
        have e2 : ltW (ys[i].1 :: (ys.map (·.1)).drop (i + 1)) (xs[i].1 :: (xs.map (·.1)).drop (i + 1)) = ltW ((ys.map (·.1)).drop (i + 1)) ((xs.map (·.1)).drop (i + 1)) := by rw [ltW, if_pos he.symm]
        rw [e2] at h
        wp_walk
        rw [hc]
        exact ⟨plainId_quiet MeetsSeq3.plain_eq_loop _, codeAny_builtin MeetsSeq3.entry_eq_loop (by
          rw [Around.under_plainId MeetsSeq3.plain_eq_loop _]
          exact ih (i + 1) (by omega) (by omega) (by omega) prog w A R _ ⟨hl, hb, h⟩)⟩
      · have e1 : (xs[i].1 == ys[i].1) = false := beq_eq_false_iff_ne.mpr he
        rw [e1]
        have e2 : ltW (ys[i].1 :: (ys.map (·.1)).drop (i + 1)) (xs[i].1 :: (xs.map (·.1)).drop (i + 1)) = decide (ys[i].1.cps.toList < xs[i].1.cps.toList) := by rw [ltW, if_neg (fun e => he e.symm)]
        rw [e2] at h
        wp_walk using wpAny_loadPart' hl, wpAny_loadPart' hb
        rw [hi1, hi2]
        refine wpAny_bind (richCompare_gives (op := .Gt) (typeIs_str _ _ _) (typeIs_str _ _ _) F.slot_str_gt F.entry_str_gt (F.args_str_gt_2 _ _) (gives_str_gt _ _ _ _) (fun e => nomatch e) ?_)
        exact wpAny_pure h
    · have hi2 : (strValues ys).toArray[((i : Nat) : Int).toNat]? = none := by simp [strValues]; omega
      have hd2 : (ys.map (·.1)).drop i = [] := List.drop_eq_nil_of_le (by simp; omega)
      have hres : (ltW ((ys.map (·.1)).drop i) ((xs.map (·.1)).drop i)) = decide ((strValues xs).toArray.size > (strValues ys).toArray.size) := by
        rw [hd2, hd1]
        simp [strValues, ltW]; omega
      rw [hres] at h
      rw [hi1, hi2]
      wp_walk using wpAny_loadPart' hl, wpAny_loadPart' hb
      exact h
open AutoSeq1 (wpAny_loadPart') in
theorem meets_gt (l b : Addr) (xs ys : List (Str × Tok)) (n n2 : Nat) :
    Meets (Builtin.«list.__gt__» ⟨[.ref l, .ref b], []⟩)
      (fun _ R s => s.heap.get? l = some { cls := .type "list", data := .seq (strValues xs).toArray n } ∧ s.heap.get? b = some { cls := .type "list", data := .seq (strValues ys).toArray n2 } ∧
        R (.ok (.ret (.bool (ltW (ys.map (·.1)) (xs.map (·.1)))))) s) := by
  intro prog w A R s h
  obtain ⟨hp, g, d, tk, os⟩ := s; obtain ⟨hl, hb, h⟩ := h
  have f3 := AutoSeq1.sub_list_list
  wp_walk using wpAny_loadPart' hl, wpAny_loadPart' hb
  exact ⟨plainId_quiet MeetsSeq3.plain_eq_loop _, codeAny_builtin MeetsSeq3.entry_eq_loop (by
    rw [Around.under_plainId MeetsSeq3.plain_eq_loop _]
    exact gt_loop l b xs ys n n2 _ 0 rfl (Nat.zero_le _) (Nat.zero_le _) prog w A R _ ⟨hl, hb, h⟩)⟩
theorem rich_gt {prog : Program} {w : World} {A : Around} {E : Value → Shared → Prop} {s : Shared} {l b : Addr} {xs ys : List (Str × Tok)} {n n2 : Nat} {Q : Value → Shared → Prop} (hu : A.units < cLine) (hl : s.heap.get? l = some { cls := .type "list", data := .seq (strValues xs).toArray n }) (hb : s.heap.get? b = some { cls := .type "list", data := .seq (strValues ys).toArray n2 })
    (h : Q (.bool (ltW (ys.map (·.1)) (xs.map (·.1)))) s) : wpAny (model prog w) A (richCompare .Gt (.ref l) (.ref b)) Q E s :=
  richCompare_meets_room (T := "list") ⟨_, hl, rfl⟩ ⟨_, hb, rfl⟩ F.slot_list_gt F.entry_list_gt (F.args_list_gt_2 _ _) (meets_gt l b xs ys n n2) ⟨hl, hb, (fun e => nomatch e), h⟩ hu
theorem call_min2 {prog : Program} {w : World} {A : Around} {E : Value → Shared → Prop} {s : Shared} {l : Addr} {u v : Value} {b : Bool} {Q : Value → Shared → Prop} (hh : A.handled = none) (hl : s.heap.IsList l #[u, v])
    (hcmp : ∀ (s' : Shared) (Q' : Value → Shared → Prop) (E' : Value → Shared → Prop), Ext s.heap s'.heap → Q' (.bool b) s' → wpAny (model prog w) A.in1 (richCompare .Lt v u) Q' E' s')
    (hQ : ∀ h' tk, Ext s.heap h' → Q (if b = true then v else u) { s with heap := h', toks := tk }) : wpAny (model prog w) A (call (.builtin "min") [.ref l]) Q E s := by
  have hname : (toString "min" ++ toString ".loop" : String) = "min.loop" := by decide
  refine call_function_tree F.kind_min F.plain_min F.entry_min (F.args_min1 _) ?_
  show wpAny _ A.in1 (Builtin.Builtins.bindParams "min" ["key", "default"] 0 ⟨[], []⟩ >>= _) _ _ s
  refine wpAny_bind (wpAny_of_eq (show Builtin.Builtins.bindParams "min" ["key", "default"] 0 ⟨[], []⟩ = pure [none, none] from rfl) ?_)
  refine wpAny_bind (wpAny_pure ?_)
  refine wpAny_bind (wpAny_pyIter_list hl ?_)
  refine wpAny_bind (wpAny_newObj_type ?_)
  rw [hname]
  have hll : l < s.heap.objs.size := by obtain ⟨o, e, _⟩ := hl; exact Heap.lt_size e
  have W := Walks.list (prog := prog) (w := w) (A := A.in1) hh s.heap.objs.size l (Nat.ne_of_lt hll) #[u, v]
  have k2 : Ext s.heap ((s.heap.push { cls := .type "list_iterator", data := .fields #[.ref l, .int 0 0] }).push { cls := .type "list", data := .seq ([] : List Value).toArray }) := (Ext.push _ _).pushR _
  have gI : ((s.heap.push { cls := .type "list_iterator", data := .fields #[.ref l, .int 0 0] }).push { cls := .type "list", data := .seq ([] : List Value).toArray }).IsListIter s.heap.objs.size l 0 := ⟨_, Heap.get?_push_of_some _ (Heap.get?_push_size _ rfl), rfl, rfl⟩
  have sz : (s.heap.push { cls := .type "list_iterator", data := .fields #[.ref l, .int 0 0] }).objs.size = s.heap.objs.size + 1 := Heap.size_push ..
  have gS : ((s.heap.push { cls := .type "list_iterator", data := .fields #[.ref l, .int 0 0] }).push { cls := .type "list", data := .seq ([] : List Value).toArray }).get? (s.heap.objs.size + 1) = some { cls := .type "list", data := .seq #[] 0 } := by rw [← sz]; exact Heap.get?_push_size _ rfl
  have hlL := IsList.ext hl k2
  rw [sz]
  generalize (s.heap.push { cls := .type "list_iterator", data := .fields #[.ref l, .int 0 0] }).push { cls := .type "list", data := .seq ([] : List Value).toArray } = h₂ at k2 gI gS hlL ⊢
  generalize hI : s.heap.objs.size = I at W gI gS hll ⊢
  have hSI : I + 1 ∉ [I] := fun h => Nat.ne_of_gt (Nat.lt_succ_self I) (List.mem_singleton.mp h)
  have hSl : I + 1 ≠ l := Nat.ne_of_gt (Nat.lt_succ_of_lt hll)
  have old : ∀ {b o}, s.heap.get? b = some o → b ≠ I + 1 ∧ b ∉ [I] := fun e => by
    have := Heap.lt_size e
    rw [hI] at this
    exact ⟨Nat.ne_of_lt (Nat.lt_succ_of_lt this), fun hb => Nat.ne_of_lt this (List.mem_singleton.mp hb)⟩
  refine wpAny_pure ⟨plainId_quiet F.plain_min_loop _, codeAny_builtin F.entry_min_loop ?_⟩
  rw [Around.under_plainId F.plain_min_loop _]
  show wpAny _ A.in1 (seqItems? (.ref (I + 1)) >>= _) _ _ _
  refine wpAny_bind (wpAny_seqItems gS rfl ?_)
  show wpAny _ A.in1 (tryCatch (pyNext (.ref I)) _ >>= _) _ _ _
  refine wpAny_bind (wpAny_tryCatch (W.item 0 _ _ _ (by simp) ⟨gI, hlL⟩ fun v₀ h₃ tk₃ hv₀ hst₃ hk₃ => ?_))
  obtain rfl : v₀ = u := by simpa using hv₀.symm
  have gS₃ := hk₃ (I + 1) _ hSI gS
  show wpAny _ A.in1 (updateSeq (I + 1) (fun _ => #[v₀, v₀]) >>= _) _ _ _
  refine wpAny_bind (wpAny_updateSeq gS₃ rfl ?_)
  have gS₄ := Heap.get?_update_self (Obj.mapSeq (fun _ => (#[v₀, v₀] : Array Value))) gS₃ rfl
  have hst₄ := W.frame _ _ (h₃.update (I + 1) (Obj.mapSeq (fun _ => (#[v₀, v₀] : Array Value)))) hst₃ fun b hb o e => (Heap.get?_update_other _ _ (fun z : I + 1 = b => by
    simp only [List.mem_cons, List.not_mem_nil, or_false] at hb
    rcases hb with hb | hb
    · exact hSI (List.mem_singleton.mpr (z.trans hb))
    · exact hSl (z.trans hb))).trans e
  have k4 : Ext s.heap (h₃.update (I + 1) (Obj.mapSeq (fun _ => (#[v₀, v₀] : Array Value)))) := fun b o e => (Heap.get?_update_other _ _ (fun z : I + 1 = b => (old e).1 z.symm)).trans (hk₃ b o (old e).2 (k2 b o e))
  generalize h₃.update (I + 1) (Obj.mapSeq (fun _ => (#[v₀, v₀] : Array Value))) = h₄ at gS₄ hst₄ k4 ⊢
  rw [hname]
  refine wpAny_pure ⟨plainId_quiet F.plain_min_loop _, codeAny_builtin F.entry_min_loop ?_⟩
  rw [Around.under_plainId F.plain_min_loop _]
  show wpAny _ A.in1 (seqItems? (.ref (I + 1)) >>= _) _ _ _
  refine wpAny_bind (wpAny_seqItems gS₄ rfl ?_)
  show wpAny _ A.in1 (tryCatch (pyNext (.ref I)) _ >>= _) _ _ _
  refine wpAny_bind (wpAny_tryCatch (W.item 1 _ _ _ (by simp) hst₄ fun v₁ h₅ tk₅ hv₁ hst₅ hk₅ => ?_))
  obtain rfl : v₁ = v := by simpa using hv₁.symm
  have gS₅ := hk₅ (I + 1) _ hSI gS₄
  have k5 : Ext s.heap h₅ := fun b o e => hk₅ b o (old e).2 (k4 b o e)
  show wpAny _ A.in1 (tryCatch (holding [v₁, v₁] (richCompare .Lt v₁ v₀ >>= _)) _ >>= _) _ _ _
  refine wpAny_bind (wpAny_tryCatch (wpAny_holding (wpAny_bind (hcmp _ _ _ k5 ?_))))
  refine wpAny_bind (wpAny_holding (wpAny_truthy_bool ?_))
  refine wpAny_bind (wpAny_letGo (wpAny_pure ?_))
  have last : ∀ (r : Value) (h₆ : Heap) (c₆ : Nat), Ext s.heap h₆ → (h₆.IsListIter I l 2 ∧ h₆.IsList l #[v₀, v₁]) → h₆.get? (I + 1) = some { cls := .type "list", dict := none, data := .seq #[r, r] c₆, slots := #[] } → (∀ h' tk, Ext s.heap h' → Q r { s with heap := h', toks := tk }) →
      codeAny (model prog w) A (.builtin "min.loop" ⟨[.ref I, .none, .ref (I + 1)], []⟩) (wants Q E) { s with heap := h₆, toks := tk₅ } := by
    intro r h₆ c₆ k6 hst₆ gS₆ hq
    refine codeAny_builtin F.entry_min_loop ?_
    rw [Around.under_plainId F.plain_min_loop _]
    show wpAny _ A.in1 (seqItems? (.ref (I + 1)) >>= _) _ _ _
    refine wpAny_bind (wpAny_seqItems gS₆ rfl ?_)
    show wpAny _ A.in1 (tryCatch (pyNext (.ref I)) _ >>= _) _ _ _
    refine wpAny_bind (wpAny_tryCatch (W.done _ _ _ hst₆ fun h₇ tk₇ hk₇ => ?_))
    have gS₇ := hk₇ (I + 1) _ hSI gS₆
    show wpAny _ A.in1 (updateSeq (I + 1) (fun _ => #[]) >>= _) _ _ _
    refine wpAny_bind (wpAny_updateSeq gS₇ rfl (wpAny_bind (wpAny_letGo (wpAny_pure ?_))))
    exact hq _ _ fun b o e => (Heap.get?_update_other _ _ (fun z : I + 1 = b => (old e).1 z.symm)).trans (hk₇ b o (old e).2 (k6 b o e))
  cases b with
  | true =>
    simp only [if_true] at hQ ⊢
    refine wpAny_bind ?_
    refine wpAny_updateSeq gS₅ rfl (wpAny_bind (wpAny_letGo ?_))
    rw [hname]
    refine wpAny_pure ⟨plainId_quiet F.plain_min_loop _, last v₁ _ _ (fun b o e => (Heap.get?_update_other _ _ (fun z : I + 1 = b => (old e).1 z.symm)).trans (k5 b o e)) (W.frame _ _ _ hst₅ fun b hb o e => (Heap.get?_update_other _ _ (fun z : I + 1 = b => by
      simp only [List.mem_cons, List.not_mem_nil, or_false] at hb
      rcases hb with hb | hb
      · exact hSI (List.mem_singleton.mpr (z.trans hb))
      · exact hSl (z.trans hb))).trans e) (Heap.get?_update_self _ gS₅ rfl) hQ⟩
  | false =>
    simp only [Bool.false_eq_true, if_false] at hQ ⊢
    refine wpAny_bind (wpAny_letGo ?_)
    rw [hname]
    exact wpAny_pure ⟨plainId_quiet F.plain_min_loop _, last v₀ h₅ _ k5 hst₅ gS₅ hQ⟩
theorem OP.minW {prog : Program} {w : World} {B : Heap} {n : Nat} (a b : List Str) : OP prog w B n (fun vs => PySem.call (.builtin "min") vs) [.d (.list [.list (a.map .str), .list (b.map .str)])] (.d (.list ((if ltW b a = true then b else a).map .str))) :=
  OP.of1 fun A s X Q E u R O y q => by
    obtain ⟨l, vs, rfl, nx, hl, ra⟩ := Rd.list_inv y
    cases ra with
    | cons y1 ra => cases ra with
      | cons y2 ra =>
        cases ra
        obtain ⟨l1, v1, rfl, n1, ⟨c1, g1⟩, r1⟩ := Rd.list_invP y1
        obtain ⟨l2, v2, rfl, n2, ⟨c2, g2⟩, r2⟩ := Rd.list_invP y2
        obtain ⟨s1, rfl, rfl⟩ := strs_inv r1
        obtain ⟨s2, rfl, rfl⟩ := strs_inv r2
        refine call_min2 (b := ltW (s2.map (·.1)) (s1.map (·.1))) R.handled hl (fun s' Q' E' k hq => rich_lt (n := c2) (n2 := c1) (by have := R.unitsLt; show A.units + 1 < _; omega) (k _ _ g2) (k _ _ g1) hq) fun h' tk k => q _ h' tk k ?_
        by_cases hc : ltW (s2.map (·.1)) (s1.map (·.1)) = true
        · rw [if_pos hc, if_pos hc]; exact Rd.ext y2 k
        · rw [if_neg hc, if_neg hc]; exact Rd.ext y1 k
theorem call_max2 {prog : Program} {w : World} {A : Around} {E : Value → Shared → Prop} {s : Shared} {l : Addr} {u v : Value} {b : Bool} {Q : Value → Shared → Prop} (hh : A.handled = none) (hl : s.heap.IsList l #[u, v])
    (hcmp : ∀ (s' : Shared) (Q' : Value → Shared → Prop) (E' : Value → Shared → Prop), Ext s.heap s'.heap → Q' (.bool b) s' → wpAny (model prog w) A.in1 (richCompare .Gt v u) Q' E' s')
    (hQ : ∀ h' tk, Ext s.heap h' → Q (if b = true then v else u) { s with heap := h', toks := tk }) : wpAny (model prog w) A (call (.builtin "max") [.ref l]) Q E s := by
  have hname : (toString "max" ++ toString ".loop" : String) = "max.loop" := by decide
  refine call_function_tree F.kind_max F.plain_max F.entry_max (F.args_max1 _) ?_
  show wpAny _ A.in1 (Builtin.Builtins.bindParams "max" ["key", "default"] 0 ⟨[], []⟩ >>= _) _ _ s
  refine wpAny_bind (wpAny_of_eq (show Builtin.Builtins.bindParams "max" ["key", "default"] 0 ⟨[], []⟩ = pure [none, none] from rfl) ?_)
  refine wpAny_bind (wpAny_pure ?_)
  refine wpAny_bind (wpAny_pyIter_list hl ?_)
  refine wpAny_bind (wpAny_newObj_type ?_)
  rw [hname]
  have hll : l < s.heap.objs.size := by obtain ⟨o, e, _⟩ := hl; exact Heap.lt_size e
  have W := Walks.list (prog := prog) (w := w) (A := A.in1) hh s.heap.objs.size l (Nat.ne_of_lt hll) #[u, v]
  have k2 : Ext s.heap ((s.heap.push { cls := .type "list_iterator", data := .fields #[.ref l, .int 0 0] }).push { cls := .type "list", data := .seq ([] : List Value).toArray }) := (Ext.push _ _).pushR _
  have gI : ((s.heap.push { cls := .type "list_iterator", data := .fields #[.ref l, .int 0 0] }).push { cls := .type "list", data := .seq ([] : List Value).toArray }).IsListIter s.heap.objs.size l 0 := ⟨_, Heap.get?_push_of_some _ (Heap.get?_push_size _ rfl), rfl, rfl⟩
  have sz : (s.heap.push { cls := .type "list_iterator", data := .fields #[.ref l, .int 0 0] }).objs.size = s.heap.objs.size + 1 := Heap.size_push ..
  have gS : ((s.heap.push { cls := .type "list_iterator", data := .fields #[.ref l, .int 0 0] }).push { cls := .type "list", data := .seq ([] : List Value).toArray }).get? (s.heap.objs.size + 1) = some { cls := .type "list", data := .seq #[] 0 } := by rw [← sz]; exact Heap.get?_push_size _ rfl
  have hlL := IsList.ext hl k2
  rw [sz]
  generalize (s.heap.push { cls := .type "list_iterator", data := .fields #[.ref l, .int 0 0] }).push { cls := .type "list", data := .seq ([] : List Value).toArray } = h₂ at k2 gI gS hlL ⊢
  generalize hI : s.heap.objs.size = I at W gI gS hll ⊢
  have hSI : I + 1 ∉ [I] := fun h => Nat.ne_of_gt (Nat.lt_succ_self I) (List.mem_singleton.mp h)
  have hSl : I + 1 ≠ l := Nat.ne_of_gt (Nat.lt_succ_of_lt hll)
  have old : ∀ {b o}, s.heap.get? b = some o → b ≠ I + 1 ∧ b ∉ [I] := fun e => by
    have := Heap.lt_size e
    rw [hI] at this
    exact ⟨Nat.ne_of_lt (Nat.lt_succ_of_lt this), fun hb => Nat.ne_of_lt this (List.mem_singleton.mp hb)⟩
  refine wpAny_pure ⟨plainId_quiet F.plain_max_loop _, codeAny_builtin F.entry_max_loop ?_⟩
  rw [Around.under_plainId F.plain_max_loop _]
  show wpAny _ A.in1 (seqItems? (.ref (I + 1)) >>= _) _ _ _
  refine wpAny_bind (wpAny_seqItems gS rfl ?_)
  show wpAny _ A.in1 (tryCatch (pyNext (.ref I)) _ >>= _) _ _ _
  refine wpAny_bind (wpAny_tryCatch (W.item 0 _ _ _ (by simp) ⟨gI, hlL⟩ fun v₀ h₃ tk₃ hv₀ hst₃ hk₃ => ?_))
  obtain rfl : v₀ = u := by simpa using hv₀.symm
  have gS₃ := hk₃ (I + 1) _ hSI gS
  show wpAny _ A.in1 (updateSeq (I + 1) (fun _ => #[v₀, v₀]) >>= _) _ _ _
  refine wpAny_bind (wpAny_updateSeq gS₃ rfl ?_)
  have gS₄ := Heap.get?_update_self (Obj.mapSeq (fun _ => (#[v₀, v₀] : Array Value))) gS₃ rfl
  have hst₄ := W.frame _ _ (h₃.update (I + 1) (Obj.mapSeq (fun _ => (#[v₀, v₀] : Array Value)))) hst₃ fun b hb o e => (Heap.get?_update_other _ _ (fun z : I + 1 = b => by
    simp only [List.mem_cons, List.not_mem_nil, or_false] at hb
    rcases hb with hb | hb
    · exact hSI (List.mem_singleton.mpr (z.trans hb))
    · exact hSl (z.trans hb))).trans e
  have k4 : Ext s.heap (h₃.update (I + 1) (Obj.mapSeq (fun _ => (#[v₀, v₀] : Array Value)))) := fun b o e => (Heap.get?_update_other _ _ (fun z : I + 1 = b => (old e).1 z.symm)).trans (hk₃ b o (old e).2 (k2 b o e))
  generalize h₃.update (I + 1) (Obj.mapSeq (fun _ => (#[v₀, v₀] : Array Value))) = h₄ at gS₄ hst₄ k4 ⊢
  rw [hname]
  refine wpAny_pure ⟨plainId_quiet F.plain_max_loop _, codeAny_builtin F.entry_max_loop ?_⟩
  rw [Around.under_plainId F.plain_max_loop _]
  show wpAny _ A.in1 (seqItems? (.ref (I + 1)) >>= _) _ _ _
  refine wpAny_bind (wpAny_seqItems gS₄ rfl ?_)
  show wpAny _ A.in1 (tryCatch (pyNext (.ref I)) _ >>= _) _ _ _
  refine wpAny_bind (wpAny_tryCatch (W.item 1 _ _ _ (by simp) hst₄ fun v₁ h₅ tk₅ hv₁ hst₅ hk₅ => ?_))
  obtain rfl : v₁ = v := by simpa using hv₁.symm
  have gS₅ := hk₅ (I + 1) _ hSI gS₄
  have k5 : Ext s.heap h₅ := fun b o e => hk₅ b o (old e).2 (k4 b o e)
  show wpAny _ A.in1 (tryCatch (holding [v₁, v₁] (richCompare .Gt v₁ v₀ >>= _)) _ >>= _) _ _ _
  refine wpAny_bind (wpAny_tryCatch (wpAny_holding (wpAny_bind (hcmp _ _ _ k5 ?_))))
  refine wpAny_bind (wpAny_holding (wpAny_truthy_bool ?_))
  refine wpAny_bind (wpAny_letGo (wpAny_pure ?_))
  have last : ∀ (r : Value) (h₆ : Heap) (c₆ : Nat), Ext s.heap h₆ → (h₆.IsListIter I l 2 ∧ h₆.IsList l #[v₀, v₁]) → h₆.get? (I + 1) = some { cls := .type "list", dict := none, data := .seq #[r, r] c₆, slots := #[] } → (∀ h' tk, Ext s.heap h' → Q r { s with heap := h', toks := tk }) →
      codeAny (model prog w) A (.builtin "max.loop" ⟨[.ref I, .none, .ref (I + 1)], []⟩) (wants Q E) { s with heap := h₆, toks := tk₅ } := by
    intro r h₆ c₆ k6 hst₆ gS₆ hq
    refine codeAny_builtin F.entry_max_loop ?_
    rw [Around.under_plainId F.plain_max_loop _]
    show wpAny _ A.in1 (seqItems? (.ref (I + 1)) >>= _) _ _ _
    refine wpAny_bind (wpAny_seqItems gS₆ rfl ?_)
    show wpAny _ A.in1 (tryCatch (pyNext (.ref I)) _ >>= _) _ _ _
    refine wpAny_bind (wpAny_tryCatch (W.done _ _ _ hst₆ fun h₇ tk₇ hk₇ => ?_))
    have gS₇ := hk₇ (I + 1) _ hSI gS₆
    show wpAny _ A.in1 (updateSeq (I + 1) (fun _ => #[]) >>= _) _ _ _
    refine wpAny_bind (wpAny_updateSeq gS₇ rfl (wpAny_bind (wpAny_letGo (wpAny_pure ?_))))
    exact hq _ _ fun b o e => (Heap.get?_update_other _ _ (fun z : I + 1 = b => (old e).1 z.symm)).trans (hk₇ b o (old e).2 (k6 b o e))
  cases b with
  | true =>
    simp only [if_true] at hQ ⊢
    refine wpAny_bind ?_
    refine wpAny_updateSeq gS₅ rfl (wpAny_bind (wpAny_letGo ?_))
    rw [hname]
    refine wpAny_pure ⟨plainId_quiet F.plain_max_loop _, last v₁ _ _ (fun b o e => (Heap.get?_update_other _ _ (fun z : I + 1 = b => (old e).1 z.symm)).trans (k5 b o e)) (W.frame _ _ _ hst₅ fun b hb o e => (Heap.get?_update_other _ _ (fun z : I + 1 = b => by
      simp only [List.mem_cons, List.not_mem_nil, or_false] at hb
      rcases hb with hb | hb
      · exact hSI (List.mem_singleton.mpr (z.trans hb))
      · exact hSl (z.trans hb))).trans e) (Heap.get?_update_self _ gS₅ rfl) hQ⟩
  | false =>
    simp only [Bool.false_eq_true, if_false] at hQ ⊢
    refine wpAny_bind (wpAny_letGo ?_)
    rw [hname]
    exact wpAny_pure ⟨plainId_quiet F.plain_max_loop _, last v₀ h₅ _ k5 hst₅ gS₅ hQ⟩
theorem OP.maxW {prog : Program} {w : World} {B : Heap} {n : Nat} (a b : List Str) : OP prog w B n (fun vs => PySem.call (.builtin "max") vs) [.d (.list [.list (a.map .str), .list (b.map .str)])] (.d (.list ((if ltW a b = true then b else a).map .str))) :=
  OP.of1 fun A s X Q E u R O y q => by
    obtain ⟨l, vs, rfl, nx, hl, ra⟩ := Rd.list_inv y
    cases ra with
    | cons y1 ra => cases ra with
      | cons y2 ra =>
        cases ra
        obtain ⟨l1, v1, rfl, n1, ⟨c1, g1⟩, r1⟩ := Rd.list_invP y1
        obtain ⟨l2, v2, rfl, n2, ⟨c2, g2⟩, r2⟩ := Rd.list_invP y2
        obtain ⟨s1, rfl, rfl⟩ := strs_inv r1
        obtain ⟨s2, rfl, rfl⟩ := strs_inv r2
        refine call_max2 (b := ltW (s1.map (·.1)) (s2.map (·.1))) R.handled hl (fun s' Q' E' k hq => rich_gt (n := c2) (n2 := c1) (by have := R.unitsLt; show A.units + 1 < _; omega) (k _ _ g2) (k _ _ g1) hq) fun h' tk k => q _ h' tk k ?_
        by_cases hc : ltW (s1.map (·.1)) (s2.map (·.1)) = true
        · rw [if_pos hc, if_pos hc]; exact Rd.ext y2 k
        · rw [if_neg hc, if_neg hc]; exact Rd.ext y1 k
end Mine
end
section
open PySem PySem.W PyProof.Rows PySem.Calls
namespace Mine
theorem lenV1 : ∀ {l : List Value}, l.length = 1 → ∃ a, l = [a]
  | [a], _ => ⟨a, rfl⟩
theorem lenV2 {l : List Value} (h : l.length = 2) : ∃ a b, l = [a, b] := by
  cases l with
  | nil => exact nomatch h
  | cons a l => obtain ⟨b, rfl⟩ := lenV1 (Nat.succ.inj h); exact ⟨a, b, rfl⟩
theorem lenV3 {l : List Value} (h : l.length = 3) : ∃ a b c, l = [a, b, c] := by
  cases l with
  | nil => exact nomatch h
  | cons a l => obtain ⟨b, c, rfl⟩ := lenV2 (Nat.succ.inj h); exact ⟨a, b, c, rfl⟩
theorem lenV4 {l : List Value} (h : l.length = 4) : ∃ a b c d, l = [a, b, c, d] := by
  cases l with
  | nil => exact nomatch h
  | cons a l => obtain ⟨b, c, d, rfl⟩ := lenV3 (Nat.succ.inj h); exact ⟨a, b, c, d, rfl⟩
theorem lenV5 {l : List Value} (h : l.length = 5) : ∃ a b c d e, l = [a, b, c, d, e] := by
  cases l with
  | nil => exact nomatch h
  | cons a l => obtain ⟨b, c, d, e, rfl⟩ := lenV4 (Nat.succ.inj h); exact ⟨a, b, c, d, e, rfl⟩
structure Cx (w : World) (B : Heap) (mg mb : Str → Option Value) : Prop where
  K : (heapK w.params).In B
  g : B.Ns mainGlobals mg
  b : B.Ns builtinsNs mb
  lim : B.NoLimit
  bi : ∀ x : Str, x ≠ "__name__" → mb x = bootBuiltins x
noncomputable def P₀ : Params := { strHash := fun _ => 0, shareClass := fun _ => 0, mergeTok := id, idOf := fun _ => 0, idOfShared := fun _ _ => 0, followText := fun _ => false, idOfImm := fun _ => 0 }
noncomputable def fdIn (a : Addr) : FuncData := match (heapK P₀).lookup a with
  | some ⟨_, _, .func fd, _⟩ => fd
  | _ => default
noncomputable def bodyIn (a : Addr) : List Stmt := match (fdIn a).body with
  | .stmts b => b
  | _ => []
noncomputable def codeAt (fd : FuncData) : Addr := match fd.code with
  | .ref c => c
  | _ => 0
noncomputable def codeOk (ob : Option Obj) (fd : FuncData) : Bool := match fd.code with
  | .ref _ => (match ob with
    | some ⟨_, _, .fields vs, _⟩ => (match vs[1]? with
      | some (Value.str q _) => q == fd.qualname
      | _ => false)
    | _ => false)
  | _ => false
theorem codeOk.rec {K : Frag} {h : Heap} {fd : FuncData} {ob : Option Obj} (X : K.In h) (e : codeOk ob fd = true) (hb : K.lookup (codeAt fd) = ob) : h.CodeRec fd.code fd.qualname := by
  unfold codeOk at e
  unfold codeAt at hb
  split at e
  · rename_i c hc
    rw [hc] at hb
    split at e
    · split at e
      · rename_i q' t hq
        have := beq_iff_eq.mp e
        subst this
        exact ⟨c, _, _, t, hc, X _ _ hb, rfl, hq⟩
      · cases e
    · cases e
  · cases e
section
variable {prog : Program} {w : World} {B : Heap} {mg mb : Str → Option Value} {n : Nat} {rs : List Res} {r : Res} {xs : List Str}
theorem OP.fun (C : Cx w B mg mb) (a : Addr) (hl : ∃ o, (heapK w.params).lookup a = some o ∧ o.data = .func (fdIn a)) (hcp : (heapK w.params).lookup (codeAt (fdIn a)) = (heapK P₀).lookup (codeAt (fdIn a))) (hcd : codeOk ((heapK P₀).lookup (codeAt (fdIn a))) (fdIn a) = true) (hbody : (fdIn a).body = .stmts (bodyIn a)) (hclo : (fdIn a).closure = [])
    (hbind : ∀ (vs : List Value), vs.length = rs.length → bindArgs (fdIn a) ⟨vs, []⟩ = pure (xs.zip vs)) (hlen : xs.length = rs.length)
    (hk : ∀ x ∈ xs, (fdIn a).scope.names.lookup x = some .local ∨ (fdIn a).scope.names.lookup x = some .cell) (nd : xs.Nodup) (ndn : ((fdIn a).scope.names.map (·.1)).Nodup)
    (main : ∀ L, SF prog w B n (callEnvC (fdIn a) L a) (fun _ => False) ⟨slotsOf (xs.zip rs), fun _ => True⟩ (execs (bodyIn a) (callEnvC (fdIn a) L a)) (Gives r))
    (hco : (fdIn a).scope.isCoroutine = false := by rfl) (hgen : (fdIn a).scope.isGenerator = false := by rfl) (hkind : (fdIn a).scope.kind = .function := by rfl) :
    OP prog w B (n + 1) (fun vs => call (.ref a) vs) rs r := by
  obtain ⟨o, h1, h2⟩ := hl
  exact OP.fn (C.K _ _ h1) h2 C.lim (codeOk.rec C.K hcd hcp) hbody hclo hbind hlen hk nd ndn main hco hgen hkind
end
theorem EV.look {prog : Program} {w : World} {B : Heap} {n : Nat} {env : Env} {nu : List (Str × Res)} {x : Str} {a : Res} {pos : Pos} (h : nu.lookup x = some a) (hd : (x == ("__debug__" : Str)) = false) : EV prog w B n env nu (.Name x pos) a := by
  refine EV.name ?_ hd
  induction nu with
  | nil => cases h
  | cons p r ih =>
    obtain ⟨y, b⟩ := p
    rw [List.lookup_cons] at h
    cases g : x == y with
    | true => rw [g] at h; cases h; rw [beq_iff_eq.mp g]; exact .head _
    | false => rw [g] at h; exact .tail _ (ih h)
end Mine
end
section
open PySem PySem.W PyProof.Rows PySem.Calls
set_option maxRecDepth 100000
namespace Mine
section
variable {prog : Program} {w : World} {A : Around} {E : Value → Shared → Prop} {s : Shared} {B : Heap} {n : Nat} {env : Env} {nu : List (Str × Res)} {x : Str} {us : List Value} {tp : Addr} {es : List Expr} {pos : Pos} {kd : Nat}
theorem issub_nested_str {k : Value} {dep : Int} {tk : Tok} {Q : Fin → Shared → Prop} (hk : k = .int dep tk) (hq : Q (.done (.ret (.bool true))) s) :
    wpAny (model prog w) A (Builtin.«issubclass.nested» ⟨[.type "str", .type "str", k], []⟩) Q E s := by
  subst hk
  have hm : (Value.type ((Manifest.find? "str").elim "type" fun x => x.metatype) == Value.type "type") = true := by kernel_rfl
  have hself : isSubtype (.type "str") (.type "str") = pure true := by rw [isSubtype_type]; kernel_rfl
  repeat (any_goals (first | assumption | (rw [if_pos hm]) | (rw [hself]) | wp_step))
theorem kind_issub_nested : builtinKind "issubclass.nested" = none := by decide +kernel
theorem plain_issub_nested : plainId "issubclass.nested" = true := by decide +kernel
theorem args_issub_nested_3 (a b c : Value) : argsOk "issubclass.nested" ⟨[a, b, c], []⟩ := by unfold argsOk; kernel_rfl
theorem issub_nested_call {i : Value} {dep : Int} {tk : Tok} (hk : i = .int dep tk) {Q : Value → Shared → Prop} (hq : Q (.bool true) s) : wpAny (model prog w) A (call (.builtin "issubclass.nested") [.type "str", .type "str", i]) Q E s :=
  call_function_meets kind_issub_nested plain_issub_nested F.entry_issubclass_nested (args_issub_nested_3 _ _ _) (S := fun _ R s => R (.ok (.ret (.bool true))) s) (fun _ _ _ _ _ hs => issub_nested_str hk hs) hq
theorem issub_tuple {tp : Addr} {nn : Nat} {all cs : List Value} (hall : all = .type "str" :: cs) {tk : Tok} {Q : Fin → Shared → Prop} (htp : s.heap.get? tp = some { cls := .type "tuple", data := .seq all.toArray nn })
    (hq : Q (.done (.ret (.bool true))) s) : wpAny (model prog w) A (Builtin.«issubclass.nested» ⟨[.type "str", .ref tp, .int 0 tk], []⟩) Q E s := by
  obtain ⟨h, g, d, t, os⟩ := s
  have hT2 : (⟨h, g, d, t, os⟩ : Shared).TypeIs (.ref tp) "tuple" := ⟨_, htp, rfl⟩
  have f1 := F.isi_sub_tuple
  repeat (any_goals (first | assumption | wp_step))
  refine wpAny_arrayLoop ?_
  simp only [Option.getD_some, List.toList_toArray]
  subst hall
  rw [List.forIn_cons]
  refine wpAny_bind (wpAny_bind (issub_nested_call rfl ?_))
  show wpAny _ _ (truthy (.bool true) >>= _) _ _ _
  refine wpAny_bind (m := truthy (.bool true)) (wpAny_pure ?_)
  refine wpAny_bind (wpAny_pure (wpAny_pure (wpAny_pure ?_)))
  exact wpAny_pure hq
theorem issub_str : Meets (Builtin.«issubclass» ⟨[.type "str", .ref tp], []⟩) (fun _ R s => PTup s.heap tp (.type "str" :: us).toArray ∧ R (.ok (.ret (.bool true))) s) :=
  fun _ _ _ _ _ hs => let ⟨⟨_, h1⟩, h2⟩ := hs; issubclass_outer (issub_tuple rfl h1 h2)
theorem OP.issub : OP prog w B n (fun vs => call (.builtin "issubclass") vs) [.v (.type "str"), .tv (.type "str" :: us)] (.d (.bool true)) :=
  OP.of2 fun A s X Q E u v R O y z q => by
    cases y
    obtain ⟨a, rfl, nx, h⟩ := z
    exact call_issubclass issub_str ⟨h, q _ _ _ (Ext.refl _) (.bool _)⟩
theorem OP.typeStr : OP prog w B n (fun vs => call (.type "type") vs) [.d (.str x)] (.v (.type "str")) :=
  OP.of1 fun A s X Q E u R O y q => by cases y; exact call_type_of (typeIs_str s _ _) (by decide +kernel) (q _ _ _ (Ext.refl _) rfl)
theorem OP.isBytes : OP prog w B n (fun vs => call (.builtin "isinstance") vs) [.d (.str x), .v (.type "bytes")] (.d (.bool false)) :=
  OP.of2 fun A s X Q E u v R O y z q => by cases y; cases z; exact IsiPair.str_bytes (q _ _ _ (Ext.refl _) (.bool _))
theorem EV.tupleV (h : EVs prog w B n env nu es (us.map .v)) (he : noStar es = true) (hl : fewE es = true) : EV prog w B n env nu (.Tuple es kd pos) (.tv us) := by
  refine ⟨fun A s X Q E R O N q => ?_⟩
  refine wpAny_Tuple (h.spliced (noStar_all he) A s X _ E R O N fun vs h' tk' k y => ⟨by rw [y.length, ← h.length]; exact fewE_le hl, q _ _ _ (k.pushR _) ?_⟩)
  have := y.vals
  subst this
  exact ⟨_, rfl, (O.ext k).freshSize, IsTup.push_new _ _⟩
end
end Mine
end
section
open PySem PySem.W PyProof.Rows PySem.Calls
namespace Mine
section
variable {prog : Program} {w : World} {B : Heap} {mg mb : Str → Option Value} {n : Nat} {env : Env} {nu : List (Str × Res)} {pos : Pos}
theorem nm_ {x : Str} {a : Res} (h : EV prog w B n env nu (.Name x pos) a) : EV prog w B n env nu (.Name x pos) a := h
theorem op_ {f : List Value → Sem Value} {rs : List Res} {a : Res} (h : OP prog w B n f rs a) : OP prog w B n f rs a := h
theorem opb_ {o : Operator} {rs : List Res} {a : Res} (h : OP prog w B n (bin o) rs a) : OP prog w B n (bin o) rs a := h
theorem opc_ {o : CmpOp} {rs : List Res} {a : Res} (h : OP prog w B n (Mine.cmp o) rs a) : OP prog w B n (Mine.cmp o) rs a := h
theorem opi_ {rs : List Res} {a : Res} (h : OP prog w B n item rs a) : OP prog w B n item rs a := h
theorem tr_ {a : Res} {b : Bool} (h : TR prog w B n a b) : TR prog w B n a b := h
theorem tv_ {e : Expr} {b : Bool} (h : TV prog w B n env nu e b) : TV prog w B n env nu e b := h
theorem ev_ {e : Expr} {a : Res} (h : EV prog w B n env nu e a) : EV prog w B n env nu e a := h
theorem evs_ {es : List Expr} {rs : List Res} (h : EVs prog w B n env nu es rs) : EVs prog w B n env nu es rs := h
theorem callee_ {v : Value} (h : Callee B v) : Callee B v := h
theorem star_ {es : List Expr} (h : noStar es = true) : noStar es = true := h
theorem few_ {es : List Expr} (h : fewE es = true) : fewE es = true := h
theorem Cx.glob (C : Cx w B mg mb) {x : Str} {v : Value} (hv : nsIn (heapK w.params) mainGlobals x = some (some v)) (hg : env.globals = mainGlobals) (hk : env.kindOf x = some .globalImplicit) (hf : env.scope.kind = .function) (hd : (x == ("__debug__" : Str)) = false) : EV prog w B n env nu (.Name x pos) (.v v) :=
  EV.glob (hg ▸ C.g) (mg_of C.K C.g hv) hk hf hd
theorem Cx.built (C : Cx w B mg mb) {x : Str} {v : Value} (hv : nsIn (heapK w.params) mainGlobals x = some none) (hb : bootBuiltins x = some v) (hn : x ≠ "__name__") (hg : env.globals = mainGlobals) (hb' : env.builtins = builtinsNs) (hk : env.kindOf x = some .globalImplicit) (hf : env.scope.kind = .function) (hd : (x == ("__debug__" : Str)) = false) : EV prog w B n env nu (.Name x pos) (.v v) :=
  EV.built (hg ▸ C.g) (mg_none_of C.K C.g hv) (hb' ▸ C.b) ((C.bi _ hn).trans hb) hk hf hd
theorem bb_type : bootBuiltins "type" = some (.type "type") := by decide +kernel
theorem gl_type (C : Cx w B mg mb) (hg : env.globals = mainGlobals) (hb : env.builtins = builtinsNs) (hk : env.kindOf "type" = some .globalImplicit) (hf : env.scope.kind = .function) : EV prog w B n env nu (.Name "type" pos) (.v (.type "type")) := C.built rfl bb_type (by decide +kernel) hg hb hk hf (by decide +kernel)
theorem bb_str : bootBuiltins "str" = some (.type "str") := by decide +kernel
theorem gl_str (C : Cx w B mg mb) (hg : env.globals = mainGlobals) (hb : env.builtins = builtinsNs) (hk : env.kindOf "str" = some .globalImplicit) (hf : env.scope.kind = .function) : EV prog w B n env nu (.Name "str" pos) (.v (.type "str")) := C.built rfl bb_str (by decide +kernel) hg hb hk hf (by decide +kernel)
theorem bb_bytes : bootBuiltins "bytes" = some (.type "bytes") := by decide +kernel
theorem gl_bytes (C : Cx w B mg mb) (hg : env.globals = mainGlobals) (hb : env.builtins = builtinsNs) (hk : env.kindOf "bytes" = some .globalImplicit) (hf : env.scope.kind = .function) : EV prog w B n env nu (.Name "bytes" pos) (.v (.type "bytes")) := C.built rfl bb_bytes (by decide +kernel) hg hb hk hf (by decide +kernel)
theorem bb_issubclass : bootBuiltins "issubclass" = some (.builtin "issubclass") := by decide +kernel
theorem gl_issubclass (C : Cx w B mg mb) (hg : env.globals = mainGlobals) (hb : env.builtins = builtinsNs) (hk : env.kindOf "issubclass" = some .globalImplicit) (hf : env.scope.kind = .function) : EV prog w B n env nu (.Name "issubclass" pos) (.v (.builtin "issubclass")) := C.built rfl bb_issubclass (by decide +kernel) hg hb hk hf (by decide +kernel)
theorem bb_isinstance : bootBuiltins "isinstance" = some (.builtin "isinstance") := by decide +kernel
theorem gl_isinstance (C : Cx w B mg mb) (hg : env.globals = mainGlobals) (hb : env.builtins = builtinsNs) (hk : env.kindOf "isinstance" = some .globalImplicit) (hf : env.scope.kind = .function) : EV prog w B n env nu (.Name "isinstance" pos) (.v (.builtin "isinstance")) := C.built rfl bb_isinstance (by decide +kernel) hg hb hk hf (by decide +kernel)
theorem bb_len : bootBuiltins "len" = some (.builtin "len") := by decide +kernel
theorem gl_len (C : Cx w B mg mb) (hg : env.globals = mainGlobals) (hb : env.builtins = builtinsNs) (hk : env.kindOf "len" = some .globalImplicit) (hf : env.scope.kind = .function) : EV prog w B n env nu (.Name "len" pos) (.v (.builtin "len")) := C.built rfl bb_len (by decide +kernel) hg hb hk hf (by decide +kernel)
theorem bb_abs : bootBuiltins "abs" = some (.builtin "abs") := by decide +kernel
theorem gl_abs (C : Cx w B mg mb) (hg : env.globals = mainGlobals) (hb : env.builtins = builtinsNs) (hk : env.kindOf "abs" = some .globalImplicit) (hf : env.scope.kind = .function) : EV prog w B n env nu (.Name "abs" pos) (.v (.builtin "abs")) := C.built rfl bb_abs (by decide +kernel) hg hb hk hf (by decide +kernel)
theorem bb_max : bootBuiltins "max" = some (.builtin "max") := by decide +kernel
theorem gl_max (C : Cx w B mg mb) (hg : env.globals = mainGlobals) (hb : env.builtins = builtinsNs) (hk : env.kindOf "max" = some .globalImplicit) (hf : env.scope.kind = .function) : EV prog w B n env nu (.Name "max" pos) (.v (.builtin "max")) := C.built rfl bb_max (by decide +kernel) hg hb hk hf (by decide +kernel)
theorem bb_min : bootBuiltins "min" = some (.builtin "min") := by decide +kernel
theorem gl_min (C : Cx w B mg mb) (hg : env.globals = mainGlobals) (hb : env.builtins = builtinsNs) (hk : env.kindOf "min" = some .globalImplicit) (hf : env.scope.kind = .function) : EV prog w B n env nu (.Name "min" pos) (.v (.builtin "min")) := C.built rfl bb_min (by decide +kernel) hg hb hk hf (by decide +kernel)
theorem bb_range : bootBuiltins "range" = some (.type "range") := by decide +kernel
theorem gl_range (C : Cx w B mg mb) (hg : env.globals = mainGlobals) (hb : env.builtins = builtinsNs) (hk : env.kindOf "range" = some .globalImplicit) (hf : env.scope.kind = .function) : EV prog w B n env nu (.Name "range" pos) (.v (.type "range")) := C.built rfl bb_range (by decide +kernel) hg hb hk hf (by decide +kernel)
theorem bb_zip : bootBuiltins "zip" = some (.type "zip") := by decide +kernel
theorem gl_zip (C : Cx w B mg mb) (hg : env.globals = mainGlobals) (hb : env.builtins = builtinsNs) (hk : env.kindOf "zip" = some .globalImplicit) (hf : env.scope.kind = .function) : EV prog w B n env nu (.Name "zip" pos) (.v (.type "zip")) := C.built rfl bb_zip (by decide +kernel) hg hb hk hf (by decide +kernel)
theorem bb_enumerate : bootBuiltins "enumerate" = some (.type "enumerate") := by decide +kernel
theorem gl_enumerate (C : Cx w B mg mb) (hg : env.globals = mainGlobals) (hb : env.builtins = builtinsNs) (hk : env.kindOf "enumerate" = some .globalImplicit) (hf : env.scope.kind = .function) : EV prog w B n env nu (.Name "enumerate" pos) (.v (.type "enumerate")) := C.built rfl bb_enumerate (by decide +kernel) hg hb hk hf (by decide +kernel)
theorem bb_tuple : bootBuiltins "tuple" = some (.type "tuple") := by decide +kernel
theorem gl_tuple (C : Cx w B mg mb) (hg : env.globals = mainGlobals) (hb : env.builtins = builtinsNs) (hk : env.kindOf "tuple" = some .globalImplicit) (hf : env.scope.kind = .function) : EV prog w B n env nu (.Name "tuple" pos) (.v (.type "tuple")) := C.built rfl bb_tuple (by decide +kernel) hg hb hk hf (by decide +kernel)
theorem bb_map : bootBuiltins "map" = some (.type "map") := by decide +kernel
theorem gl_map (C : Cx w B mg mb) (hg : env.globals = mainGlobals) (hb : env.builtins = builtinsNs) (hk : env.kindOf "map" = some .globalImplicit) (hf : env.scope.kind = .function) : EV prog w B n env nu (.Name "map" pos) (.v (.type "map")) := C.built rfl bb_map (by decide +kernel) hg hb hk hf (by decide +kernel)
theorem bb_set : bootBuiltins "set" = some (.type "set") := by decide +kernel
theorem gl_set (C : Cx w B mg mb) (hg : env.globals = mainGlobals) (hb : env.builtins = builtinsNs) (hk : env.kindOf "set" = some .globalImplicit) (hf : env.scope.kind = .function) : EV prog w B n env nu (.Name "set" pos) (.v (.type "set")) := C.built rfl bb_set (by decide +kernel) hg hb hk hf (by decide +kernel)
theorem bb_repr : bootBuiltins "repr" = some (.builtin "repr") := by decide +kernel
theorem gl_repr (C : Cx w B mg mb) (hg : env.globals = mainGlobals) (hb : env.builtins = builtinsNs) (hk : env.kindOf "repr" = some .globalImplicit) (hf : env.scope.kind = .function) : EV prog w B n env nu (.Name "repr" pos) (.v (.builtin "repr")) := C.built rfl bb_repr (by decide +kernel) hg hb hk hf (by decide +kernel)
theorem gl_fspath (C : Cx w B mg mb) (hg : env.globals = mainGlobals) (hk : env.kindOf "fspath" = some .globalImplicit) (hf : env.scope.kind = .function) : EV prog w B n env nu (.Name "fspath" pos) (.v (.ref 94)) := C.glob rfl hg hk hf (by decide +kernel)
theorem gl__get_sep (C : Cx w B mg mb) (hg : env.globals = mainGlobals) (hk : env.kindOf "_get_sep" = some .globalImplicit) (hf : env.scope.kind = .function) : EV prog w B n env nu (.Name "_get_sep" pos) (.v (.ref 108)) := C.glob rfl hg hk hf (by decide +kernel)
theorem gl_join (C : Cx w B mg mb) (hg : env.globals = mainGlobals) (hk : env.kindOf "join" = some .globalImplicit) (hf : env.scope.kind = .function) : EV prog w B n env nu (.Name "join" pos) (.v (.ref 115)) := C.glob rfl hg hk hf (by decide +kernel)
theorem gl_splitroot (C : Cx w B mg mb) (hg : env.globals = mainGlobals) (hk : env.kindOf "splitroot" = some .globalImplicit) (hf : env.scope.kind = .function) : EV prog w B n env nu (.Name "splitroot" pos) (.v (.ref 122)) := C.glob rfl hg hk hf (by decide +kernel)
theorem gl_normpath_posixpath (C : Cx w B mg mb) (hg : env.globals = mainGlobals) (hk : env.kindOf "normpath_posixpath" = some .globalImplicit) (hf : env.scope.kind = .function) : EV prog w B n env nu (.Name "normpath_posixpath" pos) (.v (.ref 129)) := C.glob rfl hg hk hf (by decide +kernel)
theorem gl_commonpath (C : Cx w B mg mb) (hg : env.globals = mainGlobals) (hk : env.kindOf "commonpath" = some .globalImplicit) (hf : env.scope.kind = .function) : EV prog w B n env nu (.Name "commonpath" pos) (.v (.ref 134)) := C.glob rfl hg hk hf (by decide +kernel)
theorem gl__kind (C : Cx w B mg mb) (hg : env.globals = mainGlobals) (hk : env.kindOf "_kind" = some .globalImplicit) (hf : env.scope.kind = .function) : EV prog w B n env nu (.Name "_kind" pos) (.v (.ref 141)) := C.glob rfl hg hk hf (by decide +kernel)
theorem gl__c_path (C : Cx w B mg mb) (hg : env.globals = mainGlobals) (hk : env.kindOf "_c_path" = some .globalImplicit) (hf : env.scope.kind = .function) : EV prog w B n env nu (.Name "_c_path" pos) (.v (.ref 148)) := C.glob rfl hg hk hf (by decide +kernel)
theorem gl__shelf_fresh (C : Cx w B mg mb) (hg : env.globals = mainGlobals) (hk : env.kindOf "_shelf_fresh" = some .globalImplicit) (hf : env.scope.kind = .function) : EV prog w B n env nu (.Name "_shelf_fresh" pos) (.v (.ref 155)) := C.glob rfl hg hk hf (by decide +kernel)
theorem gl__splitroot (C : Cx w B mg mb) (hg : env.globals = mainGlobals) (hk : env.kindOf "_splitroot" = some .globalImplicit) (hf : env.scope.kind = .function) : EV prog w B n env nu (.Name "_splitroot" pos) (.v (.ref 162)) := C.glob rfl hg hk hf (by decide +kernel)
theorem gl__normpath (C : Cx w B mg mb) (hg : env.globals = mainGlobals) (hk : env.kindOf "_normpath" = some .globalImplicit) (hf : env.scope.kind = .function) : EV prog w B n env nu (.Name "_normpath" pos) (.v (.ref 169)) := C.glob rfl hg hk hf (by decide +kernel)
theorem gl_normpath_path (C : Cx w B mg mb) (hg : env.globals = mainGlobals) (hk : env.kindOf "normpath_path" = some .globalImplicit) (hf : env.scope.kind = .function) : EV prog w B n env nu (.Name "normpath_path" pos) (.v (.ref 176)) := C.glob rfl hg hk hf (by decide +kernel)
theorem gl__Ignore (C : Cx w B mg mb) (hg : env.globals = mainGlobals) (hk : env.kindOf "_Ignore" = some .globalImplicit) (hf : env.scope.kind = .function) : EV prog w B n env nu (.Name "_Ignore" pos) (.v (.ref 199)) := C.glob rfl hg hk hf (by decide +kernel)
theorem gl_S_IFMT (C : Cx w B mg mb) (hg : env.globals = mainGlobals) (hk : env.kindOf "S_IFMT" = some .globalImplicit) (hf : env.scope.kind = .function) : EV prog w B n env nu (.Name "S_IFMT" pos) (.v (.ref 210)) := C.glob rfl hg hk hf (by decide +kernel)
theorem gl_filemode (C : Cx w B mg mb) (hg : env.globals = mainGlobals) (hk : env.kindOf "filemode" = some .globalImplicit) (hf : env.scope.kind = .function) : EV prog w B n env nu (.Name "filemode" pos) (.v (.ref 250)) := C.glob rfl hg hk hf (by decide +kernel)
theorem gl__law_way (C : Cx w B mg mb) (hg : env.globals = mainGlobals) (hk : env.kindOf "_law_way" = some .globalImplicit) (hf : env.scope.kind = .function) : EV prog w B n env nu (.Name "_law_way" pos) (.v (.ref 257)) := C.glob rfl hg hk hf (by decide +kernel)
theorem gl__law_rows (C : Cx w B mg mb) (hg : env.globals = mainGlobals) (hk : env.kindOf "_law_rows" = some .globalImplicit) (hf : env.scope.kind = .function) : EV prog w B n env nu (.Name "_law_rows" pos) (.v (.ref 262)) := C.glob rfl hg hk hf (by decide +kernel)
theorem gl__law_listing (C : Cx w B mg mb) (hg : env.globals = mainGlobals) (hk : env.kindOf "_law_listing" = some .globalImplicit) (hf : env.scope.kind = .function) : EV prog w B n env nu (.Name "_law_listing" pos) (.v (.ref 269)) := C.glob rfl hg hk hf (by decide +kernel)
theorem gl__law_shared (C : Cx w B mg mb) (hg : env.globals = mainGlobals) (hk : env.kindOf "_law_shared" = some .globalImplicit) (hf : env.scope.kind = .function) : EV prog w B n env nu (.Name "_law_shared" pos) (.v (.ref 276)) := C.glob rfl hg hk hf (by decide +kernel)
theorem gl__law_met (C : Cx w B mg mb) (hg : env.globals = mainGlobals) (hk : env.kindOf "_law_met" = some .globalImplicit) (hf : env.scope.kind = .function) : EV prog w B n env nu (.Name "_law_met" pos) (.v (.ref 283)) := C.glob rfl hg hk hf (by decide +kernel)
theorem gl__law_dues (C : Cx w B mg mb) (hg : env.globals = mainGlobals) (hk : env.kindOf "_law_dues" = some .globalImplicit) (hf : env.scope.kind = .function) : EV prog w B n env nu (.Name "_law_dues" pos) (.v (.ref 288)) := C.glob rfl hg hk hf (by decide +kernel)
theorem gl__law_told (C : Cx w B mg mb) (hg : env.globals = mainGlobals) (hk : env.kindOf "_law_told" = some .globalImplicit) (hf : env.scope.kind = .function) : EV prog w B n env nu (.Name "_law_told" pos) (.v (.ref 293)) := C.glob rfl hg hk hf (by decide +kernel)
end
end Mine
end
section
open PySem PySem.W PyProof.Rows PySem.Calls
namespace Mine
section
variable {prog : Program} {w : World} {B : Heap} {n : Nat} {env : Env} {nu : List (Str × Res)} {e₁ e₂ : Expr} {a b c : Res} {pos px : Pos} {x y : Str} {Z : Addr → Prop} {st st' : St} {P : Fl → St → Prop} {rs : List Res} {t iter : Expr} {body orelse : List Stmt} {r : Res}
theorem EV.orX {tb : Bool} (h1 : EV prog w B n env nu e₁ a) (ht : TR prog w B n a tb) (h2 : tb = false → EV prog w B n env nu e₂ c) (hs : tb = true → a = c) : EV prog w B n env nu (.BoolOp .Or [e₁, e₂] pos) c := by
  refine ⟨fun A s X Q E R O N q => ?_⟩
  refine BoolOp_or (h1.run A s X _ E R O N fun v h₁ t₁ k₁ y₁ => ht.run A _ X _ E v R (O.ext k₁) y₁ fun h₂ t₂ k₂ => ?_)
  cases tb with
  | true => rw [if_pos rfl]; exact q _ _ _ (k₁.trans k₂) (hs rfl ▸ y₁.ext k₂)
  | false =>
    rw [if_neg (by simp)]
    exact BoolOp_one ((h2 rfl).run A _ X _ E R ((O.ext k₁).ext k₂) ((N.ext k₁).ext k₂) fun v h₃ t₃ k₃ y₃ => q _ _ _ ((k₁.trans k₂).trans k₃) y₃)
theorem EV.andX {tb : Bool} (h1 : EV prog w B n env nu e₁ a) (ht : TR prog w B n a tb) (h2 : tb = true → EV prog w B n env nu e₂ c) (hs : tb = false → a = c) : EV prog w B n env nu (.BoolOp .And [e₁, e₂] pos) c := by
  refine ⟨fun A s X Q E R O N q => ?_⟩
  refine BoolOp_and (h1.run A s X _ E R O N fun v h₁ t₁ k₁ y₁ => ht.run A _ X _ E v R (O.ext k₁) y₁ fun h₂ t₂ k₂ => ?_)
  cases tb with
  | false => rw [if_neg (by simp)]; exact q _ _ _ (k₁.trans k₂) (hs rfl ▸ y₁.ext k₂)
  | true =>
    rw [if_pos rfl]
    exact BoolOp_one ((h2 rfl).run A _ X _ E R ((O.ext k₁).ext k₂) ((N.ext k₁).ext k₂) fun v h₃ t₃ k₃ y₃ => q _ _ _ ((k₁.trans k₂).trans k₃) y₃)
theorem EV.orB {p q : Bool} (h1 : EV prog w B n env nu e₁ (.d (.bool p))) (h2 : EV prog w B n env nu e₂ (.d (.bool q))) : EV prog w B n env nu (.BoolOp .Or [e₁, e₂] pos) (.d (.bool (p || q))) := by
  refine EV.orX h1 TR.tbool (fun e => ?_) fun e => ?_
  · subst e; exact h2
  · subst e; rfl
theorem EV.andB {p q : Bool} (h1 : EV prog w B n env nu e₁ (.d (.bool p))) (h2 : EV prog w B n env nu e₂ (.d (.bool q))) : EV prog w B n env nu (.BoolOp .And [e₁, e₂] pos) (.d (.bool (p && q))) := by
  refine EV.andX h1 TR.tbool (fun e => ?_) fun e => ?_
  · subst e; exact h2
  · subst e; rfl
theorem EV.orS (h1 : EV prog w B n env nu e₁ (.d (.str x))) (h2 : EV prog w B n env nu e₂ (.d (.str y))) (hx : x.length ≤ sizeLine) : EV prog w B n env nu (.BoolOp .Or [e₁, e₂] pos) (.d (.str (if x.length = 0 then y else x))) := by
  refine EV.orX h1 (TR.tstr hx) (fun e => ?_) fun e => ?_
  · have : x.length = 0 := by simpa using e
    rw [if_pos this]; exact h2
  · have : x.length ≠ 0 := by simpa using e
    rw [if_neg this]
theorem OP.tis {T U : String} : OP prog w B n (Mine.cmp .Is) [.v (.type T), .v (.type U)] (.d (.bool ((Value.type T) == Value.type U))) :=
  OP.of2 fun A s X Q E u v R O y z q => by cases y; cases z; exact wpAny_is_plain rfl (q _ _ _ (Ext.refl _) (.bool _))
theorem AS.weaken {l : List (Str × Slot)} (hs : l.Sublist st.loc) (a : AS prog w B n env Z { st with loc := l } t r st') : AS prog w B n env Z st t r st' :=
  .mk fun A s X₀ O Q E v R F => a.run A s X₀ O Q E v R (F.weaken hs)
theorem SF.forE (base : Nat → List (Str × Slot)) (it : IT prog w B n env (keepN st.loc) t iter rs) (hZ : ∀ a, ¬ Z a) (h0 : (base 0).Sublist st.loc)
    (turn : ∀ i r, rs[i]? = some r → ∃ st₁, AS prog w B n env Z ⟨base i, st.ext⟩ t r st₁ ∧ SF prog w B n env Z st₁ (execs body env) (Turned (fun st'' => st''.ext = st.ext ∧ (base (i + 1)).Sublist st''.loc) P))
    (fin : SF prog w B n env Z ⟨base rs.length, st.ext⟩ (execs orelse env) P)
    (hs : ∀ x, foldedSetIterable iter env x = pure x := by intro _; rfl) : SF prog w B n env Z st (exec (.For t iter body orelse pos) env) P := by
  refine SF.for hZ (fun i st' => st'.ext = st.ext ∧ (base i).Sublist st'.loc) it ⟨rfl, h0⟩ (fun i r st' e hI => ?_) (fun st' hI => ?_) hs
  · obtain ⟨st₁, a, b⟩ := turn i r e
    exact ⟨st₁, AS.weaken hI.2 (by rw [hI.1]; exact a), b⟩
  · exact SF.weaken hI.2 (by rw [hI.1]; exact fin)
theorem Gives.eq {r r' : Res} {st : St} (h : r' = r) : Gives r (.ret r') st := h ▸ Gives.ret _ _
theorem TV.eq {e : Expr} {p q : Bool} (h : TV prog w B n env nu e p) (e' : p = q) : TV prog w B n env nu e q := e' ▸ h
theorem EV.eq {e : Expr} (h : EV prog w B n env nu e a) (e' : a = c) : EV prog w B n env nu e c := e' ▸ h
theorem OP.eq' {f : List Value → Sem Value} (h : OP prog w B n f rs a) (e' : a = c) : OP prog w B n f rs c := e' ▸ h
theorem TV.or2p {p q : Bool} (h₁ : TV prog w B n env nu e₁ p) (h₂ : TV prog w B n env nu e₂ q) : TV prog w B n env nu (.BoolOp .Or [e₁, e₂] pos) (p || q) := TV.or2 h₁ fun _ => h₂
theorem TV.and2p {p q : Bool} (h₁ : TV prog w B n env nu e₁ p) (h₂ : TV prog w B n env nu e₂ q) : TV prog w B n env nu (.BoolOp .And [e₁, e₂] pos) (p && q) := TV.and2 h₁ fun _ => h₂
section
variable {l loc' : List (Str × Slot)} {xt : Heap → Prop} {e : Expr} {ap cp lp : Pos} {ds : List PyData} {d : PyData}
theorem SF.assignL (he : EV prog w B n env (keepN l) e r) (hk : Sto env x) (up : Upd l x (.r r) loc') (p : P .next ⟨loc', xt⟩)
    (hs : swapsWith e (some (.Name x px)) pos.line env = pure false := by rfl) : SF prog w B n env Z ⟨l, xt⟩ (exec (.Assign [.Name x px] e pos) env) P := SF.assign he hk up p hs
theorem SF.assignBL (he : EV prog w B n env (allN l) e r) (hr : Scal r) (hk : Sto env x) (up : Upd l x (.r r) loc') (p : P .next ⟨loc', xt⟩)
    (hs : swapsWith e (some (.Name x px)) pos.line env = pure false := by rfl) : SF prog w B n env Z ⟨l, xt⟩ (exec (.Assign [.Name x px] e pos) env) P := SF.assignB he hr hk up p hs
theorem SF.ownL (hk : Sto env x) (up : Upd l x (.own []) loc') (p : P .next ⟨loc', xt⟩) : SF prog w B n env Z ⟨l, xt⟩ (exec (.Assign [.Name x px] (.List [] lp) pos) env) P := SF.own hk up p
theorem SF.appendL (hx : (x, Slot.own ds) ∈ l) (he : EV prog w B n env (keepN l) e (.d d)) (up : Upd l x (.own (ds ++ [d])) loc') (hl : ds.length ≤ sizeLine) (p : P .next ⟨loc', xt⟩)
    (hd : (x == ("__debug__" : Str)) = false := by decide +kernel) (hs : isStarred e = false := by rfl) (hline : (ap.endLine == cp.line) = true := by rfl) (hi : interactive env = false := by rfl) (hw : swapsWith (.Call (.Attribute (.Name x px) "append" ap) [e] [] cp) none pos.line env = pure false := by rfl) :
    SF prog w B n env Z ⟨l, xt⟩ (exec (.Expr (.Call (.Attribute (.Name x px) "append" ap) [e] [] cp) pos) env) P := SF.append hx he up hl p hd hs hline hi hw
theorem SF.popL (hx : (x, Slot.own (ds ++ [d])) ∈ l) (up : Upd l x (.own ds) loc') (hl : ds.length < sizeLine) (p : P .next ⟨loc', xt⟩)
    (hd : (x == ("__debug__" : Str)) = false := by decide +kernel) (hline : (ap.endLine == cp.line) = true := by rfl) (hi : interactive env = false := by rfl) (hw : swapsWith (.Call (.Attribute (.Name x px) "pop" ap) [] [] cp) none pos.line env = pure false := by rfl) :
    SF prog w B n env Z ⟨l, xt⟩ (exec (.Expr (.Call (.Attribute (.Name x px) "pop" ap) [] [] cp) pos) env) P := SF.pop hx up hl p hd hline hi hw
theorem SF.freezeL {t : Sem Flow} (hx : (x, Slot.own ds) ∈ l) (up : Upd l x (.r (.d (.list ds))) loc') (a : SF prog w B n env Z ⟨loc', xt⟩ t P) : SF prog w B n env Z ⟨l, xt⟩ t P := SF.freeze hx up a
theorem AS.nameL (hk : Sto env x) (up : Upd l x (.r r) loc') : AS prog w B n env Z ⟨l, xt⟩ (.Name x px) r ⟨loc', xt⟩ := AS.name hk up
theorem AS.tupleL {xs : List (Str × Pos)} {kd : Nat} (u : Upds l xs ds loc') (hk : ∀ p ∈ xs, Sto env p.1) : AS prog w B n env Z ⟨l, xt⟩ (.Tuple (xs.map fun p => .Name p.1 p.2) kd px) (.d (.tuple ds)) ⟨loc', xt⟩ := AS.tuple u hk
theorem SF.assignTupleL {elts : List Expr} {kd : Nat} (he : EV prog w B n env (keepN l) e r) (a : AS prog w B n env Z ⟨l, xt⟩ (.Tuple elts kd px) r ⟨loc', xt⟩) (p : P .next ⟨loc', xt⟩)
    (hs : swapsWithSole [.Tuple elts kd px] e pos.line env = pure false := by rfl) (hw : swappedStores [.Tuple elts kd px] e env = pure none := by rfl) : SF prog w B n env Z ⟨l, xt⟩ (exec (.Assign [.Tuple elts kd px] e pos) env) P := SF.assignTuple he a p hs hw
theorem SF.forL (base : Nat → List (Str × Slot)) (it : IT prog w B n env (keepN l) t iter rs) (hZ : ∀ a, ¬ Z a) (h0 : (base 0).Sublist l)
    (turn : ∀ i r, rs[i]? = some r → ∃ st₁, AS prog w B n env Z ⟨base i, xt⟩ t r st₁ ∧ SF prog w B n env Z st₁ (execs body env) (Turned (fun st'' => st''.ext = xt ∧ (base (i + 1)).Sublist st''.loc) P))
    (fin : SF prog w B n env Z ⟨base rs.length, xt⟩ (execs orelse env) P)
    (hs : ∀ x, foldedSetIterable iter env x = pure x := by intro _; rfl) : SF prog w B n env Z ⟨l, xt⟩ (exec (.For t iter body orelse pos) env) P := SF.forE base it hZ h0 turn fin hs
end
end
end Mine
end
section
open PySem PySem.W PyProof.Rows PySem.Calls
namespace Mine
section
variable (prog : Program) (w : World) (B : Heap)
inductive EVds (n : Nat) (env : Env) (nu : List (Str × Res)) : List Expr → List PyData → Prop
  | nil : EVds n env nu [] []
  | cons {e : Expr} {es : List Expr} {d : PyData} {ds : List PyData} : EV prog w B n env nu e (.d d) → EVds n env nu es ds → EVds n env nu (e :: es) (d :: ds)
end
section
variable {prog : Program} {w : World} {B : Heap} {n : Nat} {env : Env} {nu : List (Str × Res)} {es : List Expr} {ds : List PyData} {pos : Pos} {kd : Nat}
theorem EVds.all (h : EVds prog w B n env nu es ds) : EVs prog w B n env nu es (ds.map .d) := by
  induction h with
  | nil => exact .nil
  | cons a _ ih => exact .cons a ih
theorem EV.listD (h : EVds prog w B n env nu es ds) (he : noStar es = true) (hl : fewE es = true) : EV prog w B n env nu (.List es pos) (.d (.list ds)) := EV.list h.all he hl
theorem EV.tupleD (h : EVds prog w B n env nu es ds) (he : noStar es = true) (hl : fewE es = true) : EV prog w B n env nu (.Tuple es kd pos) (.d (.tuple ds)) := EV.tuple h.all he hl
theorem allN_sub {l l' : List (Str × Slot)} (h : l.Sublist l') : ∀ p ∈ allN l, p ∈ allN l' := fun p hp => by
  obtain ⟨q, hq, e⟩ := List.mem_map.mp hp
  exact List.mem_map.mpr ⟨q, h.subset hq, e⟩
theorem TV.more {nu' : List (Str × Res)} {e : Expr} {b : Bool} (h : TV prog w B n env nu e b) (hs : ∀ p ∈ nu, p ∈ nu') : TV prog w B n env nu' e b := .mk fun A s X Q E R O N => h.run A s X Q E R O fun p hp => N p (hs p hp)
theorem SF.whileL {Z : Addr → Prop} {l : List (Str × Slot)} {xt : Heap → Prop} {test : Expr} {body orelse : List Stmt} {P : Fl → St → Prop} (Inv : Nat → List (Str × Slot) → Prop) (n0 : Nat) (h0 : Inv n0 l)
    (turn : ∀ j l, Inv j l → ∃ b, TV prog w B n env (allN l) test b ∧ (b = true → SF prog w B n env Z ⟨l, xt⟩ (execs body env) (Turned (fun st'' => ∃ m, m < j ∧ st''.ext = xt ∧ ∃ l', l'.Sublist st''.loc ∧ Inv m l') P)) ∧ (b = false → SF prog w B n env Z ⟨l, xt⟩ (execs orelse env) P)) :
    SF prog w B n env Z ⟨l, xt⟩ (exec (.While test body orelse pos) env) P := by
  refine SF.while (fun j st' => st'.ext = xt ∧ ∃ l', l'.Sublist st'.loc ∧ Inv j l') n0 ⟨rfl, l, List.Sublist.refl _, h0⟩ fun j st' ⟨e, l', hs, hI⟩ => ?_
  obtain ⟨b, h1, h2, h3⟩ := turn j l' hI
  subst e
  exact ⟨b, h1.more (allN_sub hs), fun hb => SF.weaken hs (h2 hb), fun hb => SF.weaken hs (h3 hb)⟩
theorem fmod_nat (a b : Nat) : (a : Int).fmod (b : Int) = ((a % b : Nat) : Int) := by rw [Int.fmod_eq_emod_of_nonneg _ (Int.natCast_nonneg b)]; rfl
theorem fdiv_nat (a b : Nat) : (a : Int).fdiv (b : Int) = ((a / b : Nat) : Int) := by rw [Int.fdiv_eq_ediv_of_nonneg _ (Int.natCast_nonneg b)]; rfl
end
theorem keepN_mem {l : List (Str × Slot)} {x : Str} {r : Res} (h : l.lookup x = some (.r r)) : (x, r) ∈ keepN l := by
  have hm : (x, Slot.r r) ∈ l := by
    induction l with
    | nil => cases h
    | cons p q ih =>
      obtain ⟨y, b⟩ := p
      rw [List.lookup_cons] at h
      cases g : x == y with
      | true => rw [g] at h; cases h; rw [beq_iff_eq.mp g]; exact .head _
      | false => rw [g] at h; exact .tail _ (ih h)
  exact List.mem_filterMap.mpr ⟨_, hm, rfl⟩
theorem SF.augL {prog : Program} {w : World} {B : Heap} {n : Nat} {env : Env} {Z : Addr → Prop} {l loc' : List (Str × Slot)} {xt : Heap → Prop} {e : Expr} {px pos : Pos} {x a b : Str} {P : Fl → St → Prop} (hx : l.lookup x = some (.r (.d (.str a)))) (he : EV prog w B n env (keepN l) e (.d (.str b))) (hl : a.length + b.length ≤ sizeLine) (hk : Sto env x) (up : Upd l x (.r (.d (.str (a ++ b)))) loc')
    (p : P .next ⟨loc', xt⟩) : SF prog w B n env Z ⟨l, xt⟩ (exec (.AugAssign (.Name x px) .Add e pos) env) P := SF.augStr (keepN_mem hx) he hl hk up p
theorem OP.lastItem {prog : Program} {w : World} {B : Heap} {n : Nat} {ds : List PyData} {d : PyData} (h : ds.length ≤ sizeLine) : OP prog w B n item [.d (.list (ds ++ [d])), .d (.int (-1))] (.d d) := by
  rw [sizeLine_eq] at h
  refine OP.litemNeg (by decide) (by rw [List.length_append, List.length_singleton]; omega) (by decide) ?_
  have e : ((-1 : Int) + ((ds ++ [d]).length : Int)).toNat = ds.length := by simp; omega
  rw [e]; simp
theorem nil_or_snoc {α : Type} (l : List α) : l = [] ∨ ∃ r d, l = r ++ [d] := by
  rcases List.eq_nil_or_concat l with h | ⟨r, d, h⟩
  · exact .inl h
  · exact .inr ⟨r, d, by rw [h, List.concat_eq_append]⟩
theorem split_count {x y : Str} : (Txt.split x y).length ≤ x.length + 2 := by
  unfold Txt.split
  split
  · simp
  · split
    · simp
    · rw [len_partsBetween]
      have := StrLaws.occ_length_le x y 0 x.length (x.length + 1)
      omega
theorem split_le {x y z : Str} (h : z ∈ Txt.split x y) : z.length ≤ x.length := by
  unfold Txt.split at h
  split at h
  · rw [List.mem_singleton.mp h]; exact Nat.le_refl _
  · split at h
    · rw [List.mem_singleton.mp h]; exact Nat.le_refl _
    · unfold Builtin.Str.partsBetween at h
      obtain ⟨p, _, rfl⟩ := List.mem_map.mp h
      exact strSub_length_le _ _ _
noncomputable def stepC (acc : List Str) (c : Str) : List Str := if c.length = 0 ∨ c = "." then acc else if c ≠ ".." ∨ acc.getLast? = some ".." then acc ++ [c] else acc.dropLast
noncomputable def normComps (l : List Str) : List Str := l.foldl stepC []
theorem normComps_snoc {l : List Str} {i : Nat} {c : Str} (h : l[i]? = some c) : normComps (l.take (i + 1)) = stepC (normComps (l.take i)) c := by
  unfold normComps
  rw [List.take_add_one, h]
  simp [List.foldl_append]
theorem stepC_mem {acc : List Str} {c z : Str} (h : z ∈ stepC acc c) : z ∈ acc ∨ z = c := by
  unfold stepC at h
  split at h
  · exact .inl h
  · split at h
    · rcases List.mem_append.mp h with h | h
      · exact .inl h
      · exact .inr (List.mem_singleton.mp h)
    · exact .inl (List.dropLast_subset _ h)
theorem stepC_len {acc : List Str} {c : Str} : (stepC acc c).length ≤ acc.length + 1 := by
  unfold stepC
  split
  · omega
  · split
    · simp
    · simp; omega
theorem foldl_mem {l acc : List Str} {z : Str} (h : z ∈ l.foldl stepC acc) : z ∈ acc ∨ z ∈ l := by
  induction l generalizing acc with
  | nil => exact .inl h
  | cons c l ih =>
    rcases ih h with h | h
    · rcases stepC_mem h with h | h
      · exact .inl h
      · exact .inr (h ▸ .head _)
    · exact .inr (.tail _ h)
theorem foldl_len {l acc : List Str} : (l.foldl stepC acc).length ≤ acc.length + l.length := by
  induction l generalizing acc with
  | nil => simp
  | cons c l ih =>
    have h1 := ih (acc := stepC acc c)
    have h2 := stepC_len (acc := acc) (c := c)
    simp only [List.foldl_cons, List.length_cons]
    omega
theorem sum_le {l : List Nat} {k : Nat} (h : ∀ x ∈ l, x ≤ k) : l.sum ≤ l.length * k := by
  induction l with
  | nil => simp
  | cons x l ih =>
    have h1 := h x (.head _)
    have h2 := ih fun y hy => h y (.tail _ hy)
    rw [List.sum_cons, List.length_cons, Nat.add_mul]
    omega
theorem joinOk_short {l : List Str} {sep : Str} (h : ∀ x ∈ l, x.length ≤ 1000) (hl : l.length ≤ 1002) (hs : sep.length ≤ 16) : JoinOk sep l = true := by
  refine joinOk_of_weight ?_ hs
  have h1 := sum_le (l := l.map (·.length)) (k := 1000) fun x hx => by
    obtain ⟨y, hy, rfl⟩ := List.mem_map.mp hx
    exact h y hy
  rw [List.length_map] at h1
  have h2 : l.length * 1000 ≤ 1002 * 1000 := Nat.mul_le_mul_right _ hl
  omega
theorem join_short {l : List Str} {sep : Str} (h : ∀ x ∈ l, x.length ≤ 1000) (hl : l.length ≤ 1002) (hs : sep.length ≤ 16) : (Str.join sep l).length ≤ 1100000 := by
  have h0 := StrLaws.join_length_le sep l
  have h1 := sum_le (l := l.map (·.length)) (k := 1000) fun x hx => by
    obtain ⟨y, hy, rfl⟩ := List.mem_map.mp hx
    exact h y hy
  rw [List.length_map] at h1
  have h2 : l.length * 1000 ≤ 1002 * 1000 := Nat.mul_le_mul_right _ hl
  have h3 : l.length * sep.length ≤ 1002 * 16 := Nat.mul_le_mul hl hs
  omega
theorem normComps_all {x : Str} (hx : x.length ≤ 1000) : (∀ z ∈ normComps (Txt.split x "/"), z.length ≤ 1000) ∧ (normComps (Txt.split x "/")).length ≤ 1002 := by
  refine ⟨fun z hz => ?_, ?_⟩
  · rcases foldl_mem hz with h | h
    · cases h
    · exact Nat.le_trans (split_le h) hx
  · have h1 := foldl_len (l := Txt.split x "/") (acc := [])
    have h2 := split_count (x := x) (y := "/")
    simp only [List.length_nil] at h1
    show (List.foldl stepC [] (Txt.split x "/")).length ≤ 1002
    omega
theorem normComps_ok {x sep : Str} (hx : x.length ≤ 1000) (hs : sep.length ≤ 16) : JoinOk sep (normComps (Txt.split x "/")) = true := by
  refine joinOk_short (fun z hz => ?_) ?_ hs
  · rcases foldl_mem hz with h | h
    · cases h
    · exact Nat.le_trans (split_le h) hx
  · have h1 := foldl_len (l := Txt.split x "/") (acc := [])
    have h2 := split_count (x := x) (y := "/")
    simp only [List.length_nil] at h1
    show (List.foldl stepC [] (Txt.split x "/")).length ≤ 1002
    omega
end Mine
end
section
open PySem PySem.W PyProof.Rows PySem.Calls
namespace Mine
theorem Rd.is_tuple {h : Heap} {X : Addr → Prop} {a : Addr} {vs : List Value} {ds : List PyData} (nx : ¬ X a) (g : h.get? a = some { cls := .type "tuple", data := .seq vs.toArray }) (r : RdAll h X vs ds) : Rd h X (.ref a) (.tuple ds) := Rd.of_tuple nx ⟨0, g⟩ r
section
variable (prog : Program) (w : World) (B : Heap)
structure IOP (n : Nat) (t : Expr) (f : List Value → Sem Value) (rs rs' : List Res) : Prop where
  run : ∀ (A : Around) (s : Shared) (X : Addr → Prop) (Q : Value → Shared → Prop) (E : Value → Shared → Prop) (vs : List Value), Room n A → OkH B s.heap X → RVs s.heap X vs rs →
    (∀ h' tk' I fp wr S, Ext s.heap h' → ItOK prog w A h' X t I fp wr S rs' → S 0 h' → (∀ b ∈ wr, s.heap.get? b = none ∧ ∃ o, h'.get? b = some o) → Q (.ref I) { s with heap := h', toks := tk' }) →
    wpAny (model prog w) A (f vs) (fun x s₁ => wpAny (model prog w) A (pyIter x) Q E s₁) E s
end
section
variable {prog : Program} {w : World} {B : Heap} {n : Nat} {env : Env} {nu : List (Str × Res)} {t e : Expr} {a : Res} {ds es : List PyData} {rs rs' : List Res} {pos : Pos}
theorem callWith_any {f : Value} {es : List Expr} {rs : List Res} (hk : Callee B f) (h : EVs prog w B n env nu es rs) (he : ∀ e ∈ es, isStarred e = false) (A : Around) (s : Shared) (X : Addr → Prop) (Q : Value → Shared → Prop) (E : Value → Shared → Prop)
    (R : Room n A) (O : OkH B s.heap X) (N : Nm env s.heap X nu) (main : ∀ vs h' tk', Ext s.heap h' → RVs h' X vs rs → wpAny (model prog w) A (call f vs) Q E { s with heap := h', toks := tk' }) :
    wpAny (model prog w) A (callWith pos f [] (backTo pos (starEach es env)) []) Q E s := by
  cases hk with
  | builtin id => exact callWith_builtin (any_starEach he) (evalArgs_of h he A s X _ E R O N main)
  | type T => exact PyProof.Rows.callWith_type (any_starEach he) (evalArgs_of h he A s X _ E R O N main)
  | fn g d => exact callWith_function (o := _) (fd := _) (evalArgs_of h he A s X _ E R O N fun vs h' tk' k y => ⟨⟨k _ _ (O.base _ _ g), d⟩, main vs h' tk' k y⟩)
theorem IT.call {f : Str} {fp : Pos} {fv : Value} {es : List Expr} {rs : List Res} (hf : EV prog w B n env nu (.Name f fp) (.v fv)) (hk : Callee B fv) (h : EVs prog w B n env nu es rs) (ho : IOP prog w B n t (fun vs => call fv vs) rs rs')
    (he : noStar es = true) : IT prog w B n env nu t (.Call (.Name f fp) es [] pos) rs' := by
  refine ⟨fun A s X Q E R O N q => ?_⟩
  refine Call_ (hf.run A s X _ E R O N fun u h₁ t₁ k₁ y₁ => ?_)
  cases y₁
  refine callWith_any hk h (noStar_all he) A _ X _ E R (O.ext k₁) (N.ext k₁) fun vs h₂ t₂ k₂ y₂ => ?_
  refine ho.run A _ X Q E vs R ((O.ext k₁).ext k₂) y₂ fun h' tk' I fp wr S k ok hS fresh => q h' tk' I fp wr S ((k₁.trans k₂).trans k) ok hS fun b hb => ⟨?_, (fresh b hb).2⟩
  have := (fresh b hb).1
  cases g : s.heap.get? b with
  | none => rfl
  | some o => rw [show (_ : Heap).get? b = some o from k₂ _ _ (k₁ _ _ g)] at this; cases this
theorem fresh_of {h₀ h : Heap} (k : Ext h₀ h) {b : Addr} (e : h.get? b = none) : h₀.get? b = none := by
  cases g : h₀.get? b with
  | none => rfl
  | some o => rw [k _ _ g] at e; cases e
theorem get_none_of_le {h : Heap} {b : Addr} (e : h.objs.size ≤ b) : h.get? b = none := by
  cases g : h.get? b with
  | none => rfl
  | some o => exact absurd (Heap.lt_size g) (Nat.not_lt.mpr e)
theorem ItOK.range {A : Around} {h₁ : Heap} {X : Addr → Prop} {I : Addr} (hh : A.handled = none) (k : Nat) :
    ItOK prog w A h₁ X t I [I] [I] (fun i h => IsRangeIter h I (0 + (i : Nat) * 1) ((k : Int) - (i : Nat)) 1) (upto k) := by
  have W := Walks.range (prog := prog) (w := w) hh I 0 1 k
  refine ⟨W.sub, fun b hb => .inl hb, fun i h st b hb => ?_, W.frame, fun i r s X' Q E hr st hk hX q => ?_, fun s Q E st q => W.done s Q E ?_ q, W.self⟩
  · rw [List.mem_singleton.mp hb]; exact ⟨_, st⟩
  · obtain ⟨hi, rfl⟩ : i < k ∧ r = .d (.int (i : Nat)) := by
      unfold upto at hr
      rw [List.getElem?_map, Option.map_eq_some_iff] at hr
      obtain ⟨j, hj, e⟩ := hr
      obtain ⟨h1, h2⟩ := List.getElem?_eq_some_iff.mp hj
      rw [List.length_range] at h1
      rw [List.getElem_range] at h2
      subst h2
      exact ⟨h1, e.symm⟩
    refine W.item i s _ E hi st fun v h' tk hv st' hk' => ⟨v, rfl, ?_⟩
    obtain ⟨tt, rfl⟩ := hv
    refine letGo_plain st' rfl (by decide) (q _ h' tk ?_ st' hk')
    have e1 : (0 : Int) + (i : Nat) * 1 = (i : Nat) := by omega
    rw [e1]
    exact .int _ _
  · simpa [upto] using st
theorem IOP.range {k : Nat} (hk : k < 1000000) : IOP prog w B n t (fun vs => call (.type "range") vs) [.d (.int (k : Nat))] (upto k) := by
  refine ⟨fun A s X Q E vs R O y q => ?_⟩
  cases y with
  | cons y1 y2 =>
    cases y2
    cases y1
    rename_i tt
    refine call_range_1 (wpAny_pyIter_range (IsRange.new ..) (small_one (by decide) (by decide) (by omega) (by omega)) ?_)
    have k1 : Ext s.heap (s.heap.push { cls := .type "range", data := .fields #[.int 0 s.toks, .int k tt, .int 1 (s.toks + 1)] }) := Ext.push _ _
    generalize s.heap.push { cls := .type "range", data := .fields #[.int 0 s.toks, .int k tt, .int 1 (s.toks + 1)] } = h₁ at k1
    have e : Builtin.Range.rangeSize 0 (k : Nat) 1 = (k : Int) := by rw [rangeSize_one]; split <;> omega
    rw [e]
    have g := Heap.get?_push_size h₁ (o := { cls := .type "range_iterator", data := .fields #[rawInt 0, rawInt k, rawInt 1] }) rfl
    refine q _ _ h₁.objs.size _ _ _ (k1.pushR _) (ItOK.range R.handled k) ?_ fun b hb => ?_
    · show IsRangeIter _ _ (0 + ((0 : Nat) : Int) * 1) ((k : Int) - ((0 : Nat) : Int)) 1
      simpa using g
    · rw [List.mem_singleton.mp hb]
      exact ⟨fresh_of k1 (get_size_none _), _, g⟩
theorem ItOK.zip {A : Around} {h₀ h₁ : Heap} {X : Addr → Prop} {z TI TO i1 i2 l1 l2 : Addr} {elts : List Expr} {kt : Nat} {pt : Pos} {us vs : List Value} (hh : A.handled = none) (D : ZipApart z TI TO i1 i2 l1 l2) (n1 : ¬ X l1) (n2 : ¬ X l2)
    (hTI : IsPair h₁ TI (.ref i1) (.ref i2)) (nTI : ¬ X TI) (k₀ : Ext h₀ h₁) (new : ∀ b ∈ [z, TO, i1, i2], h₀.get? b = none)
    (g1 : h₀.IsList l1 us.toArray) (g2 : h₀.IsList l2 vs.toArray) (r1 : RdAll h₀ X us ds) (r2 : RdAll h₀ X vs es) :
    ItOK prog w A h₁ X (.Tuple elts kt pt) z [z, TI, TO, i1, i2, l1, l2] [z, TO, i1, i2]
      (fun i h => IsZip h z TI TO .none ∧ IsPair h TI (.ref i1) (.ref i2) ∧ (∃ a b, IsPair h TO a b) ∧ h.IsListIter i1 l1 i ∧ h.IsListIter i2 l2 i ∧ h.IsList l1 us.toArray ∧ h.IsList l2 vs.toArray)
      ((ds.zip es).map fun p => .d (.tuple [p.1, p.2])) := by
  have W := WalksT.zip2 (prog := prog) (w := w) hh z TI TO i1 i2 l1 l2 D us.toArray vs.toArray
  have e1 := r1.length
  have e2 := r2.length
  refine ⟨W.sub, fun b hb => ?_, fun i h st b hb => ?_, W.frame, fun i r s X' Q E hr st hk hX q => ?_, fun s Q E st q => W.done s Q E ?_ q, W.self⟩
  · simp only [List.mem_cons, List.not_mem_nil, or_false] at hb ⊢
    rcases hb with rfl | rfl | rfl | rfl | rfl | rfl | rfl
    · exact .inl (.inl rfl)
    · exact .inr ⟨nTI, _, hTI⟩
    · exact .inl (.inr (.inl rfl))
    · exact .inl (.inr (.inr (.inl rfl)))
    · exact .inl (.inr (.inr (.inr rfl)))
    · obtain ⟨o, g, _⟩ := g1; exact .inr ⟨n1, o, k₀ _ _ g⟩
    · obtain ⟨o, g, _⟩ := g2; exact .inr ⟨n2, o, k₀ _ _ g⟩
  · obtain ⟨hz, _, ⟨_, _, hTO⟩, ⟨o1, k1, _⟩, ⟨o2, k2, _⟩, _⟩ := st
    simp only [List.mem_cons, List.not_mem_nil, or_false] at hb
    rcases hb with rfl | rfl | rfl | rfl
    · exact ⟨_, hz⟩
    · exact ⟨_, hTO⟩
    · exact ⟨_, k1⟩
    · exact ⟨_, k2⟩
  · obtain ⟨hz, hTI', ⟨a, b, hTO⟩, h1, h2, hl1, hl2⟩ := st
    rw [List.getElem?_map, Option.map_eq_some_iff] at hr
    obtain ⟨⟨d, e⟩, hde, rfl⟩ := hr
    rw [List.getElem?_zip_eq_some] at hde
    obtain ⟨hd, he⟩ := hde
    obtain ⟨u, hu, ru⟩ := r1.get hd
    obtain ⟨v, hv, rv⟩ := r2.get he
    refine wpAny_pyNext_zip_item D hz hTI' hTO h1 h2 hl1 hl2 (x := u) (y := v) (by simpa using hu) (by simpa using hv) fun h' a1 a2 a3 a4 a5 a6 hk' => ⟨_, rfl, ?_⟩
    have lt : ∀ {c o}, s.heap.get? c = some o → s.heap.objs.size ≠ c := fun e => Nat.ne_of_gt (Heap.lt_size e)
    refine wpAny_letOwnedTupleGo_zip a1 fun h'' hz' hs' => ?_
    have keep : ∀ c o, c ∉ [z, TO, i1, i2] → s.heap.get? c = some o → h''.get? c = some o := fun c o hc e =>
      hs'.extBut _ _ (fun x => hc (by simp [x])) (hk' c o (fun x => hc (by simp [x])) (fun x => hc (by simp [x])) (fun x => hc (by simp [x])) (fun x => hc (by simp [x])) e)
    have up : ∀ b o, ¬ X b → h₀.get? b = some o → h''.get? b = some o ∧ ¬ X' b := fun b o nb e => by
      have nw : b ∉ [z, TO, i1, i2] := fun hb => by rw [new b hb] at e; cases e
      obtain ⟨e', nb'⟩ := hk b o nb nw (k₀ _ _ e)
      exact ⟨keep b o nw e', nb'⟩
    have nT : ¬ X' s.heap.objs.size := fun hx => by obtain ⟨o, g⟩ := hX _ hx; exact Nat.lt_irrefl _ (Heap.lt_size g)
    refine q _ h'' _ ?_ ⟨hz', keep _ _ ?_ hTI', ⟨_, _, hs'.extBut _ _ D.TOz a2⟩, a3.extBut hs'.extBut D.i1z, a4.extBut hs'.extBut D.i2z, hl1.at fun o e => keep _ o ?_ e, hl2.at fun o e => keep _ o ?_ e⟩ keep
    · have g5 : h''.get? s.heap.objs.size = some { cls := .type "tuple", data := .seq [u, v].toArray } := hs'.extBut _ _ (lt hz) a5
      refine Rd.is_tuple nT g5 (.cons ?_ (.cons ?_ .nil))
      · exact Rd.up up ru
      · exact Rd.up up rv
    · simp only [List.mem_cons, List.not_mem_nil, or_false, not_or]; exact ⟨D.TIz, D.TITO, D.TIi1, D.TIi2⟩
    · simp only [List.mem_cons, List.not_mem_nil, or_false, not_or]; exact ⟨D.l1z, D.l1TO, D.l1i1, D.l1i2⟩
    · simp only [List.mem_cons, List.not_mem_nil, or_false, not_or]; exact ⟨D.l2z, D.l2TO, D.l2i1, D.l2i2⟩
  · have : ((ds.zip es).map fun p => Res.d (.tuple [p.1, p.2])).length = min us.toArray.size vs.toArray.size := by simp [e1, e2]
    rwa [this] at st
theorem IOP.zip {elts : List Expr} {kt : Nat} {pt : Pos} : IOP prog w B n (.Tuple elts kt pt) (fun vs => call (.type "zip") vs) [.d (.list ds), .d (.list es)] ((ds.zip es).map fun p => .d (.tuple [p.1, p.2])) := by
  refine ⟨fun A s X Q E vs R O y q => ?_⟩
  cases y with
  | cons y1 y2 =>
    cases y2 with
    | cons y2 y3 =>
      cases y3
      obtain ⟨l1, us, rfl, n1, g1, r1⟩ := Rd.list_inv y1
      obtain ⟨l2, vs, rfl, n2, g2, r2⟩ := Rd.list_inv y2
      have a1 : l1 < s.heap.objs.size := by obtain ⟨_, e, _⟩ := g1; exact Heap.lt_size e
      have a2 : l2 < s.heap.objs.size := by obtain ⟨_, e, _⟩ := g2; exact Heap.lt_size e
      refine call_zip_2 g1 g2 fun h' hz hTI hTO hi1 hi2 hsz hk => ?_
      refine wpAny_pyIter_zip hz ?_
      have new : ∀ b ∈ [s.heap.objs.size + 4, s.heap.objs.size + 3, s.heap.objs.size, s.heap.objs.size + 1], s.heap.get? b = none := fun b hb => by
        refine get_none_of_le ?_
        simp only [List.mem_cons, List.not_mem_nil, or_false] at hb
        rcases hb with rfl | rfl | rfl | rfl
        · exact Nat.le_add_right _ _
        · exact Nat.le_add_right _ _
        · exact Nat.le_refl _
        · exact Nat.le_add_right _ _
      refine q h' _ _ _ _ _ hk (ItOK.zip (h₀ := s.heap) R.handled (zipApart_new a1 a2) n1 n2 hTI (O.fresh (get_none_of_le (Nat.le_add_right _ 2))) hk new g1 g2 r1 r2) ⟨hz, hTI, ⟨_, _, hTO⟩, hi1, hi2, g1.at fun o e => hk _ o e, g2.at fun o e => hk _ o e⟩ fun b hb => ⟨new b hb, ?_⟩
      simp only [List.mem_cons, List.not_mem_nil, or_false] at hb
      rcases hb with rfl | rfl | rfl | rfl
      · exact ⟨_, hz⟩
      · exact ⟨_, hTO⟩
      · obtain ⟨o, g, _⟩ := hi1; exact ⟨o, g⟩
      · obtain ⟨o, g, _⟩ := hi2; exact ⟨o, g⟩
end
end Mine
end
section
open PySem PySem.W PyProof.Rows PySem.Calls
namespace Mine
section
variable {prog : Program} {w : World} {A : Around} {E : Value → Shared → Prop} {s : Shared}
theorem next_tuple_item {it t : Addr} {i : Nat} {items : Array Value} {x : Value} {Q : Value → Shared → Prop} (hit : s.heap.IsTupleIter it t i) (ht : s.heap.IsTuple t items) (hx : items[i]? = some x)
    (hQ : ∀ h', h'.IsTupleIter it t (i + 1) → Heap.SameBut it s.heap h' → Q x { s with heap := h' }) : wpAny (model prog w) A (Builtin.SmallTypes.nextOf (.ref it)) Q E s := by
  obtain ⟨o, ho, hc, hd⟩ := id hit
  obtain ⟨ol, hol, _, nl, hdl⟩ := ht
  unfold Builtin.SmallTypes.nextOf
  refine wpAny_bind (wpAny_callSpecial?_slot (name := Str.ofString "__next__") hit.typeIs F.slot_tuple_iterator_next (wpAny_call_entry F.slot_tuple_iterator_next hit.typeIs F.entry_tuple_iterator_next ?_ (F.args_tuple_iterator_next_1 _)))
  show wpAny _ _ (field (.ref it) 0 >>= _) _ _ s
  refine wpAny_bind (wpAny_field ho hd (x := .ref t) rfl ?_)
  show wpAny _ _ (if (Value.ref t == Value.none) = true then _ else _) _ _ s
  rw [if_neg (show ¬ ((Value.ref t == Value.none) = true) from Bool.false_ne_true)]
  show wpAny _ _ (field (.ref it) 1 >>= _) _ _ s
  refine wpAny_bind (wpAny_field ho hd (x := .int i 0) rfl ?_)
  show wpAny _ _ (seqItems? (.ref t) >>= _) _ _ s
  refine wpAny_bind (wpAny_seqItems hol hdl ?_)
  simp only [Int.toNat_natCast, hx]
  refine wpAny_bind (wpAny_setField ho hd (by simp) (wpAny_pure ⟨x, rfl, wpAny_pure (hQ _ ⟨_, Heap.get?_update_self _ ho (Obj.isFreed_of_fields (Obj.data_mapFields hd _)), (Obj.cls_mapFields ..).trans hc, ?_⟩ (Heap.SameBut.update ..))⟩))
  rw [Obj.data_mapFields hd]; simp [rawInt]
theorem next_tuple_end {it t : Addr} {i : Nat} {items : Array Value} {Q : Value → Shared → Prop} (hh : A.handled = none) (hit : s.heap.IsTupleIter it t i) (ht : s.heap.IsTuple t items) (hx : items[i]? = none)
    (hE : ∀ h' e, Heap.ExtBut it s.heap h' → (∃ o, h'.get? e = some o ∧ o.cls = .type "StopIteration") → E (.ref e) { s with heap := h' }) : wpAny (model prog w) A (Builtin.SmallTypes.nextOf (.ref it)) Q E s := by
  obtain ⟨o, ho, hc, hd⟩ := id hit
  obtain ⟨ol, hol, _, nl, hdl⟩ := ht
  unfold Builtin.SmallTypes.nextOf
  refine wpAny_bind (wpAny_callSpecial?_slot (name := Str.ofString "__next__") hit.typeIs F.slot_tuple_iterator_next (wpAny_call_entry F.slot_tuple_iterator_next hit.typeIs F.entry_tuple_iterator_next ?_ (F.args_tuple_iterator_next_1 _)))
  show wpAny _ _ (field (.ref it) 0 >>= _) _ _ s
  refine wpAny_bind (wpAny_field ho hd (x := .ref t) rfl ?_)
  show wpAny _ _ (if (Value.ref t == Value.none) = true then _ else _) _ _ s
  rw [if_neg (show ¬ ((Value.ref t == Value.none) = true) from Bool.false_ne_true)]
  show wpAny _ _ (field (.ref it) 1 >>= _) _ _ s
  refine wpAny_bind (wpAny_field ho hd (x := .int i 0) rfl ?_)
  show wpAny _ _ (seqItems? (.ref t) >>= _) _ _ s
  refine wpAny_bind (wpAny_seqItems hol hdl ?_)
  simp only [Int.toNat_natCast, hx]
  refine wpAny_bind (wpAny_rule (wpAny_bind (wpAny_setField ho hd (by simp) ?_)))
  show wpAny _ _ (newExc (.type "StopIteration") [] >>= _) _ _ _
  refine wpAny_bind ?_
  simp only [newExc, newTuple]
  refine wpAny_bind (wpAny_newObj_type ?_ (by size_fits))
  refine wpAny_bind (m := firstArgMember _ _) (wpAny_of_eq (a := Value.none) (by first | rfl | (simp only [firstArgMember]; rfl)) ?_)
  refine wpAny_newObj_type ?_ (by size_fits)
  simp only [raiseNew]
  refine wpAny_bind (wpAny_handled ?_)
  first | rw [show A.in1.handled = none from hh] | rw [hh]
  exact wpAny_bind (wpAny_pure (wpAny_throw (hE _ _ (((Heap.SameBut.update ..).extBut.push _).push _) ⟨_, Heap.get?_push_size _ rfl, rfl⟩)))
theorem draws_tuple (hh : A.handled = none) (it l : Addr) (hne : l ≠ it) (items : Array Value) :
    Draws prog w A it [it, l] items.size (fun i v => items[i]? = some v) (fun i h => h.IsTupleIter it l i ∧ h.IsTuple l items) where
  live := fun _ _ st => let ⟨o, ho, _⟩ := st.1; ⟨o, ho⟩
  frame := fun _ _ _ st hk => ⟨st.1.at fun o e => hk it (by simp) o e, st.2.at fun o e => hk l (by simp) o e⟩
  item := fun i s Q E hi st hQ => next_tuple_item st.1 st.2 (x := items[i]) (by simp [hi]) fun h' hit' hs' => hQ _ h' s.toks (by simp [hi]) ⟨hit', st.2.extBut hs'.extBut hne⟩ hs'
  done := fun s Q E st hE => next_tuple_end hh st.1 st.2 (by simp) hE
end
open AutoSeq1 (wpAny_loadPart') in
set_option maxRecDepth 100000 in
theorem meets_enum_tuple (l : Addr) (items : Array Value) (n : Nat) :
    Meets (Builtin.«enumerate.__new__» ⟨[.type "enumerate", .ref l], []⟩) (fun _ R s => s.heap.get? l = some { cls := .type "tuple", data := .seq items n } ∧
      R (.ok (.ret (.ref (s.heap.push { cls := .type "tuple_iterator", data := .fields #[.ref l, .int 0 0] }).objs.size)))
        { s with heap := (s.heap.push { cls := .type "tuple_iterator", data := .fields #[.ref l, .int 0 0] }).push { cls := .type "enumerate", data := .fields #[.none, .bool false, .ref s.heap.objs.size, rawInt 0, .none, .none] } }) :=
  .of_wp fun prog w A R s h => by
    obtain ⟨hp, g, d, tk, os⟩ := s; obtain ⟨hl, h⟩ := h
    have hsub := sub_enumerate
    have hL : Heap.IsTuple (Shared.heap ⟨hp, g, d, tk, os⟩) l items := ⟨_, hl, rfl, n, rfl⟩
    wp_walk using wpAny_loadPart' hl
    refine wpAny_stack_any fun st => wpAny_pure ?_
    split
    · rename_i c _ _ _ _ _
      cases (c == Value.type "enumerate") <;> (wp_walk using wpAny_loadPart' hl, wpAny_pyIter_tuple hL; exact ⟨_, rfl, h⟩)
    · wp_walk using wpAny_loadPart' hl, wpAny_pyIter_tuple hL
      exact ⟨_, rfl, h⟩
theorem call_enum_tuple {prog : Program} {w : World} {A : Around} {E : Value → Shared → Prop} {s : Shared} {l : Addr} {items : Array Value} {Q : Value → Shared → Prop} (hL : PTup s.heap l items)
    (h : ∀ h', IsEnum h' (s.heap.objs.size + 1) s.heap.objs.size 0 .none → h'.IsTupleIter s.heap.objs.size l 0 → Ext s.heap h' → Q (.ref (s.heap.objs.size + 1)) { s with heap := h' }) :
    wpAny (model prog w) A (call (.type "enumerate") [.ref l]) Q E s := by
  obtain ⟨n, hl⟩ := hL
  refine callType_new F.called_enumerate (by decide) (F.typeCall_enumerate_1 _) (F.newCall_enumerate_1 _) (fun obj => F.args_object_init_2 obj _) F.entry_enumerate_new (meets_enum_tuple l items n) ⟨hl, ?_⟩
  have hz : (s.heap.push { cls := .type "tuple_iterator", data := .fields #[.ref l, .int 0 0] }).objs.size = s.heap.objs.size + 1 := Heap.size_push ..
  show _ ∧ _
  rw [hz]
  have he := Heap.get?_push_size (s.heap.push { cls := .type "tuple_iterator", data := .fields #[.ref l, .int 0 0] }) (o := { cls := .type "enumerate", data := .fields #[.none, .bool false, .ref s.heap.objs.size, rawInt 0, .none, .none] }) rfl
  rw [hz] at he
  exact ⟨⟨_, he, rfl⟩, h _ he ⟨_, Heap.get?_push_of_some _ (Heap.get?_push_size _ rfl), rfl, rfl⟩ ((Ext.push _ _).pushR _)⟩
noncomputable def counted (ds : List PyData) : List Res := ds.zipIdx.map fun p => .d (.tuple [.int (p.2 : Nat), p.1])
section
variable {prog : Program} {w : World} {B : Heap} {n : Nat} {env : Env} {nu : List (Str × Res)} {t e : Expr} {a : Res} {ds es : List PyData} {rs rs' : List Res} {pos : Pos}
theorem counted_get {i : Nat} {r : Res} (h : (counted ds)[i]? = some r) : ∃ d, ds[i]? = some d ∧ r = .d (.tuple [.int (i : Nat), d]) := by
  unfold counted at h
  rw [List.getElem?_map, Option.map_eq_some_iff] at h
  obtain ⟨⟨d, j⟩, h1, rfl⟩ := h
  rw [List.getElem?_zipIdx] at h1
  rw [Option.map_eq_some_iff] at h1
  obtain ⟨d', h2, h3⟩ := h1
  cases h3
  exact ⟨_, h2, by simp⟩
theorem counted_length : (counted ds).length = ds.length := by simp [counted]
theorem ItOK.enum {A : Around} {h₀ h₁ : Heap} {X : Addr → Prop} {e it l : Addr} {elts : List Expr} {kt : Nat} {pt : Pos} {vs : List Value} {St : Nat → Heap → Prop} (D : Draws prog w A.in1 it [it, l] vs.length (fun i v => vs[i]? = some v) St) (hei : e ≠ it) (hel : e ≠ l) (nx : ¬ X l) (gl : ∃ o, h₁.get? l = some o)
    (k₀ : Ext h₀ h₁) (new : ∀ b ∈ [e, it], h₀.get? b = none) (ra : RdAll h₀ X vs ds) :
    ItOK prog w A h₁ X (.Tuple elts kt pt) e [e, it, l] [e, it] (fun i h => (∃ old, IsEnum h e it i old) ∧ St i h) (counted ds) := by
  have hef : e ∉ [it, l] := by simp [hei, hel]
  have W := WalksT.enumerateD (prog := prog) (w := w) (A := A) D e hei hef (by simp)
  have hlen := ra.length
  refine ⟨W.sub, fun b hb => ?_, fun i h st b hb => ?_, W.frame, fun i r s X' Q E hr st hk hX q => ?_, fun s Q E st q => W.done s Q E ?_ q, W.self⟩
  · simp only [List.mem_cons, List.not_mem_nil, or_false] at hb ⊢
    rcases hb with rfl | rfl | rfl
    · exact .inl (.inl rfl)
    · exact .inl (.inr rfl)
    · exact .inr ⟨nx, gl⟩
  · obtain ⟨⟨old, he⟩, hs⟩ := st
    simp only [List.mem_cons, List.not_mem_nil, or_false] at hb
    rcases hb with rfl | rfl
    · exact ⟨_, he⟩
    · exact D.live _ _ hs
  · obtain ⟨⟨old, he⟩, hs⟩ := st
    obtain ⟨d, hd, rfl⟩ := counted_get hr
    have hi : i < vs.length := by have := (List.getElem?_eq_some_iff.mp hd).1; omega
    refine wpAny_pyNext_enum_itemD D he hs hi hei hef fun x h' tk hP ho hs' hT hsz hk' => ⟨_, rfl, ?_⟩
    have helt := Heap.lt_size he
    refine wpAny_letOwnedTupleGo_enum ho fun h'' he' hsb => ?_
    have keep : ∀ c o, c ∉ [e, it] → s.heap.get? c = some o → h''.get? c = some o := fun c o hc z => (hsb.2 c fun x => hc (by simp [x])).trans (hk' c o (fun x => hc (by simp [x])) (fun x => hc (by simp [x])) z)
    have nT : ¬ X' s.heap.objs.size := fun hx => by obtain ⟨o, g⟩ := hX _ hx; exact Nat.lt_irrefl _ (Heap.lt_size g)
    refine q _ h'' _ ?_ ⟨⟨x, by simpa using he'⟩, D.frame _ _ _ hs' fun b hb o y => (hsb.2 b fun q => hef (q ▸ hb)).trans y⟩ keep
    obtain ⟨u, hu, ru⟩ := ra.get hd
    have hP : vs[i]? = some x := hP
    rw [hu] at hP
    obtain rfl : u = x := Option.some.inj hP
    refine Rd.is_tuple nT (vs := [.int i tk, u]) ((hsb.2 _ (Nat.ne_of_gt helt)).trans hT) (.cons (.int _ _) (.cons (Rd.up (fun b o nb z => ?_) ru) .nil))
    have nw : b ∉ [e, it] := fun hb => by rw [new b hb] at z; cases z
    obtain ⟨e', nb'⟩ := hk b o nb nw (k₀ _ _ z)
    exact ⟨keep b o nw e', nb'⟩
  · rwa [counted_length, ← hlen] at st
theorem IOP.enum {elts : List Expr} {kt : Nat} {pt : Pos} : IOP prog w B n (.Tuple elts kt pt) (fun vs => call (.type "enumerate") vs) [.d (.list ds)] (counted ds) := by
  refine ⟨fun A s X Q E vs R O y q => ?_⟩
  cases y with
  | cons y1 y2 =>
    cases y2
    obtain ⟨l, vs, rfl, nx, gl, ra⟩ := Rd.list_inv y1
    have al : l < s.heap.objs.size := by obtain ⟨_, e, _⟩ := gl; exact Heap.lt_size e
    refine call_enumerate_list gl fun h' he hit hsz hk => wpAny_pyIter_enum he ?_
    have new : ∀ b ∈ [s.heap.objs.size + 1, s.heap.objs.size], s.heap.get? b = none := fun b hb => by
      refine get_none_of_le ?_
      simp only [List.mem_cons, List.not_mem_nil, or_false] at hb
      rcases hb with rfl | rfl
      · exact Nat.le_add_right _ _
      · exact Nat.le_refl _
    have D := Draws.list (prog := prog) (w := w) (A := A.in1) R.handled s.heap.objs.size l (Nat.ne_of_lt al) vs.toArray
    have gl' : h'.IsList l vs.toArray := gl.at fun o e => hk _ o e
    refine q h' s.toks _ _ _ (fun i h => (∃ old, IsEnum h (s.heap.objs.size + 1) s.heap.objs.size i old) ∧ h.IsListIter s.heap.objs.size l i ∧ h.IsList l vs.toArray) hk
      (ItOK.enum (h₀ := s.heap) (vs := vs) (by simpa using D) (Nat.ne_of_gt (Nat.lt_add_of_pos_right (by decide))) (Nat.ne_of_gt (Nat.lt_succ_of_lt al)) nx (let ⟨o, g, _⟩ := gl'; ⟨o, g⟩) hk new ra) ⟨⟨_, he⟩, hit, gl'⟩ fun b hb => ⟨new b hb, ?_⟩
    simp only [List.mem_cons, List.not_mem_nil, or_false] at hb
    rcases hb with rfl | rfl
    · exact ⟨_, he⟩
    · obtain ⟨o, g, _⟩ := hit; exact ⟨o, g⟩
theorem IOP.enumT {elts : List Expr} {kt : Nat} {pt : Pos} : IOP prog w B n (.Tuple elts kt pt) (fun vs => call (.type "enumerate") vs) [.d (.tuple ds)] (counted ds) := by
  refine ⟨fun A s X Q E vs R O y q => ?_⟩
  cases y with
  | cons y1 y2 =>
    cases y2
    obtain ⟨l, vs, rfl, nx, gl, ra⟩ := Rd.tuple_invP y1
    have al : l < s.heap.objs.size := by obtain ⟨_, e⟩ := gl; exact Heap.lt_size e
    refine call_enum_tuple gl fun h' he hit hk => wpAny_pyIter_enum he ?_
    have new : ∀ b ∈ [s.heap.objs.size + 1, s.heap.objs.size], s.heap.get? b = none := fun b hb => by
      refine get_none_of_le ?_
      simp only [List.mem_cons, List.not_mem_nil, or_false] at hb
      rcases hb with rfl | rfl
      · exact Nat.le_add_right _ _
      · exact Nat.le_refl _
    have D := draws_tuple (prog := prog) (w := w) (A := A.in1) R.handled s.heap.objs.size l (Nat.ne_of_lt al) vs.toArray
    have gl' : h'.IsTuple l vs.toArray := let ⟨_, g⟩ := gl; ⟨_, hk _ _ g, rfl, _, rfl⟩
    refine q h' s.toks _ _ _ (fun i h => (∃ old, IsEnum h (s.heap.objs.size + 1) s.heap.objs.size i old) ∧ h.IsTupleIter s.heap.objs.size l i ∧ h.IsTuple l vs.toArray) hk
      (ItOK.enum (h₀ := s.heap) (vs := vs) (by simpa using D) (Nat.ne_of_gt (Nat.lt_add_of_pos_right (by decide))) (Nat.ne_of_gt (Nat.lt_succ_of_lt al)) nx (let ⟨o, g, _⟩ := gl'; ⟨o, g⟩) hk new ra) ⟨⟨_, he⟩, hit, gl'⟩ fun b hb => ⟨new b hb, ?_⟩
    simp only [List.mem_cons, List.not_mem_nil, or_false] at hb
    rcases hb with rfl | rfl
    · exact ⟨_, he⟩
    · obtain ⟨o, g, _⟩ := hit; exact ⟨o, g⟩
end
end Mine
end
section
open PySem PySem.W PyProof.Rows PySem.Calls
namespace Mine
section
variable {prog : Program} {w : World} {B : Heap} {n : Nat} {env : Env} {nu : List (Str × Res)} {Z : Addr → Prop} {t : Expr} {r : Res} {st st₁ : St} {c : Sem Flow} {P : Fl → St → Prop}
theorem turn_ (a : AS prog w B n env Z st t r st₁) (b : SF prog w B n env Z st₁ c P) : ∃ st₁, AS prog w B n env Z st t r st₁ ∧ SF prog w B n env Z st₁ c P := ⟨_, a, b⟩
theorem iop_ {f : List Value → Sem Value} {rs rs' : List Res} (h : IOP prog w B n t f rs rs') : IOP prog w B n t f rs rs' := h
theorem SF.forG {l : List (Str × Slot)} {xt : Heap → Prop} {iter : Expr} {body orelse : List Stmt} {rs : List Res} {pos : Pos} (Inv : Nat → List (Str × Slot) → Prop) (it : IT prog w B n env (keepN l) t iter rs) (hZ : ∀ a, ¬ Z a) (h0 : Inv 0 l)
    (turn : ∀ i r l, rs[i]? = some r → Inv i l → ∃ st₁, AS prog w B n env Z ⟨l, xt⟩ t r st₁ ∧ SF prog w B n env Z st₁ (execs body env) (Turned (fun st'' => st''.ext = xt ∧ ∃ l', l'.Sublist st''.loc ∧ Inv (i + 1) l') P))
    (fin : ∀ l, Inv rs.length l → SF prog w B n env Z ⟨l, xt⟩ (execs orelse env) P)
    (hs : ∀ x, foldedSetIterable iter env x = pure x := by intro _; rfl) : SF prog w B n env Z ⟨l, xt⟩ (exec (.For t iter body orelse pos) env) P := by
  refine SF.for hZ (fun i st' => st'.ext = xt ∧ ∃ l', l'.Sublist st'.loc ∧ Inv i l') it ⟨rfl, l, List.Sublist.refl _, h0⟩ (fun i r st' e hI => ?_) (fun st' hI => ?_) hs
  · obtain ⟨rfl, l', hs', hI⟩ := hI
    obtain ⟨st₁, a, b⟩ := turn i r l' e hI
    exact ⟨st₁, AS.weaken hs' a, b⟩
  · obtain ⟨rfl, l', hs', hI⟩ := hI
    exact SF.weaken hs' (fin l' hI)
end
noncomputable abbrev txts (l : List Str) : PyData := .list (l.map .str)
noncomputable abbrev nums (l : List Nat) : PyData := .list (l.map fun n => .int (n : Nat))
noncomputable def Oks (l : List Str) : Prop := ∀ x ∈ l, PyData.strOk x = true
theorem eqvAll_strs (a b : List Str) : PyData.eqvAll (a.map .str) (b.map .str) = decide (a = b) := by
  induction a generalizing b with
  | nil => cases b <;> simp [PyData.eqvAll]
  | cons x a ih =>
    cases b with
    | nil => simp [PyData.eqvAll]
    | cons y b =>
      simp only [List.map_cons, PyData.eqvAll, PyData.eqv, ih, List.cons.injEq]
      by_cases h : x = y <;> by_cases h2 : a = b <;> simp [h, h2]
theorem eqv_txts (a b : List Str) : PyData.eqv (txts a) (txts b) = decide (a = b) := by
  simp only [PyData.eqv]; exact eqvAll_strs a b
theorem lay_strs {a : List Str} (h : Oks a) : PyData.canLayAll0 (a.map .str) = true ∧ PyData.depthAll (a.map .str) = 0 := by
  induction a with
  | nil => exact ⟨rfl, rfl⟩
  | cons x a ih =>
    obtain ⟨h1, h2⟩ := ih fun y hy => h y (.tail _ hy)
    simp only [List.map_cons, PyData.canLayAll0, PyData.canLay0, PyData.depthAll, PyData.depth, h1, h2, h x (.head _)]
    exact ⟨rfl, rfl⟩
theorem shaped_txts {a : List Str} (h : Oks a) : SeqAt.shaped (txts a) = true := by
  obtain ⟨h1, h2⟩ := lay_strs h
  simp [SeqAt.shaped, PyData.canLay0, PyData.depth, h1, h2]
noncomputable abbrev txtss (l : List (List Str)) : PyData := .list (l.map txts)
noncomputable def Okss (l : List (List Str)) : Prop := ∀ x ∈ l, Oks x
theorem lay_txtss {a : List (List Str)} (h : Okss a) : PyData.canLayAll0 (a.map txts) = true ∧ PyData.depthAll (a.map txts) ≤ 1 := by
  induction a with
  | nil => exact ⟨rfl, Nat.zero_le _⟩
  | cons x a ih =>
    obtain ⟨h1, h2⟩ := ih fun y hy => h y (.tail _ hy)
    obtain ⟨h3, h4⟩ := lay_strs (h x (.head _))
    simp only [List.map_cons, PyData.canLayAll0, PyData.canLay0, PyData.depthAll, PyData.depth, h1, h3, h4]
    exact ⟨rfl, by omega⟩
theorem shaped_txtss {a : List (List Str)} (h : Okss a) : SeqAt.shaped (txtss a) = true := by
  obtain ⟨h1, h2⟩ := lay_txtss h
  have : PyData.depthAll (a.map txts) + 1 ≤ 64 := by omega
  simp [SeqAt.shaped, PyData.canLay0, PyData.depth, h1, this]
theorem eqvAll_txtss (a b : List (List Str)) : PyData.eqvAll (a.map txts) (b.map txts) = decide (a = b) := by
  induction a generalizing b with
  | nil => cases b <;> simp [PyData.eqvAll]
  | cons x a ih =>
    cases b with
    | nil => simp [PyData.eqvAll]
    | cons y b =>
      simp only [List.map_cons, PyData.eqvAll, eqv_txts, ih, List.cons.injEq]
      by_cases h : x = y <;> by_cases h2 : a = b <;> simp [h, h2]
theorem eqv_txtss (a b : List (List Str)) : PyData.eqv (txtss a) (txtss b) = decide (a = b) := by
  simp only [PyData.eqv]; exact eqvAll_txtss a b
theorem lay_ints (a : List Nat) : PyData.canLayAll0 (a.map fun n => PyData.int (n : Nat)) = true := by
  induction a with
  | nil => rfl
  | cons x a ih => simp only [List.map_cons, PyData.canLayAll0, PyData.canLay0, ih]; rfl
theorem in_ints (l : List Nat) (k : Nat) : ((l.map fun n => PyData.int (n : Nat)).any fun y => PyData.eqv y (.int (k : Nat))) = decide (k ∈ l) := by
  induction l with
  | nil => rfl
  | cons x l ih =>
    rw [List.map_cons, List.any_cons, ih]
    simp only [PyData.eqv, List.mem_cons]
    by_cases h : x = k
    · subst h; simp
    · have : ¬ ((x : Int) = (k : Int)) := by omega
      have h' : k ≠ x := fun e => h e.symm
      simp [this, h']
theorem in_txtss (l : List (List Str)) (k : List Str) : ((l.map txts).any fun y => PyData.eqv y (txts k)) = decide (k ∈ l) := by
  induction l with
  | nil => rfl
  | cons x l ih =>
    rw [List.map_cons, List.any_cons, ih, eqv_txts]
    by_cases h : x = k
    · subst h; simp
    · have h' : k ≠ x := fun e => h e.symm
      simp [h, h']
theorem map_at {α : Type} {f : α → PyData} {l : List α} {i : Nat} {r : Res} (h : ((l.map f).map Res.d)[i]? = some r) : ∃ x, l[i]? = some x ∧ r = .d (f x) := by
  rw [List.map_map, List.getElem?_map, Option.map_eq_some_iff] at h
  obtain ⟨c, h1, h2⟩ := h
  exact ⟨c, h1, h2.symm⟩
theorem zip_at {α β : Type} {f : α → PyData} {g : β → PyData} {l : List α} {m : List β} {i : Nat} {r : Res} (h : (((l.map f).zip (m.map g)).map fun p => Res.d (.tuple [p.1, p.2]))[i]? = some r) : ∃ x y, l[i]? = some x ∧ m[i]? = some y ∧ r = .d (.tuple [f x, g y]) := by
  rw [List.getElem?_map, Option.map_eq_some_iff] at h
  obtain ⟨⟨p, q⟩, h1, h2⟩ := h
  rw [List.getElem?_zip_eq_some] at h1
  obtain ⟨h3, h4⟩ := h1
  rw [List.getElem?_map, Option.map_eq_some_iff] at h3 h4
  obtain ⟨x, hx, rfl⟩ := h3
  obtain ⟨y, hy, rfl⟩ := h4
  exact ⟨x, y, hx, hy, h2.symm⟩
end Mine
end
section
open PySem PySem.W PyProof.Rows PySem.Calls
namespace Mine
inductive CapsIn (nu : List (Str × Res)) : List (Str × Res) → List Str → Prop
  | nil : CapsIn nu [] []
  | cons {x : Str} {r : Res} {nuC : List (Str × Res)} {xs : List Str} : nu.lookup x = some r → CapsIn nu nuC xs → CapsIn nu ((x, r) :: nuC) (x :: xs)
theorem mem_of_lookupR {l : List (Str × Res)} {x : Str} {r : Res} (h : l.lookup x = some r) : (x, r) ∈ l := by
  induction l with
  | nil => cases h
  | cons p q ih =>
    obtain ⟨y, b⟩ := p
    rw [List.lookup_cons] at h
    cases g : x == y with
    | true => rw [g] at h; cases h; rw [beq_iff_eq.mp g]; exact .head _
    | false => rw [g] at h; exact .tail _ (ih h)
theorem CapsIn.sub {nu nuC : List (Str × Res)} {xs : List Str} (c : CapsIn nu nuC xs) : ∀ q ∈ nuC, q ∈ nu := by
  induction c with
  | nil => intro q hq; cases hq
  | cons h _ ih =>
    intro q hq
    rcases List.mem_cons.mp hq with e | hq
    · subst e; exact mem_of_lookupR h
    · exact ih q hq
theorem CapsIn.names {nu nuC : List (Str × Res)} {xs : List Str} (c : CapsIn nu nuC xs) : nuC.map (·.1) = xs := by
  induction c with
  | nil => rfl
  | cons h _ ih => rw [List.map_cons, ih]
inductive AllCell (env : Env) (scope : Scope) : List Str → Prop
  | nil : AllCell env scope []
  | cons {x : Str} {xs : List Str} : env.kindOf x = some .cell → scope.names.lookup x = some .free → AllCell env scope xs → AllCell env scope (x :: xs)
theorem AllCell.all {env : Env} {scope : Scope} {xs : List Str} (a : AllCell env scope xs) : ∀ x ∈ xs, env.kindOf x = some .cell ∧ scope.names.lookup x = some .free := by
  induction a with
  | nil => intro x hx; cases hx
  | cons h h' _ ih =>
    intro x hx
    rcases List.mem_cons.mp hx with e | hx
    · subst e; exact ⟨h, h'⟩
    · exact ih x hx
theorem CompOk.of {env : Env} {nu nuC : List (Str × Res)} {scope : Scope} {x : Str} (caps : List Str) (c : CapsIn nu nuC caps) (hk : scope.kind = .function) (he : env.scope.kind = .function) (hn : (scope.names.map (·.1)).Nodup)
    (hf : scope.names.all (fun p => p.2 != .free || caps.contains p.1) = true) (hc : AllCell env scope caps) (hcn : caps.Nodup) (hv : scope.names.lookup x = some .local ∨ scope.names.lookup x = some .cell) : CompOk env nu nuC scope x where
  kind := hk
  ekind := he
  nodup := hn
  free := fun p hp e => by
    have := List.all_eq_true.mp hf p hp
    rw [e] at this
    have h2 : p.1 ∈ nuC.map (·.1) := by rw [c.names]; simpa using this
    obtain ⟨q, hq, e⟩ := List.mem_map.mp h2
    exact ⟨q.2, e ▸ hq⟩
  caps := fun q hq => ⟨c.sub q hq, hc.all q.1 (by rw [← c.names]; exact List.mem_map.mpr ⟨q, hq, rfl⟩)⟩
  capsN := by rw [c.names]; exact hcn
  var := hv
section
variable {prog : Program} {w : World} {B : Heap} {n : Nat} {env : Env} {nu : List (Str × Res)} {c : Expr} {b p : Bool}
theorem TVs.one (h : TV prog w B n env nu c p) (e : p = b) : TVs prog w B n env nu [c] b := e ▸ h
theorem TVs.nil (e : b = true) : TVs prog w B n env nu [] b := e
theorem IT.eq' {t e : Expr} {rs rs' : List Res} (h : IT prog w B n env nu t e rs) (e' : rs = rs') : IT prog w B n env nu t e rs' := e' ▸ h
end
structure Row where
  ws : List Str
  mode : Nat
  sp : Str
noncomputable abbrev rowD (r : Row) : PyData := .list [txts r.ws, .int (r.mode : Nat), .str r.sp]
noncomputable abbrev rowsD (l : List Row) : PyData := .list (l.map rowD)
noncomputable abbrev dueD (p : Bool × Bool) : PyData := .list [.bool p.1, .bool p.2]
noncomputable abbrev duesD (l : List (Bool × Bool)) : PyData := .list (l.map dueD)
end Mine
end
open PySem PySem.W PyProof.Rows
namespace Mine
theorem len_slash : (Str.ofString "/").length = 1 := by decide +kernel
theorem len_empty : (Str.ofString "").length = 0 := by decide +kernel
theorem len_dot : (Str.ofString ".").length = 1 := by decide +kernel
theorem len_slashdot : (Str.ofString "/.").length = 2 := by decide +kernel
theorem lens : (∀ a b : Str, (a ++ b).length = a.length + b.length) ∧ sizeLine = 16777216 ∧ (Str.ofString "/").length = 1 ∧ (Str.ofString "").length = 0 ∧ (Str.ofString ".").length = 1 ∧ (Str.ofString "/.").length = 2 := ⟨Str.length_append, sizeLine_eq, len_slash, len_empty, len_dot, len_slashdot⟩
theorem calleeK {w : World} {B : Heap} {mg mb : Str → Option Value} (C : Cx w B mg mb) {a : Addr} {o : Obj} {fd : FuncData} (h : (heapK w.params).lookup a = some o) (e : o.data = .func fd) : Callee B (.ref a) := Callee.fn (C.K _ _ h) e
end Mine
open Mine
local macro_rules | `(tactic| o_facts $C) => do
  let Q := Lean.TSyntax `Lean.Parser.Tactic.tacticSeq
  let mut t : Array Q := #[]
  let mut o : Array Q := #[]
  let n := C.getId.toString
  for s in (if n == "S" then "l - ~HasItems.list ~HasItems.str ~lay_ints ~Nat.zero_le Int.natCast_nonneg ~rfl" else if n == "U" then "l - ~Upd.here ~Upd.nil ~Upd.nx ~rfl" else if n == "M" then "l - List.mem_cons_self List.mem_cons_of_mem" else if n == "L" then "l - List.Sublist.refl List.Sublist.cons₂ List.Sublist.cons List.nil_sublist" else "k nm_ gl_type gl_str gl_bytes gl_issubclass gl_isinstance gl_len gl_abs gl_max gl_min gl_range gl_zip gl_enumerate gl_tuple gl_map gl_set gl_repr gl_fspath gl__get_sep gl_join gl_splitroot gl_normpath_posixpath gl_commonpath gl__kind gl__c_path gl__shelf_fresh gl__splitroot gl__normpath gl_normpath_path gl__Ignore gl_S_IFMT gl_filemode gl__law_way gl__law_rows gl__law_listing gl__law_shared gl__law_met gl__law_dues gl__law_told gl__filemode_table;k nm_ ~EV.look;k nm_ gl_sep;G opb_ OP.iadd OP.isub OP.iand OP.sadd OP.imod OP.idiv OP.ladd OP.ipow OP.imul;G opc_ OP.ieq OP.ine OP.ilt OP.igt OP.seq OP.sne OP.isNone_none OP.isNone_str OP.tis OP.isNoneV OP.eq OP.ne OP.notin OP.snotin;G opi_ OP.lastItem OP.litem OP.litemNeg OP.titem OP.sitem OP.litemV;L - OP.issub OP.typeStr OP.isBytes OP.abs OP.max OP.min OP.ineg OP.lenList OP.lenTuple OP.minW OP.maxW;K OP.room fspath_ok getsep_ok shelf_ok splitroot_ok csplitroot_ok kind_ok cpath_ok normpathC_ok join_ok sifmt_ok way_ok;p op_;g tr_ TR.tbool TR.ted TR.tstr TR.tlist TR.ttuple;g ev_ EV.cint EV.cstr EV.cbool EV.cnone EV.binop EV.sslice EV.item EV.cmp EV.unary EV.startswith EV.endswith EV.split EV.join EV.orS EV.orB EV.andB EV.tupleD EV.listD EV.call;g tv_ TV.or2p TV.and2p TV.cmp TV.not TV.plain;g iop_ IOP.zip IOP.enum IOP.enumT IOP.range;l - EVds.nil EVds.cons;g evs_ ~EVs.nil ~EVs.cons;g star_ ?d;g few_ ?d;k callee_ Callee.builtin Callee.type calleeK;l - HasItems.list HasItems.tuple HasItems.str HasItems.lv EP.none EP.some").splitOn ";" do
    let mut a : Array Q := #[]
    for x in (s.splitOn " ").drop 2 do
      let i := Lean.mkIdent (String.ofList (if x.startsWith "~" then x.toList.tail else x.toList)).toName
      a := a.push (← if x == "?d" then `(tacticSeq| (decide +kernel)) else if x.startsWith "~" then `(tacticSeq| apply @$i) else `(tacticSeq| with_reducible apply @$i))
    let k := s.front
    if k == 'p' then
      a := o
      o := #[]
    if k != 'l' && k != 'L' then
      let m := Lean.mkIdent (((s.splitOn " ").drop 1).head!).toName
      let b ← `(tacticSeq| ((with_reducible apply @$m); first $[| $a]*))
      a := #[← if k == 'k' || k == 'K' then `(tacticSeq| (($b) <;> first | rfl | assumption | decide)) else pure b]
    if k.isUpper then o := o ++ a else t := t ++ a
  `(tactic| repeat' first $[| $t]*)
section
open PySem PySem.W PyProof.Rows PySem.Calls
set_option maxHeartbeats 8000000
namespace Mine
section
variable {prog : Program} {w : World} {B : Heap} {mg mb : Str → Option Value} {n : Nat} {rs : List Res} {r : Res} {xs : List Str}
theorem fspath_ok (C : Cx w B mg mb) (x : Str) : OP prog w B 1 (fun vs => call (.ref 94) vs) [.d (.str x)] (.d (.str x)) := by
  refine OP.fun (xs := ["path"]) C 94 ⟨_, rfl, rfl⟩ rfl (by decide +kernel) rfl rfl (fun vs hv => by obtain ⟨v0, rfl⟩ := lenV1 hv; rfl) rfl (by decide +kernel) (by decide +kernel) (by decide +kernel) fun L => ?_
  simp only [slotsOf, List.zip_cons_cons, List.zip_nil_left, List.map_cons, List.map_nil]
  apply SF.cons; apply SF.assignL
  case hk => exact .inl rfl
  case hs => rfl
  case he =>
    o_facts C
    o_facts S; all_goals try first | assumption | decide | exact IntMulOk.of_right (by decide +kernel) | (intro _; exact rfl) | (simp only [lens] at *; omega) | simp [sizeLine_eq] <;> omega
  case up => o_facts U
  apply SF.cons; apply SF.ite (b := true)
  case h2 => exact fun h => nomatch h
  case ht =>
    apply TV.plain
    · apply EV.call
      · o_facts C
      · o_facts C
      · apply EVs.cons
        · o_facts C
        · apply EVs.cons
          · apply EV.tupleV (us := [_, _])
            all_goals o_facts C
          · exact EVs.nil
      · exact OP.issub
      · o_facts C
    · exact TR.tbool
    · intro _; rfl
  intro _
  apply SF.cons; apply SF.ret
  case he =>
    o_facts C
    o_facts S; all_goals try first | assumption | decide | exact IntMulOk.of_right (by decide +kernel) | (intro _; exact rfl) | (simp only [lens] at *; omega) | simp [sizeLine_eq] <;> omega
  refine Gives.eq (st := ⟨[], fun _ => True⟩) ?_
  rfl
end
end Mine
end
section
open PySem PySem.W PyProof.Rows PySem.Calls
set_option maxHeartbeats 8000000
namespace Mine
section
variable {prog : Program} {w : World} {B : Heap} {mg mb : Str → Option Value} {n : Nat} {rs : List Res} {r : Res} {xs : List Str}
theorem getsep_ok (C : Cx w B mg mb) (x : Str) : OP prog w B 1 (fun vs => call (.ref 108) vs) [.d (.str x)] (.d (.str "/")) := by
  refine OP.fun (xs := ["path"]) C 108 ⟨_, rfl, rfl⟩ rfl (by decide +kernel) rfl rfl (fun vs hv => by obtain ⟨v0, rfl⟩ := lenV1 hv; rfl) rfl (by decide +kernel) (by decide +kernel) (by decide +kernel) fun L => ?_
  simp only [slotsOf, List.zip_cons_cons, List.zip_nil_left, List.map_cons, List.map_nil]
  refine' SF.cons (SF.ite (b := false) ?_ (fun h => nomatch h) fun _ => ?_)
  · apply TV.plain
    · o_facts C
      all_goals decide
    · exact TR.tbool
    · intro _; rfl
  · refine' SF.cons (SF.ret ?_ (Gives.eq ?_))
    · o_facts C
    · rfl
noncomputable def shelf (x : Str) : Str := Txt.slice (x ++ "/") none (some (-1))
theorem shelf_ok (C : Cx w B mg mb) (x : Str) (hx : x.length ≤ 2000000) : OP prog w B 1 (fun vs => call (.ref 155) vs) [.d (.str x)] (.d (.str (shelf x))) := by
  refine OP.fun (xs := ["s"]) C 155 ⟨_, rfl, rfl⟩ rfl (by decide +kernel) rfl rfl (fun vs hv => by obtain ⟨v0, rfl⟩ := lenV1 hv; rfl) rfl (by decide +kernel) (by decide +kernel) (by decide +kernel) fun L => ?_
  simp only [slotsOf, List.zip_cons_cons, List.zip_nil_left, List.map_cons, List.map_nil]
  refine' SF.cons (SF.ret ?_ (Gives.eq ?_))
  · o_facts C
    · have e : (Str.ofString "/").length = 1 := by decide +kernel
      rw [e, sizeLine_eq]; omega
    · rw [Str.length_append]
      have e : (Str.ofString "/").length = 1 := by decide +kernel
      rw [e, sizeLine_eq]; omega
  · rfl
end
end Mine
end
section
open PySem PySem.W PyProof.Rows PySem.Calls
set_option maxHeartbeats 8000000
namespace Mine
section
variable {prog : Program} {w : World} {B : Heap} {mg mb : Str → Option Value} {n : Nat} {rs : List Res} {r : Res} {xs : List Str}
structure Rooted (p : Str) : Prop where
  len : p.length ≤ 1000
  one : Txt.slice p none (some 1) = "/"
  two : Txt.slice p (some 1) (some 2) ≠ "/"
noncomputable def behind (p : Str) : Str := Txt.slice p (some 1) none
theorem splitroot_ok (C : Cx w B mg mb) (x : Str) (hx : Rooted x) : OP prog w B 2 (fun vs => call (.ref 122) vs) [.d (.str x)] (.d (.tuple [.str "", .str "/", .str (behind x)])) := by
  have hl := hx.len
  refine OP.fun (xs := ["p"]) C 122 ⟨_, rfl, rfl⟩ rfl (by decide +kernel) rfl rfl (fun vs hv => by obtain ⟨v0, rfl⟩ := lenV1 hv; rfl) rfl (by decide +kernel) (by decide +kernel) (by decide +kernel) fun L => ?_
  simp only [slotsOf, List.zip_cons_cons, List.zip_nil_left, List.map_cons, List.map_nil]
  apply SF.cons; apply SF.assignL
  case hk => exact .inl rfl
  case hs => rfl
  case he =>
    o_facts C
    o_facts S; all_goals try first | assumption | decide | exact IntMulOk.of_right (by decide +kernel) | (intro _; exact rfl) | (simp only [lens] at *; omega) | simp [sizeLine_eq] <;> omega
  case up => o_facts U
  apply SF.cons; apply SF.ite (b := false)
  case h1 => exact fun h => nomatch h
  case ht =>
    apply TV.eq
    case h =>
      o_facts C
      o_facts S; all_goals try first | assumption | decide | exact IntMulOk.of_right (by decide +kernel) | (intro _; exact rfl) | (simp only [lens] at *; omega) | simp [sizeLine_eq] <;> omega
    rfl
  intro _
  apply SF.cons; apply SF.assignL
  case hk => exact .inl rfl
  case hs => rfl
  case he =>
    o_facts C
    o_facts S; all_goals try first | assumption | decide | exact IntMulOk.of_right (by decide +kernel) | (intro _; exact rfl) | (simp only [lens] at *; omega) | simp [sizeLine_eq] <;> omega
  case up => o_facts U
  apply SF.cons; apply SF.assignL
  case hk => exact .inl rfl
  case hs => rfl
  case he =>
    o_facts C
    o_facts S; all_goals try first | assumption | decide | exact IntMulOk.of_right (by decide +kernel) | (intro _; exact rfl) | (simp only [lens] at *; omega) | simp [sizeLine_eq] <;> omega
  case up => o_facts U
  apply SF.nil
  apply SF.cons; apply SF.ite (b := false)
  case h1 => exact fun h => nomatch h
  case ht =>
    apply TV.eq
    case h =>
      o_facts C
      o_facts S; all_goals try first | assumption | decide | exact IntMulOk.of_right (by decide +kernel) | (intro _; exact rfl) | (simp only [lens] at *; omega) | simp [sizeLine_eq] <;> omega
    simp [hx.one]
  intro _
  apply SF.cons; apply SF.ite (b := true)
  case h2 => exact fun h => nomatch h
  case ht =>
    apply TV.eq
    case h =>
      o_facts C
      o_facts S; all_goals try first | assumption | decide | exact IntMulOk.of_right (by decide +kernel) | (intro _; exact rfl) | (simp only [lens] at *; omega) | simp [sizeLine_eq] <;> omega
    simp [hx.two]
  intro _
  apply SF.cons; apply SF.ret
  case he =>
    apply EV.tuple (ds := [_, _, _])
    o_facts C
    o_facts S; all_goals try first | assumption | decide | exact IntMulOk.of_right (by decide +kernel) | (intro _; exact rfl) | (simp only [lens] at *; omega) | simp [sizeLine_eq] <;> omega
  apply Gives.eq
  rfl
end
end Mine
end
section
open PySem PySem.W PyProof.Rows PySem.Calls
set_option maxHeartbeats 8000000
namespace Mine
section
variable {prog : Program} {w : World} {B : Heap} {mg mb : Str → Option Value} {n : Nat} {rs : List Res} {r : Res} {xs : List Str}
noncomputable def normS (p : Str) : Str := "/" ++ Str.join "/" (normComps (Txt.split (behind p) "/"))
noncomputable def pcomps (p : Str) : List PyData := (Txt.split (behind p) "/").map .str
noncomputable def normAt (p : Str) (acc : List Str) : List (Str × Slot) := [("path", .r (.d (.str (behind p)))), ("sep", .r (.d (.str "/"))), ("dot", .r (.d (.str "."))), ("dotdot", .r (.d (.str ".."))), ("_", .r (.d (.str ""))), ("initial_slashes", .r (.d (.str "/"))),
  ("comps", .r (.d (.list (pcomps p)))), ("new_comps", .own (acc.map .str))]
noncomputable def normBase (p : Str) (i : Nat) : List (Str × Slot) := normAt p (normComps ((Txt.split (behind p) "/").take i))
theorem Rooted.pos {p : Str} (h : Rooted p) : 1 ≤ p.length := by
  have h1 := h.one
  have h2 := Txt.slice_le p none (some 1)
  rw [h1] at h2
  exact h2
theorem normpath_ok (C : Cx w B mg mb) (x : Str) (hx : Rooted x) : OP prog w B 3 (fun vs => call (.ref 129) vs) [.d (.str x)] (.d (.str (normS x))) := by
  have hl := hx.len
  have hb : (behind x).length ≤ 1000 := Nat.le_trans (Txt.slice_le _ _ _) hl
  have hp := hx.pos
  refine OP.fun (xs := ["path"]) C 129 ⟨_, rfl, rfl⟩ rfl (by decide +kernel) rfl rfl (fun vs hv => by obtain ⟨v0, rfl⟩ := lenV1 hv; rfl) rfl (by decide +kernel) (by decide +kernel) (by decide +kernel) fun L => ?_
  simp only [slotsOf, List.zip_cons_cons, List.zip_nil_left, List.map_cons, List.map_nil]
  apply SF.cons; apply SF.assignL
  case hk => exact .inl rfl
  case hs => rfl
  case he =>
    o_facts C
    o_facts S; all_goals try first | assumption | decide | exact IntMulOk.of_right (by decide +kernel) | (intro _; exact rfl) | (simp only [lens] at *; omega) | simp [sizeLine_eq] <;> omega
  case up => o_facts U
  apply SF.cons; apply SF.ite (b := false)
  case h1 => exact fun h => nomatch h
  case ht =>
    apply TV.eq
    case h =>
      o_facts C
      o_facts S; all_goals try first | assumption | decide | exact IntMulOk.of_right (by decide +kernel) | (intro _; exact rfl) | (simp only [lens] at *; omega) | simp [sizeLine_eq] <;> omega
    rfl
  intro _
  apply SF.cons; apply SF.assignL
  case hk => exact .inl rfl
  case hs => rfl
  case he =>
    o_facts C
    o_facts S; all_goals try first | assumption | decide | exact IntMulOk.of_right (by decide +kernel) | (intro _; exact rfl) | (simp only [lens] at *; omega) | simp [sizeLine_eq] <;> omega
  case up => o_facts U
  apply SF.cons; apply SF.assignL
  case hk => exact .inl rfl
  case hs => rfl
  case he =>
    o_facts C
    o_facts S; all_goals try first | assumption | decide | exact IntMulOk.of_right (by decide +kernel) | (intro _; exact rfl) | (simp only [lens] at *; omega) | simp [sizeLine_eq] <;> omega
  case up => o_facts U
  apply SF.cons; apply SF.assignL
  case hk => exact .inl rfl
  case hs => rfl
  case he =>
    o_facts C
    o_facts S; all_goals try first | assumption | decide | exact IntMulOk.of_right (by decide +kernel) | (intro _; exact rfl) | (simp only [lens] at *; omega) | simp [sizeLine_eq] <;> omega
  case up => o_facts U
  (repeat (apply SF.nil))
  apply SF.cons; apply SF.ite (b := false)
  case h1 => exact fun h => nomatch h
  case ht =>
    apply TV.eq
    case h =>
      o_facts C
      o_facts S; all_goals try first | assumption | decide | exact IntMulOk.of_right (by decide +kernel) | (intro _; exact rfl) | (simp only [lens] at *; omega) | simp [sizeLine_eq] <;> omega
    (simp; omega)
  intro _
  (repeat (apply SF.nil))
  apply SF.cons; apply SF.assignTupleL
  case hs => rfl
  case hw => rfl
  case he =>
    o_facts C
    o_facts S; all_goals try first | assumption | decide | exact IntMulOk.of_right (by decide +kernel) | (intro _; exact rfl) | (simp only [lens] at *; omega) | simp [sizeLine_eq] <;> omega
  case a =>
    apply AS.tupleL (xs := [("_", _), ("initial_slashes", _), ("path", _)]) (ds := [_, _, _])
    · apply Upds.cons
      focus o_facts U
      apply Upds.cons
      focus o_facts U
      apply Upds.cons
      focus o_facts U
      exact Upds.nil
    · intro p hp
      simp only [List.mem_cons, List.not_mem_nil, or_false] at hp
      rcases hp with rfl | rfl | rfl <;> exact .inl rfl
  apply SF.cons; apply SF.assignL
  case hk => exact .inl rfl
  case hs => rfl
  case he =>
    o_facts C
    o_facts S; all_goals try first | assumption | decide | exact IntMulOk.of_right (by decide +kernel) | (intro _; exact rfl) | (simp only [lens] at *; omega) | simp [sizeLine_eq] <;> omega
  case up => o_facts U
  apply SF.cons; apply SF.ownL
  case hk => exact .inl rfl
  case up => o_facts U
  apply SF.cons; apply SF.forL (normBase x)
  case it =>
    apply IT.list (ds := pcomps x)
    o_facts C
  case hZ => exact fun _ h => h
  case h0 => exact List.Sublist.refl _
  case turn =>
    intro i r hr
    obtain ⟨c, hc, rfl⟩ : ∃ c, (Txt.split (behind x) "/")[i]? = some c ∧ r = .d (.str c) := by
      simp only [pcomps, List.map_map, List.getElem?_map, Option.map_eq_some_iff] at hr
      obtain ⟨c, h1, h2⟩ := hr
      exact ⟨c, h1, h2.symm⟩
    have hcl : c.length ≤ 1000 := Nat.le_trans (split_le (List.mem_of_getElem? hc)) hb
    have hstep := normComps_snoc hc
    have hal : (normComps ((Txt.split (behind x) "/").take i)).length ≤ 1002 := by
      have h1 := foldl_len (l := (Txt.split (behind x) "/").take i) (acc := [])
      have h2 := split_count (x := behind x) (y := "/")
      have h3 := List.length_take_le' i (Txt.split (behind x) "/")
      simp only [List.length_nil] at h1
      show (List.foldl stepC [] _).length ≤ 1002
      omega
    unfold normBase normAt
    generalize hN : normComps ((Txt.split (behind x) "/").take (i + 1)) = N' at hstep
    generalize normComps ((Txt.split (behind x) "/").take i) = acc at hstep hal
    refine ⟨_, AS.nameL (.inl rfl) (by o_facts U), ?_⟩
    apply SF.cons; apply SF.ite
    case ht =>
      o_facts C
      o_facts S; all_goals try first | assumption | decide | exact IntMulOk.of_right (by decide +kernel) | (intro _; exact rfl) | (simp only [lens] at *; omega) | simp [sizeLine_eq] <;> omega
    case h1 =>
      intro hb1
      have hst : stepC acc c = acc := by
        unfold stepC; rw [if_pos (by simpa using hb1)]
      apply SF.cons; apply SF.cont
      refine ⟨rfl, ?_⟩
      rw [hstep, hst]
      o_facts L
    case h2 =>
      intro hb1
      have hn : ¬ (c.length = 0 ∨ c = ".") := by simpa using hb1
      (repeat (apply SF.nil))
      rcases nil_or_snoc acc with rfl | ⟨l, d, rfl⟩
      · have hst : stepC [] c = if c ≠ ".." then [c] else [] := by
          unfold stepC; rw [if_neg hn]; simp
        apply SF.cons; apply SF.ite (b := (c != ".."))
        case ht =>
          apply TV.eq
          case h =>
            apply TV.or3 (t₁ := c != "..") (t₂ := false) (t₃ := false)
            case h₁ =>
              o_facts C
              o_facts S; all_goals try first | assumption | decide | exact IntMulOk.of_right (by decide +kernel) | (intro _; exact rfl) | (simp only [lens] at *; omega) | simp [sizeLine_eq] <;> omega
            case h₂ =>
              intro _
              apply TV.eq
              case h =>
                o_facts C
                o_facts S; all_goals try first | assumption | decide | exact IntMulOk.of_right (by decide +kernel) | (intro _; exact rfl) | (simp only [lens] at *; omega) | simp [sizeLine_eq] <;> omega
              simp [len_slash]
            case h₃ =>
              intro _ _
              apply TV.eq (p := false && false)
              case h =>
                apply TV.and2 (t₁ := false)
                case h₁ =>
                  apply TV.eq
                  case h =>
                    o_facts C
                    o_facts S; all_goals try first | assumption | decide | exact IntMulOk.of_right (by decide +kernel) | (intro _; exact rfl) | (simp only [lens] at *; omega) | simp [sizeLine_eq] <;> omega
                  rfl
                intro h; cases h
              rfl
          simp
        case h1 =>
          intro hc2
          have hc2 : c ≠ ".." := by simpa using hc2
          apply SF.cons; apply SF.appendL
          case hd => decide +kernel
          case hs => rfl
          case hline => rfl
          case hi => rfl
          case hw => rfl
          case hx => o_facts M
          case he =>
            o_facts C
            o_facts S; all_goals try first | assumption | decide | exact IntMulOk.of_right (by decide +kernel) | (intro _; exact rfl) | (simp only [lens] at *; omega) | simp [sizeLine_eq] <;> omega
          case up => o_facts U
          case hl => simp
          (repeat (apply SF.nil))
          refine ⟨rfl, ?_⟩
          rw [hstep, hst, if_pos hc2]
          simp only [List.map_cons, List.map_nil, List.nil_append]
          o_facts L
        case h2 =>
          intro hc2
          have hc2 : ¬ c ≠ ".." := by simpa using hc2
          apply SF.cons; apply SF.ite (b := false)
          case h1 => exact fun h => nomatch h
          case ht =>
            apply TV.eq
            case h =>
              o_facts C
              o_facts S; all_goals try first | assumption | decide | exact IntMulOk.of_right (by decide +kernel) | (intro _; exact rfl) | (simp only [lens] at *; omega) | simp [sizeLine_eq] <;> omega
            rfl
          intro _
          (repeat (apply SF.nil))
          refine ⟨rfl, ?_⟩
          rw [hstep, hst, if_neg hc2]
          o_facts L
      · have hst : stepC (l ++ [d]) c = if c ≠ ".." ∨ d = ".." then l ++ [d] ++ [c] else l := by
          unfold stepC; rw [if_neg hn]; simp
        simp only [List.map_append, List.map_cons, List.map_nil]
        have hal' : l.length ≤ 1002 := by simp at hal; omega
        apply SF.cons; apply SF.ite (b := (c != ".." || d == ".."))
        case ht =>
          apply TV.eq
          case h =>
            apply TV.or3 (t₁ := c != "..") (t₂ := false) (t₃ := d == "..")
            case h₁ =>
              o_facts C
              o_facts S; all_goals try first | assumption | decide | exact IntMulOk.of_right (by decide +kernel) | (intro _; exact rfl) | (simp only [lens] at *; omega) | simp [sizeLine_eq] <;> omega
            case h₂ =>
              intro _
              apply TV.eq
              case h =>
                o_facts C
                o_facts S; all_goals try first | assumption | decide | exact IntMulOk.of_right (by decide +kernel) | (intro _; exact rfl) | (simp only [lens] at *; omega) | simp [sizeLine_eq] <;> omega
              simp [len_slash]
            case h₃ =>
              intro _ _
              apply TV.eq
              case h =>
                apply TV.and2p
                case h₁ =>
                  o_facts C
                  o_facts S; all_goals try first | assumption | decide | exact IntMulOk.of_right (by decide +kernel) | (intro _; exact rfl) | (simp only [lens] at *; omega) | simp [sizeLine_eq] <;> omega
                case h₂ =>
                  o_facts C
                  o_facts S; all_goals try first | assumption | decide | exact IntMulOk.of_right (by decide +kernel) | (intro _; exact rfl) | (simp only [lens] at *; omega) | simp [sizeLine_eq] <;> omega
              simp
          simp
        case h1 =>
          intro hc2
          have hc2 : c ≠ ".." ∨ d = ".." := by simpa using hc2
          apply SF.cons; apply SF.appendL
          case hd => decide +kernel
          case hs => rfl
          case hline => rfl
          case hi => rfl
          case hw => rfl
          case hx => o_facts M
          case he =>
            o_facts C
            o_facts S; all_goals try first | assumption | decide | exact IntMulOk.of_right (by decide +kernel) | (intro _; exact rfl) | (simp only [lens] at *; omega) | simp [sizeLine_eq] <;> omega
          case up => o_facts U
          case hl => simp [sizeLine_eq]; omega
          (repeat (apply SF.nil))
          refine ⟨rfl, ?_⟩
          rw [hstep, hst, if_pos hc2]
          simp only [List.map_append, List.map_cons, List.map_nil]
          o_facts L
        case h2 =>
          intro hc2
          have hc2 : ¬ (c ≠ ".." ∨ d = "..") := by simpa using hc2
          apply SF.cons; apply SF.ite (b := true)
          case h2 => exact fun h => nomatch h
          case ht =>
            apply TV.eq
            case h =>
              o_facts C
              o_facts S; all_goals try first | assumption | decide | exact IntMulOk.of_right (by decide +kernel) | (intro _; exact rfl) | (simp only [lens] at *; omega) | simp [sizeLine_eq] <;> omega
            (simp)
          intro _
          apply SF.cons; apply SF.popL
          case hd => decide +kernel
          case hline => rfl
          case hi => rfl
          case hw => rfl
          case hx => o_facts M
          case up => o_facts U
          case hl => simp [sizeLine_eq]; omega
          (repeat (apply SF.nil))
          refine ⟨rfl, ?_⟩
          rw [hstep, hst, if_neg hc2]
          o_facts L
  case fin =>
    have e : normBase x (List.map Res.d (pcomps x)).length = normAt x (normComps (Txt.split (behind x) "/")) := by
      unfold normBase
      rw [List.length_map, pcomps, List.length_map, List.take_length]
    rw [e]
    have hj := normComps_ok (sep := "/") hb (by decide +kernel)
    have hjl := join_short (sep := "/") (normComps_all hb).1 (normComps_all hb).2 (by decide +kernel)
    have hN : normS x = "/" ++ Str.join "/" (normComps (Txt.split (behind x) "/")) := rfl
    generalize normComps (Txt.split (behind x) "/") = N' at hj hN hjl
    unfold normAt
    (repeat (apply SF.nil))
    apply SF.freezeL (x := "new_comps")
    case hx => o_facts M
    case up => o_facts U
    apply SF.cons; apply SF.assignL
    case hk => exact .inl rfl
    case hs => rfl
    case he =>
      o_facts C
      o_facts S; all_goals try first | assumption | decide | exact IntMulOk.of_right (by decide +kernel) | (intro _; exact rfl) | (simp only [lens] at *; omega) | simp [sizeLine_eq] <;> omega
    case up => o_facts U
    apply SF.cons; apply SF.assignL
    case hk => exact .inl rfl
    case hs => rfl
    case he =>
      o_facts C
      o_facts S; all_goals try first | assumption | decide | exact IntMulOk.of_right (by decide +kernel) | (intro _; exact rfl) | (simp only [lens] at *; omega) | simp [sizeLine_eq] <;> omega
    case up => o_facts U
    apply SF.cons; apply SF.ret
    case he =>
      o_facts C
      o_facts S; all_goals try first | assumption | decide | exact IntMulOk.of_right (by decide +kernel) | (intro _; exact rfl) | (simp only [lens] at *; omega) | simp [sizeLine_eq] <;> omega
    refine Gives.eq (st := ⟨[], fun _ => True⟩) ?_
    rw [hN, if_neg]
    rw [Str.length_append, len_slash]; omega
end
end Mine
end
section
open PySem PySem.W PyProof.Rows PySem.Calls
set_option maxHeartbeats 8000000
namespace Mine
section
variable {prog : Program} {w : World} {B : Heap} {mg mb : Str → Option Value} {n : Nat} {rs : List Res} {r : Res} {xs : List Str}
theorem csplitroot_ok (C : Cx w B mg mb) (x : Str) (hx : Rooted x) : OP prog w B 2 (fun vs => call (.ref 162) vs) [.d (.str x)] (.d (.tuple [.str "", .str "/", .str (behind x)])) := by
  have hl := hx.len
  refine OP.fun (xs := ["p"]) C 162 ⟨_, rfl, rfl⟩ rfl (by decide +kernel) rfl rfl (fun vs hv => by obtain ⟨v0, rfl⟩ := lenV1 hv; rfl) rfl (by decide +kernel) (by decide +kernel) (by decide +kernel) fun L => ?_
  simp only [slotsOf, List.zip_cons_cons, List.zip_nil_left, List.map_cons, List.map_nil]
  apply SF.cons; apply SF.assignL
  case hk => exact .inl rfl
  case hs => rfl
  case he =>
    o_facts C
    o_facts S; all_goals try first | assumption | decide | exact IntMulOk.of_right (by decide +kernel) | (intro _; exact rfl) | (simp only [lens] at *; omega) | simp [sizeLine_eq] <;> omega
  case up => o_facts U
  apply SF.cons; apply SF.assignL
  case hk => exact .inl rfl
  case hs => rfl
  case he =>
    o_facts C
    o_facts S; all_goals try first | assumption | decide | exact IntMulOk.of_right (by decide +kernel) | (intro _; exact rfl) | (simp only [lens] at *; omega) | simp [sizeLine_eq] <;> omega
  case up => o_facts U
  apply SF.cons; apply SF.ite (b := false)
  case h1 => exact fun h => nomatch h
  case ht =>
    apply TV.eq
    case h =>
      o_facts C
      o_facts S; all_goals try first | assumption | decide | exact IntMulOk.of_right (by decide +kernel) | (intro _; exact rfl) | (simp only [lens] at *; omega) | simp [sizeLine_eq] <;> omega
    simp [hx.one]
  intro _
  apply SF.cons; apply SF.ite (b := true)
  case h2 => exact fun h => nomatch h
  case ht =>
    apply TV.eq
    case h =>
      o_facts C
      o_facts S; all_goals try first | assumption | decide | exact IntMulOk.of_right (by decide +kernel) | (intro _; exact rfl) | (simp only [lens] at *; omega) | simp [sizeLine_eq] <;> omega
    simp [hx.two]
  intro _
  apply SF.cons; apply SF.ret
  case he =>
    apply EV.tuple (ds := [_, _, _])
    o_facts C
    o_facts S; all_goals try first | assumption | decide | exact IntMulOk.of_right (by decide +kernel) | (intro _; exact rfl) | (simp only [lens] at *; omega) | simp [sizeLine_eq] <;> omega
  apply Gives.eq
  rfl
theorem normpathC_ok (C : Cx w B mg mb) (x : Str) (hx : Rooted x) : OP prog w B 3 (fun vs => call (.ref 169) vs) [.d (.str x)] (.d (.str (shelf (normS x)))) := by
  have hl := hx.len
  have hb : (behind x).length ≤ 1000 := Nat.le_trans (Txt.slice_le _ _ _) hl
  have hp := hx.pos
  refine OP.fun (xs := ["path"]) C 169 ⟨_, rfl, rfl⟩ rfl (by decide +kernel) rfl rfl (fun vs hv => by obtain ⟨v0, rfl⟩ := lenV1 hv; rfl) rfl (by decide +kernel) (by decide +kernel) (by decide +kernel) fun L => ?_
  simp only [slotsOf, List.zip_cons_cons, List.zip_nil_left, List.map_cons, List.map_nil]
  apply SF.cons; apply SF.assignL
  case hk => exact .inl rfl
  case hs => rfl
  case he =>
    o_facts C
    o_facts S; all_goals try first | assumption | decide | exact IntMulOk.of_right (by decide +kernel) | (intro _; exact rfl) | (simp only [lens] at *; omega) | simp [sizeLine_eq] <;> omega
  case up => o_facts U
  apply SF.cons; apply SF.assignL
  case hk => exact .inl rfl
  case hs => rfl
  case he =>
    o_facts C
    o_facts S; all_goals try first | assumption | decide | exact IntMulOk.of_right (by decide +kernel) | (intro _; exact rfl) | (simp only [lens] at *; omega) | simp [sizeLine_eq] <;> omega
  case up => o_facts U
  apply SF.cons; apply SF.assignL
  case hk => exact .inl rfl
  case hs => rfl
  case he =>
    o_facts C
    o_facts S; all_goals try first | assumption | decide | exact IntMulOk.of_right (by decide +kernel) | (intro _; exact rfl) | (simp only [lens] at *; omega) | simp [sizeLine_eq] <;> omega
  case up => o_facts U
  apply SF.cons; apply SF.ite (b := false)
  case h1 => exact fun h => nomatch h
  case ht =>
    apply TV.eq
    case h =>
      o_facts C
      o_facts S; all_goals try first | assumption | decide | exact IntMulOk.of_right (by decide +kernel) | (intro _; exact rfl) | (simp only [lens] at *; omega) | simp [sizeLine_eq] <;> omega
    (simp; omega)
  intro _
  (repeat (apply SF.nil))
  apply SF.cons; apply SF.assignTupleL
  case hs => rfl
  case hw => rfl
  case he =>
    o_facts C
    o_facts S; all_goals try first | assumption | decide | exact IntMulOk.of_right (by decide +kernel) | (intro _; exact rfl) | (simp only [lens] at *; omega) | simp [sizeLine_eq] <;> omega
  case a =>
    apply AS.tupleL (xs := [("_", _), ("initial_slashes", _), ("path", _)]) (ds := [_, _, _])
    · apply Upds.cons
      focus o_facts U
      apply Upds.cons
      focus o_facts U
      apply Upds.cons
      focus o_facts U
      exact Upds.nil
    · intro p hp
      simp only [List.mem_cons, List.not_mem_nil, or_false] at hp
      rcases hp with rfl | rfl | rfl <;> exact .inl rfl
  apply SF.cons; apply SF.assignL
  case hk => exact .inl rfl
  case hs => rfl
  case he =>
    o_facts C
    o_facts S; all_goals try first | assumption | decide | exact IntMulOk.of_right (by decide +kernel) | (intro _; exact rfl) | (simp only [lens] at *; omega) | simp [sizeLine_eq] <;> omega
  case up => o_facts U
  apply SF.cons; apply SF.ownL
  case hk => exact .inl rfl
  case up => o_facts U
  apply SF.cons; apply SF.forL (normBase x)
  case it =>
    apply IT.list (ds := pcomps x)
    o_facts C
  case hZ => exact fun _ h => h
  case h0 => exact List.Sublist.refl _
  case turn =>
    intro i r hr
    obtain ⟨c, hc, rfl⟩ : ∃ c, (Txt.split (behind x) "/")[i]? = some c ∧ r = .d (.str c) := by
      simp only [pcomps, List.map_map, List.getElem?_map, Option.map_eq_some_iff] at hr
      obtain ⟨c, h1, h2⟩ := hr
      exact ⟨c, h1, h2.symm⟩
    have hcl : c.length ≤ 1000 := Nat.le_trans (split_le (List.mem_of_getElem? hc)) hb
    have hstep := normComps_snoc hc
    have hal : (normComps ((Txt.split (behind x) "/").take i)).length ≤ 1002 := by
      have h1 := foldl_len (l := (Txt.split (behind x) "/").take i) (acc := [])
      have h2 := split_count (x := behind x) (y := "/")
      have h3 := List.length_take_le' i (Txt.split (behind x) "/")
      simp only [List.length_nil] at h1
      show (List.foldl stepC [] _).length ≤ 1002
      omega
    unfold normBase normAt
    generalize hN : normComps ((Txt.split (behind x) "/").take (i + 1)) = N' at hstep
    generalize normComps ((Txt.split (behind x) "/").take i) = acc at hstep hal
    refine ⟨_, AS.nameL (.inl rfl) (by o_facts U), ?_⟩
    apply SF.cons; apply SF.ite
    case ht =>
      o_facts C
      o_facts S; all_goals try first | assumption | decide | exact IntMulOk.of_right (by decide +kernel) | (intro _; exact rfl) | (simp only [lens] at *; omega) | simp [sizeLine_eq] <;> omega
    case h1 =>
      intro hb1
      have hst : stepC acc c = acc := by
        unfold stepC; rw [if_pos (by simpa using hb1)]
      apply SF.cons; apply SF.cont
      refine ⟨rfl, ?_⟩
      rw [hstep, hst]
      o_facts L
    case h2 =>
      intro hb1
      have hn : ¬ (c.length = 0 ∨ c = ".") := by simpa using hb1
      (repeat (apply SF.nil))
      rcases nil_or_snoc acc with rfl | ⟨l, d, rfl⟩
      · have hst : stepC [] c = if c ≠ ".." then [c] else [] := by
          unfold stepC; rw [if_neg hn]; simp
        apply SF.cons; apply SF.ite (b := (c != ".."))
        case ht =>
          apply TV.eq
          case h =>
            apply TV.or3 (t₁ := c != "..") (t₂ := false) (t₃ := false)
            case h₁ =>
              o_facts C
              o_facts S; all_goals try first | assumption | decide | exact IntMulOk.of_right (by decide +kernel) | (intro _; exact rfl) | (simp only [lens] at *; omega) | simp [sizeLine_eq] <;> omega
            case h₂ =>
              intro _
              apply TV.eq
              case h =>
                o_facts C
                o_facts S; all_goals try first | assumption | decide | exact IntMulOk.of_right (by decide +kernel) | (intro _; exact rfl) | (simp only [lens] at *; omega) | simp [sizeLine_eq] <;> omega
              simp [len_slash]
            case h₃ =>
              intro _ _
              apply TV.eq (p := false && false)
              case h =>
                apply TV.and2 (t₁ := false)
                case h₁ =>
                  apply TV.eq
                  case h =>
                    o_facts C
                    o_facts S; all_goals try first | assumption | decide | exact IntMulOk.of_right (by decide +kernel) | (intro _; exact rfl) | (simp only [lens] at *; omega) | simp [sizeLine_eq] <;> omega
                  rfl
                intro h; cases h
              rfl
          simp
        case h1 =>
          intro hc2
          have hc2 : c ≠ ".." := by simpa using hc2
          apply SF.cons; apply SF.appendL
          case hd => decide +kernel
          case hs => rfl
          case hline => rfl
          case hi => rfl
          case hw => rfl
          case hx => o_facts M
          case he =>
            o_facts C
            o_facts S; all_goals try first | assumption | decide | exact IntMulOk.of_right (by decide +kernel) | (intro _; exact rfl) | (simp only [lens] at *; omega) | simp [sizeLine_eq] <;> omega
          case up => o_facts U
          case hl => simp
          (repeat (apply SF.nil))
          refine ⟨rfl, ?_⟩
          rw [hstep, hst, if_pos hc2]
          simp only [List.map_cons, List.map_nil, List.nil_append]
          o_facts L
        case h2 =>
          intro hc2
          have hc2 : ¬ c ≠ ".." := by simpa using hc2
          apply SF.cons; apply SF.ite (b := false)
          case h1 => exact fun h => nomatch h
          case ht =>
            apply TV.eq
            case h =>
              o_facts C
              o_facts S; all_goals try first | assumption | decide | exact IntMulOk.of_right (by decide +kernel) | (intro _; exact rfl) | (simp only [lens] at *; omega) | simp [sizeLine_eq] <;> omega
            rfl
          intro _
          (repeat (apply SF.nil))
          refine ⟨rfl, ?_⟩
          rw [hstep, hst, if_neg hc2]
          o_facts L
      · have hst : stepC (l ++ [d]) c = if c ≠ ".." ∨ d = ".." then l ++ [d] ++ [c] else l := by
          unfold stepC; rw [if_neg hn]; simp
        simp only [List.map_append, List.map_cons, List.map_nil]
        have hal' : l.length ≤ 1002 := by simp at hal; omega
        apply SF.cons; apply SF.ite (b := (c != ".." || d == ".."))
        case ht =>
          apply TV.eq
          case h =>
            apply TV.or3 (t₁ := c != "..") (t₂ := false) (t₃ := d == "..")
            case h₁ =>
              o_facts C
              o_facts S; all_goals try first | assumption | decide | exact IntMulOk.of_right (by decide +kernel) | (intro _; exact rfl) | (simp only [lens] at *; omega) | simp [sizeLine_eq] <;> omega
            case h₂ =>
              intro _
              apply TV.eq
              case h =>
                o_facts C
                o_facts S; all_goals try first | assumption | decide | exact IntMulOk.of_right (by decide +kernel) | (intro _; exact rfl) | (simp only [lens] at *; omega) | simp [sizeLine_eq] <;> omega
              simp [len_slash]
            case h₃ =>
              intro _ _
              apply TV.eq
              case h =>
                apply TV.and2p
                case h₁ =>
                  o_facts C
                  o_facts S; all_goals try first | assumption | decide | exact IntMulOk.of_right (by decide +kernel) | (intro _; exact rfl) | (simp only [lens] at *; omega) | simp [sizeLine_eq] <;> omega
                case h₂ =>
                  o_facts C
                  o_facts S; all_goals try first | assumption | decide | exact IntMulOk.of_right (by decide +kernel) | (intro _; exact rfl) | (simp only [lens] at *; omega) | simp [sizeLine_eq] <;> omega
              simp
          simp
        case h1 =>
          intro hc2
          have hc2 : c ≠ ".." ∨ d = ".." := by simpa using hc2
          apply SF.cons; apply SF.appendL
          case hd => decide +kernel
          case hs => rfl
          case hline => rfl
          case hi => rfl
          case hw => rfl
          case hx => o_facts M
          case he =>
            o_facts C
            o_facts S; all_goals try first | assumption | decide | exact IntMulOk.of_right (by decide +kernel) | (intro _; exact rfl) | (simp only [lens] at *; omega) | simp [sizeLine_eq] <;> omega
          case up => o_facts U
          case hl => simp [sizeLine_eq]; omega
          (repeat (apply SF.nil))
          refine ⟨rfl, ?_⟩
          rw [hstep, hst, if_pos hc2]
          simp only [List.map_append, List.map_cons, List.map_nil]
          o_facts L
        case h2 =>
          intro hc2
          have hc2 : ¬ (c ≠ ".." ∨ d = "..") := by simpa using hc2
          apply SF.cons; apply SF.ite (b := true)
          case h2 => exact fun h => nomatch h
          case ht =>
            apply TV.eq
            case h =>
              o_facts C
              o_facts S; all_goals try first | assumption | decide | exact IntMulOk.of_right (by decide +kernel) | (intro _; exact rfl) | (simp only [lens] at *; omega) | simp [sizeLine_eq] <;> omega
            (simp)
          intro _
          apply SF.cons; apply SF.popL
          case hd => decide +kernel
          case hline => rfl
          case hi => rfl
          case hw => rfl
          case hx => o_facts M
          case up => o_facts U
          case hl => simp [sizeLine_eq]; omega
          (repeat (apply SF.nil))
          refine ⟨rfl, ?_⟩
          rw [hstep, hst, if_neg hc2]
          o_facts L
  case fin =>
    have e : normBase x (List.map Res.d (pcomps x)).length = normAt x (normComps (Txt.split (behind x) "/")) := by
      unfold normBase
      rw [List.length_map, pcomps, List.length_map, List.take_length]
    rw [e]
    have hj := normComps_ok (sep := "/") hb (by decide +kernel)
    have hjl := join_short (sep := "/") (normComps_all hb).1 (normComps_all hb).2 (by decide +kernel)
    have hN : normS x = "/" ++ Str.join "/" (normComps (Txt.split (behind x) "/")) := rfl
    generalize normComps (Txt.split (behind x) "/") = N' at hj hN hjl
    unfold normAt
    (repeat (apply SF.nil))
    apply SF.freezeL (x := "new_comps")
    case hx => o_facts M
    case up => o_facts U
    apply SF.cons; apply SF.assignL
    case hk => exact .inl rfl
    case hs => rfl
    case he =>
      o_facts C
      o_facts S; all_goals try first | assumption | decide | exact IntMulOk.of_right (by decide +kernel) | (intro _; exact rfl) | (simp only [lens] at *; omega) | simp [sizeLine_eq] <;> omega
    case up => o_facts U
    apply SF.cons; apply SF.assignL
    case hk => exact .inl rfl
    case hs => rfl
    case he =>
      o_facts C
      o_facts S; all_goals try first | assumption | decide | exact IntMulOk.of_right (by decide +kernel) | (intro _; exact rfl) | (simp only [lens] at *; omega) | simp [sizeLine_eq] <;> omega
    case up => o_facts U
    apply SF.cons; apply SF.ite (b := false)
    case h1 => exact fun h => nomatch h
    case ht =>
      apply TV.eq
      case h =>
        o_facts C
        o_facts S; all_goals try first | assumption | decide | exact IntMulOk.of_right (by decide +kernel) | (intro _; exact rfl) | (simp only [lens] at *; omega) | simp [sizeLine_eq] <;> omega
      (rw [Str.length_append, len_slash]; simp; omega)
    intro _
    (repeat (apply SF.nil))
    have hsh : ("/" ++ Str.join "/" N').length ≤ 2000000 := by rw [Str.length_append, len_slash]; omega
    apply SF.cons; apply SF.ret
    case he =>
      o_facts C
      o_facts S; all_goals try first | assumption | decide | exact IntMulOk.of_right (by decide +kernel) | (intro _; exact rfl) | (simp only [lens] at *; omega) | simp [sizeLine_eq] <;> omega
    refine Gives.eq (st := ⟨[], fun _ => True⟩) ?_
    rw [hN]
end
end Mine
end
section
open PySem PySem.W PyProof.Rows PySem.Calls
set_option maxHeartbeats 8000000
namespace Mine
section
variable {prog : Program} {w : World} {B : Heap} {mg mb : Str → Option Value} {n : Nat} {rs : List Res} {r : Res} {xs : List Str}
theorem kind_ok (C : Cx w B mg mb) (nm x : Str) : OP prog w B 1 (fun vs => call (.ref 141) vs) [.d (.str nm), .d (.str x)] (.d (.str "")) := by
  refine OP.fun (xs := ["name", "x"]) C 141 ⟨_, rfl, rfl⟩ rfl (by decide +kernel) rfl rfl (fun vs hv => by obtain ⟨v0, v1, rfl⟩ := lenV2 hv; rfl) rfl (by decide +kernel) (by decide +kernel) (by decide +kernel) fun L => ?_
  simp only [slotsOf, List.zip_cons_cons, List.zip_nil_left, List.map_cons, List.map_nil]
  apply SF.cons; apply SF.assignL
  case hk => exact .inl rfl
  case hs => rfl
  case he =>
    o_facts C
    o_facts S; all_goals try first | assumption | decide | exact IntMulOk.of_right (by decide +kernel) | (intro _; exact rfl) | (simp only [lens] at *; omega) | simp [sizeLine_eq] <;> omega
  case up => o_facts U
  apply SF.cons; apply SF.ite (b := true)
  case h2 => exact fun h => nomatch h
  case ht =>
    apply TV.eq
    case h =>
      o_facts C
      o_facts S; all_goals try first | assumption | decide | exact IntMulOk.of_right (by decide +kernel) | (intro _; exact rfl) | (simp only [lens] at *; omega) | simp [sizeLine_eq] <;> omega
    rfl
  intro _
  apply SF.cons; apply SF.ret
  case he =>
    o_facts C
    o_facts S; all_goals try first | assumption | decide | exact IntMulOk.of_right (by decide +kernel) | (intro _; exact rfl) | (simp only [lens] at *; omega) | simp [sizeLine_eq] <;> omega
  refine Gives.eq (st := ⟨[], fun _ => True⟩) ?_
  rfl
theorem cpath_ok (C : Cx w B mg mb) (n1 n2 n3 x : Str) : OP prog w B 2 (fun vs => call (.ref 148) vs) [.d (.str n1), .d (.str n2), .d (.str n3), .d (.tuple [.str x]), .ed] (.d (.str x)) := by
  refine OP.fun (xs := ["name", "cname", "argname", "args", "kwargs"]) C 148 ⟨_, rfl, rfl⟩ rfl (by decide +kernel) rfl rfl (fun vs hv => by obtain ⟨v0, v1, v2, v3, v4, rfl⟩ := lenV5 hv; rfl) rfl (by decide +kernel) (by decide +kernel) (by decide +kernel) fun L => ?_
  simp only [slotsOf, List.zip_cons_cons, List.zip_nil_left, List.map_cons, List.map_nil]
  apply SF.cons; apply SF.ite (b := true)
  case h2 => exact fun h => nomatch h
  case ht =>
    apply TV.eq
    case h =>
      o_facts C
      o_facts S; all_goals try first | assumption | decide | exact IntMulOk.of_right (by decide +kernel) | (intro _; exact rfl) | (simp only [lens] at *; omega) | simp [sizeLine_eq] <;> omega
    rfl
  intro _
  apply SF.cons; apply SF.assignL
  case hk => exact .inl rfl
  case hs => rfl
  case he =>
    o_facts C
    o_facts S; all_goals try first | assumption | decide | exact IntMulOk.of_right (by decide +kernel) | (intro _; exact rfl) | (simp only [lens] at *; omega) | simp [sizeLine_eq] <;> omega
  case up => o_facts U
  (repeat (apply SF.nil))
  apply SF.cons; apply SF.assignL
  case hk => exact .inl rfl
  case hs => rfl
  case he =>
    o_facts C
    o_facts S; all_goals try first | assumption | decide | exact IntMulOk.of_right (by decide +kernel) | (intro _; exact rfl) | (simp only [lens] at *; omega) | simp [sizeLine_eq] <;> omega
  case up => o_facts U
  apply SF.cons; apply SF.ite (b := false)
  case h1 => exact fun h => nomatch h
  case ht =>
    apply TV.eq
    case h =>
      o_facts C
      o_facts S; all_goals try first | assumption | decide | exact IntMulOk.of_right (by decide +kernel) | (intro _; exact rfl) | (simp only [lens] at *; omega) | simp [sizeLine_eq] <;> omega
    rfl
  intro _
  (repeat (apply SF.nil))
  apply SF.cons; apply SF.ret
  case he =>
    o_facts C
    o_facts S; all_goals try first | assumption | decide | exact IntMulOk.of_right (by decide +kernel) | (intro _; exact rfl) | (simp only [lens] at *; omega) | simp [sizeLine_eq] <;> omega
  refine Gives.eq (st := ⟨[], fun _ => True⟩) ?_
  rfl
theorem bind_normpath (v : Value) : bindArgs (fdIn 176) ⟨[v], []⟩ = (do let t ← newTuple [v]; let d ← alloc { cls := .type "dict", data := .dict #[] }; pure [("args", t), ("kwargs", .ref d)]) := by rfl
theorem low_fresh (C : Cx w B mg mb) {h : Heap} (k : Ext B h) : (h.objs.size == sysModules) = false := by
  obtain ⟨o, e⟩ : ∃ o, B.get? 94 = some o := ⟨_, C.K 94 _ rfl⟩
  have h1 := Heap.lt_size (k _ _ e)
  rw [beq_eq_false_iff_ne]
  show h.objs.size ≠ 1
  intro e2
  rw [e2] at h1
  exact absurd h1 (by decide)
theorem normpathP_ok (C : Cx w B mg mb) (x : Str) (hx : Rooted x) : OP prog w B 4 (fun vs => call (.ref 176) vs) [.d (.str x)] (.d (.str (shelf (normS x)))) := by
  refine OP.fnG (xs := ["args", "kwargs"]) (rs' := [.d (.tuple [.str x]), .ed]) (C.K 176 _ rfl) (fd := fdIn 176) rfl C.lim (codeOk.rec C.K (ob := (heapK P₀).lookup (codeAt (fdIn 176))) (by decide +kernel) rfl) rfl rfl (fun A s X Q E vs R O y q => ?_) (by decide +kernel) (by decide +kernel) (by decide +kernel) (fun L => ?_)
  · cases y with
    | cons y1 y2 =>
      cases y2
      rename_i v
      rw [bind_normpath]
      refine wpAny_bind (wpAny_newTuple (wpAny_bind (wpAny_alloc (wpAny_pure ?_))))
      have k1 : Ext s.heap (s.heap.push { cls := .type "tuple", data := .seq [v].toArray }) := Ext.push _ _
      have k2 := k1.pushR { cls := .type "dict", data := .dict #[] }
      refine q [("args", _), ("kwargs", _)] _ _ k2 rfl ?_
      refine .cons ?_ (.cons ?_ .nil)
      · exact RV.ext (r := .d (.tuple [.str x])) (Rd.of_tuple (vs := [v]) O.freshSize (IsTup.push_new _ _) (.cons (Rd.ext y1 k1) .nil)) (Ext.push _ _)
      · exact ⟨_, rfl, (O.ext k1).freshSize, low_fresh C (O.base.trans k1), Heap.get?_push_size _ rfl⟩
  simp only [slotsOf, List.zip_cons_cons, List.zip_nil_left, List.map_cons, List.map_nil]
  apply SF.cons; apply SF.ret
  case he =>
    o_facts C
    o_facts S; all_goals try first | assumption | decide | exact IntMulOk.of_right (by decide +kernel) | (intro _; exact rfl) | (simp only [lens] at *; omega) | simp [sizeLine_eq] <;> omega
  refine Gives.eq (st := ⟨[], fun _ => True⟩) ?_
  rfl
end
end Mine
end
section
open PySem PySem.W PyProof.Rows PySem.Calls
set_option maxHeartbeats 8000000
namespace Mine
section
variable {prog : Program} {w : World} {B : Heap} {mg mb : Str → Option Value} {n : Nat} {rs : List Res} {r : Res} {xs : List Str}
noncomputable def joinS (a b : Str) : Str := if Txt.startswith b "/" || a.length == 0 then b else if Txt.endswith a "/" then a ++ b else a ++ ("/" ++ b)
theorem bind_join (u v : Value) : bindArgs (fdIn 115) ⟨[u, v], []⟩ = (do let t ← newTuple [v]; pure [("a", u), ("p", t)]) := by rfl
noncomputable def joinBase (a b c : Str) : List (Str × Slot) := [("a", .r (.d (.str a))), ("p", .r (.d (.tuple [.str b]))), ("sep", .r (.d (.str "/"))), ("path", .r (.d (.str c)))]
noncomputable def joinAt (a b : Str) : Nat → List (Str × Slot)
  | 0 => joinBase a b a
  | _ => joinBase a b (joinS a b)
theorem join_ok (C : Cx w B mg mb) (a b : Str) (ha : a.length ≤ 1000) (hb : b.length ≤ 1000) : OP prog w B 2 (fun vs => call (.ref 115) vs) [.d (.str a), .d (.str b)] (.d (.str (joinS a b))) := by
  refine OP.fnG (xs := ["a", "p"]) (rs' := [.d (.str a), .d (.tuple [.str b])]) (C.K 115 _ rfl) (fd := fdIn 115) rfl C.lim (codeOk.rec C.K (ob := (heapK P₀).lookup (codeAt (fdIn 115))) (by decide +kernel) rfl) rfl rfl (fun A s X Q E vs R O y q => ?_) (by decide +kernel) (by decide +kernel) (by decide +kernel) (fun L => ?_)
  · cases y with
    | cons y1 y2 =>
      cases y2 with
      | cons y2 y3 =>
        cases y3
        rename_i u v
        rw [bind_join]
        refine wpAny_bind (wpAny_newTuple (wpAny_pure ?_))
        have k1 : Ext s.heap (s.heap.push { cls := .type "tuple", data := .seq [v].toArray }) := Ext.push _ _
        refine q [("a", _), ("p", _)] _ _ k1 rfl ?_
        exact .cons (y1.ext k1) (.cons (Rd.of_tuple (vs := [v]) O.freshSize (IsTup.push_new _ _) (.cons (Rd.ext y2 k1) .nil)) .nil)
  simp only [slotsOf, List.zip_cons_cons, List.zip_nil_left, List.map_cons, List.map_nil]
  apply SF.cons; apply SF.assignL
  case hk => exact .inl rfl
  case hs => rfl
  case he =>
    o_facts C
    o_facts S; all_goals try first | assumption | decide | exact IntMulOk.of_right (by decide +kernel) | (intro _; exact rfl) | (simp only [lens] at *; omega) | simp [sizeLine_eq] <;> omega
  case up => o_facts U
  apply SF.cons; apply SF.assignL
  case hk => exact .inl rfl
  case hs => rfl
  case he =>
    o_facts C
    o_facts S; all_goals try first | assumption | decide | exact IntMulOk.of_right (by decide +kernel) | (intro _; exact rfl) | (simp only [lens] at *; omega) | simp [sizeLine_eq] <;> omega
  case up => o_facts U
  apply SF.cons; apply SF.assignL
  case hk => exact .inl rfl
  case hs => rfl
  case he =>
    o_facts C
    o_facts S; all_goals try first | assumption | decide | exact IntMulOk.of_right (by decide +kernel) | (intro _; exact rfl) | (simp only [lens] at *; omega) | simp [sizeLine_eq] <;> omega
  case up => o_facts U
  apply SF.cons; apply SF.try
  apply SF.cons; apply SF.forL (joinAt a b)
  case it =>
    apply IT.tuple (ds := [.str b])
    o_facts C
  case hZ => exact fun _ h => h
  case h0 => exact List.Sublist.refl _
  case turn =>
    intro i r hr
    obtain ⟨rfl, rfl⟩ : i = 0 ∧ r = .d (.str b) := by
      cases i with
      | zero => exact ⟨rfl, (Option.some.inj hr).symm⟩
      | succ i => cases hr
    refine ⟨_, AS.nameL (.inl rfl) (by o_facts U), ?_⟩
    simp only [joinAt, joinBase]
    apply SF.cons; apply SF.assignL
    case hk => exact .inl rfl
    case hs => rfl
    case he =>
      o_facts C
      o_facts S; all_goals try first | assumption | decide | exact IntMulOk.of_right (by decide +kernel) | (intro _; exact rfl) | (simp only [lens] at *; omega) | simp [sizeLine_eq] <;> omega
    case up => o_facts U
    apply SF.cons; apply SF.ite
    case ht =>
      o_facts C
      o_facts S; all_goals try first | assumption | decide | exact IntMulOk.of_right (by decide +kernel) | (intro _; exact rfl) | (simp only [lens] at *; omega) | simp [sizeLine_eq] <;> omega
    case h1 =>
      intro h1
      have e : joinS a b = b := by unfold joinS; rw [if_pos (by simpa using h1)]
      rw [e]
      apply SF.cons; apply SF.assignL
      case hk => exact .inl rfl
      case hs => rfl
      case he =>
        o_facts C
        o_facts S; all_goals try first | assumption | decide | exact IntMulOk.of_right (by decide +kernel) | (intro _; exact rfl) | (simp only [lens] at *; omega) | simp [sizeLine_eq] <;> omega
      case up => o_facts U
      (repeat (apply SF.nil))
      refine ⟨rfl, ?_⟩
      o_facts L
    case h2 =>
      intro h1
      apply SF.cons; apply SF.ite
      case ht =>
        o_facts C
        o_facts S; all_goals try first | assumption | decide | exact IntMulOk.of_right (by decide +kernel) | (intro _; exact rfl) | (simp only [lens] at *; omega) | simp [sizeLine_eq] <;> omega
      case h1 =>
        intro h2
        have e : joinS a b = a ++ b := by unfold joinS; rw [if_neg (by simpa using h1), if_pos h2]
        rw [e]
        apply SF.cons; apply SF.augL
        case hx => rfl
        case hk => exact .inl rfl
        case he =>
          o_facts C
          o_facts S; all_goals try first | assumption | decide | exact IntMulOk.of_right (by decide +kernel) | (intro _; exact rfl) | (simp only [lens] at *; omega) | simp [sizeLine_eq] <;> omega
        case up => o_facts U
        case hl => o_facts S; all_goals try first | assumption | decide | exact IntMulOk.of_right (by decide +kernel) | (intro _; exact rfl) | (simp only [lens] at *; omega) | simp [sizeLine_eq] <;> omega
        (repeat (apply SF.nil))
        refine ⟨rfl, ?_⟩
        o_facts L
      case h2 =>
        intro h2
        have e : joinS a b = a ++ ("/" ++ b) := by unfold joinS; rw [if_neg (by simpa using h1), if_neg (by simpa using h2)]
        rw [e]
        apply SF.cons; apply SF.augL
        case hx => rfl
        case hk => exact .inl rfl
        case he =>
          o_facts C
          o_facts S; all_goals try first | assumption | decide | exact IntMulOk.of_right (by decide +kernel) | (intro _; exact rfl) | (simp only [lens] at *; omega) | simp [sizeLine_eq] <;> omega
        case up => o_facts U
        case hl => o_facts S; all_goals try first | assumption | decide | exact IntMulOk.of_right (by decide +kernel) | (intro _; exact rfl) | (simp only [lens] at *; omega) | simp [sizeLine_eq] <;> omega
        (repeat (apply SF.nil))
        refine ⟨rfl, ?_⟩
        o_facts L
  case fin =>
    simp only [List.length_map, List.length_cons, List.length_nil, joinAt, joinBase]
    (repeat (apply SF.nil))
    apply SF.cons; apply SF.ret
    case he =>
      o_facts C
      o_facts S; all_goals try first | assumption | decide | exact IntMulOk.of_right (by decide +kernel) | (intro _; exact rfl) | (simp only [lens] at *; omega) | simp [sizeLine_eq] <;> omega
    refine Gives.eq (st := ⟨[], fun _ => True⟩) ?_
    rfl
end
end Mine
end
section
open PySem PySem.W PyProof.Rows PySem.Calls
set_option maxHeartbeats 8000000
namespace Mine
section
variable {prog : Program} {w : World} {B : Heap} {mg mb : Str → Option Value} {n : Nat} {rs : List Res} {r : Res} {xs : List Str}
noncomputable def figs : List Str := [".", "a", "b", "ab", "a//", "ab/../b", "./ab", "b/.."]
noncomputable def figW : List (List Str) := [[], ["a"], ["b"], ["ab"], ["a"], ["b"], ["ab"], []]
noncomputable def figOf (k : Nat) : Str := (figs[k]?).getD ""
noncomputable def figWOf (k : Nat) : List Str := (figW[k]?).getD []
noncomputable def wayGo : Nat → Nat → List Str → Str → List Str × Str
  | 0, _, ws, sp => (ws, sp)
  | k + 1, r, ws, sp => if r = 0 then (ws, sp) else wayGo k (r / 8) (ws ++ figWOf (r % 8)) (joinS sp (figOf (r % 8)))
noncomputable def way (r : Nat) : List Str × Str := wayGo 4 r ["a"] "/a"
theorem lt8 {k : Nat} (h : k < 8) : k = 0 ∨ k = 1 ∨ k = 2 ∨ k = 3 ∨ k = 4 ∨ k = 5 ∨ k = 6 ∨ k = 7 := (show ∀ k, k < 8 → k = 0 ∨ k = 1 ∨ k = 2 ∨ k = 3 ∨ k = 4 ∨ k = 5 ∨ k = 6 ∨ k = 7 from by decide) k h
theorem fig_get {k : Nat} (h : k < 8) : (figs.map PyData.str)[((k : Nat) : Int).toNat]? = some (.str (figOf k)) := by
  rcases lt8 h with rfl | rfl | rfl | rfl | rfl | rfl | rfl | rfl <;> rfl
theorem figW_get {k : Nat} (h : k < 8) : (figW.map txts)[((k : Nat) : Int).toNat]? = some (txts (figWOf k)) := by
  rcases lt8 h with rfl | rfl | rfl | rfl | rfl | rfl | rfl | rfl <;> rfl
theorem fig_len {k : Nat} (h : k < 8) : (figOf k).length ≤ 7 := by
  rcases lt8 h with rfl | rfl | rfl | rfl | rfl | rfl | rfl | rfl <;> decide +kernel
theorem figW_len {k : Nat} (h : k < 8) : (figWOf k).length ≤ 1 := by
  rcases lt8 h with rfl | rfl | rfl | rfl | rfl | rfl | rfl | rfl <;> decide +kernel
theorem joinS_len (a b : Str) : (joinS a b).length ≤ a.length + 1 + b.length := by
  unfold joinS
  split
  · omega
  · split
    · rw [Str.length_append]; omega
    · rw [Str.length_append, Str.length_append, len_slash]; omega
noncomputable def wayBase (r' : Nat) (ws : List Str) (sp : Str) : List (Str × Slot) := [("rest", .r (.d (.int (r' : Nat)))), ("words", .r (.d (txts ws))), ("spelled", .r (.d (.str sp)))]
theorem way_ok (C : Cx w B mg mb) (r : Nat) (hr : r < 8 ^ 4) : OP prog w B 3 (fun vs => call (.ref 257) vs) [.d (.int r)] (.d (.tuple [txts (way r).1, .str (way r).2])) := by
  refine OP.fun (xs := ["rest"]) C 257 ⟨_, rfl, rfl⟩ rfl (by decide +kernel) rfl rfl (fun vs hv => by obtain ⟨v0, rfl⟩ := lenV1 hv; rfl) rfl (by decide +kernel) (by decide +kernel) (by decide +kernel) fun L => ?_
  simp only [slotsOf, List.zip_cons_cons, List.zip_nil_left, List.map_cons, List.map_nil]
  apply SF.cons; apply SF.assignL
  case hk => exact .inl rfl
  case hs => rfl
  case he =>
    o_facts C
    o_facts S; all_goals try first | assumption | decide | exact IntMulOk.of_right (by decide +kernel) | (intro _; exact rfl) | (simp only [lens] at *; omega) | simp [sizeLine_eq] <;> omega
  case up => o_facts U
  apply SF.cons; apply SF.assignL
  case hk => exact .inl rfl
  case hs => rfl
  case he =>
    o_facts C
    o_facts S; all_goals try first | assumption | decide | exact IntMulOk.of_right (by decide +kernel) | (intro _; exact rfl) | (simp only [lens] at *; omega) | simp [sizeLine_eq] <;> omega
  case up => o_facts U
  apply SF.cons; apply SF.whileL (fun j l => ∃ r' ws sp, l = wayBase r' ws sp ∧ r' < 8 ^ j ∧ wayGo j r' ws sp = way r ∧ sp.length + 10 * j ≤ 100 ∧ ws.length + j ≤ 100) 4
  case h0 => exact ⟨r, ["a"], "/a", rfl, hr, rfl, by decide +kernel, by decide⟩
  case turn =>
    rintro j l ⟨r', ws, sp, rfl, HH⟩
    have h1 := HH.1
    have h2 := HH.2.1
    have h3 := HH.2.2.1
    have h4 := HH.2.2.2
    clear HH
    unfold wayBase
    refine ⟨decide (0 < r'), ?_, fun hb => ?_, fun hb => ?_⟩
    · apply TV.eq
      case h =>
        o_facts C
        o_facts S; all_goals try first | assumption | decide | exact IntMulOk.of_right (by decide +kernel) | (intro _; exact rfl) | (simp only [lens] at *; omega) | simp [sizeLine_eq] <;> omega
      simp
    · have hb : 0 < r' := by simpa using hb
      obtain ⟨k, rfl⟩ : ∃ k, j = k + 1 := by
        cases j with
        | zero => simp at h1; omega
        | succ k => exact ⟨k, rfl⟩
      have h8 : r' % 8 < 8 := Nat.mod_lt _ (by decide)
      have hf := fig_len h8
      have hl1 : sp.length ≤ 1000 := by omega
      have hl2 : (figOf (r' % 8)).length ≤ 1000 := by omega
      apply SF.cons; apply SF.assignL
      case hk => exact .inl rfl
      case hs => rfl
      case he =>
        apply EV.eq
        case h =>
          o_facts C
          o_facts S; all_goals try first | assumption | decide | exact IntMulOk.of_right (by decide +kernel) | (intro _; exact rfl) | (simp only [lens] at *; omega) | simp [sizeLine_eq] <;> omega
        exact congrArg (fun i => Res.d (.int i)) (fmod_nat r' 8)
      case up => o_facts U
      apply SF.cons; apply SF.assignL
      case hk => exact .inl rfl
      case hs => rfl
      case he =>
        o_facts C
        case hx => exact fig_get h8
        o_facts S; all_goals try first | assumption | decide | exact IntMulOk.of_right (by decide +kernel) | (intro _; exact rfl) | (simp only [lens] at *; omega) | simp [sizeLine_eq] <;> omega
      case up => o_facts U
      apply SF.cons; apply SF.assignL (r := .d (txts (ws ++ figWOf (r' % 8))))
      case hk => exact .inl rfl
      case he =>
        apply EV.eq
        case h =>
          o_facts C
          case hx => exact figW_get h8
          o_facts S; all_goals try first | assumption | decide | exact IntMulOk.of_right (by decide +kernel) | (intro _; exact rfl) | (simp only [lens] at *; omega) | simp [sizeLine_eq] <;> omega
          have := figW_len h8
          all_goals (simp [sizeLine_eq]; omega)
        exact congrArg (fun l => Res.d (.list l)) List.map_append.symm
      case up => o_facts U
      apply SF.cons; apply SF.assignL
      case hk => exact .inl rfl
      case hs => rfl
      case he =>
        apply EV.eq
        case h =>
          o_facts C
          o_facts S; all_goals try first | assumption | decide | exact IntMulOk.of_right (by decide +kernel) | (intro _; exact rfl) | (simp only [lens] at *; omega) | simp [sizeLine_eq] <;> omega
        exact congrArg (fun i => Res.d (.int i)) (fdiv_nat r' 8)
      case up => o_facts U
      (repeat (apply SF.nil))
      have hq : r' / 8 < 8 ^ k := by rw [Nat.pow_succ] at h1; omega
      have hj := joinS_len sp (figOf (r' % 8))
      have hw := figW_len h8
      refine ⟨k, Nat.lt_succ_self k, rfl, _, ?_, r' / 8, ws ++ figWOf (r' % 8), joinS sp (figOf (r' % 8)), rfl, hq, ?_, by omega, by rw [List.length_append]; omega⟩
      · o_facts L
      · rw [← h2, wayGo, if_neg (by omega)]
    · have hb : r' = 0 := by simpa using hb
      subst hb
      have e : way r = (ws, sp) := by
        rw [← h2]
        cases j with
        | zero => rfl
        | succ k => rw [wayGo, if_pos rfl]
      rw [e]
      (repeat (apply SF.nil))
      apply SF.cons; apply SF.ret
      case he =>
        o_facts C
        o_facts S; all_goals try first | assumption | decide | exact IntMulOk.of_right (by decide +kernel) | (intro _; exact rfl) | (simp only [lens] at *; omega) | simp [sizeLine_eq] <;> omega
      refine Gives.eq (st := ⟨[], fun _ => True⟩) ?_
      rfl
end
end Mine
end
section
open PySem PySem.W PyProof.Rows PySem.Calls
set_option maxHeartbeats 8000000
namespace Mine
section
variable {prog : Program} {w : World} {B : Heap} {mg mb : Str → Option Value} {n : Nat} {rs : List Res} {r : Res} {xs : List Str}
theorem fdm_nat (a b c : Nat) : ((a : Int).fdiv (b : Int)).fmod (c : Int) = ((a / b % c : Nat) : Int) := by rw [fdiv_nat, fmod_nat]
noncomputable def lkinds : Str := "?pc?d?b?-?l?s???"
noncomputable def lpairs : List Str := ["--", "-w", "r-", "rw"]
noncomputable abbrev ch1 (x : Str) (k : Nat) : Str := ⟨#[(x.cps[k]?).getD 0]⟩
noncomputable def lrows : List (Nat × Nat × Str) := [(64, 2048, "-xSs"), (8, 1024, "-xSs"), (1, 512, "-xTt")]
noncomputable def lstep (m : Nat) (t : Str) (p : Nat × Nat × Str) : Str := t ++ (lpairs[m / p.1 % 8 / 2]?).getD "" ++ ch1 p.2.2 (m / p.1 % 8 % 2 + m / p.2.1 % 2 * 2)
noncomputable def listS (m : Nat) : Str := lrows.foldl (lstep m) (ch1 lkinds (m / 4096))
theorem ch1_get {x : Str} {k : Nat} (h : k < x.cps.size) : x.cps[k]? = some ((x.cps[k]?).getD 0) := by
  rw [Array.getElem?_eq_getElem h]; rfl
theorem lpairs_get {k : Nat} (h : k < 4) : (lpairs.map PyData.str)[((k : Nat) : Int).toNat]? = some (.str ((lpairs[k]?).getD "")) := by
  have : k = 0 ∨ k = 1 ∨ k = 2 ∨ k = 3 := by omega
  rcases this with rfl | rfl | rfl | rfl <;> rfl
theorem lpairs_len {k : Nat} : ((lpairs[k]?).getD "").length ≤ 2 := by
  by_cases h : k < 4
  · have : k = 0 ∨ k = 1 ∨ k = 2 ∨ k = 3 := by omega
    rcases this with rfl | rfl | rfl | rfl <;> decide +kernel
  · rw [List.getElem?_eq_none (by show 4 ≤ k; omega)]; decide +kernel
theorem ch1_len (x : Str) (k : Nat) : (ch1 x k).length = 1 := rfl
theorem lstep_len (m : Nat) (t : Str) (p : Nat × Nat × Str) : (lstep m t p).length ≤ t.length + 3 := by
  unfold lstep
  rw [Str.length_append, Str.length_append, ch1_len]
  have := lpairs_len (k := m / p.1 % 8 / 2)
  omega
noncomputable def listBase (m i : Nat) : List (Str × Slot) := [("mode", .r (.d (.int (m : Nat)))), ("text", .r (.d (.str ((lrows.take i).foldl (lstep m) (ch1 lkinds (m / 4096))))))]
theorem lfold_len (m i : Nat) : ((lrows.take i).foldl (lstep m) (ch1 lkinds (m / 4096))).length ≤ 10 := by
  have : i = 0 ∨ i = 1 ∨ i = 2 ∨ 3 ≤ i := by omega
  rcases this with rfl | rfl | rfl | h
  · show (ch1 _ _).length ≤ 10; rw [ch1_len]; decide
  · show (lstep m _ _).length ≤ 10
    have := lstep_len m (ch1 lkinds (m / 4096)) (64, 2048, "-xSs"); rw [ch1_len] at this; omega
  · show (lstep m (lstep m _ _) _).length ≤ 10
    have h1 := lstep_len m (ch1 lkinds (m / 4096)) (64, 2048, "-xSs"); rw [ch1_len] at h1
    have h2 := lstep_len m (lstep m (ch1 lkinds (m / 4096)) (64, 2048, "-xSs")) (8, 1024, "-xSs"); omega
  · rw [List.take_of_length_le h]
    show (lstep m (lstep m (lstep m _ _) _) _).length ≤ 10
    have h1 := lstep_len m (ch1 lkinds (m / 4096)) (64, 2048, "-xSs"); rw [ch1_len] at h1
    have h2 := lstep_len m (lstep m (ch1 lkinds (m / 4096)) (64, 2048, "-xSs")) (8, 1024, "-xSs")
    have h3 := lstep_len m (lstep m (lstep m (ch1 lkinds (m / 4096)) (64, 2048, "-xSs")) (8, 1024, "-xSs")) (1, 512, "-xTt"); omega
noncomputable def lrowD (p : Nat × Nat × Str) : PyData := .tuple [.int (p.1 : Nat), .int (p.2.1 : Nat), .str p.2.2]
theorem listing_ok (C : Cx w B mg mb) (m : Nat) (hm : m < 65536) : OP prog w B 1 (fun vs => call (.ref 269) vs) [.d (.int (m : Nat))] (.d (.str (listS m))) := by
  have e0 : (m : Int).fdiv 4096 = ((m / 4096 : Nat) : Int) := fdiv_nat m 4096
  refine OP.fun (xs := ["mode"]) C 269 ⟨_, rfl, rfl⟩ rfl (by decide +kernel) rfl rfl (fun vs hv => by obtain ⟨v0, rfl⟩ := lenV1 hv; rfl) rfl (by decide +kernel) (by decide +kernel) (by decide +kernel) fun L => ?_
  simp only [slotsOf, List.zip_cons_cons, List.zip_nil_left, List.map_cons, List.map_nil]
  apply SF.cons; apply SF.assignL (r := .d (.str (ch1 lkinds (m / 4096))))
  case hk => exact .inl rfl
  case he =>
    o_facts C
    all_goals (try rw [e0])
    case hx => exact ch1_get (show m / 4096 < 16 by omega)
    all_goals (first | decide | with_reducible exact Int.natCast_nonneg _ | omega)
  case up => o_facts U
  apply SF.cons; apply SF.forL (listBase m)
  case it =>
    apply IT.list
    o_facts C
  case hZ => exact fun _ h => h
  case h0 => exact List.Sublist.refl _
  case turn =>
    intro i r hr
    obtain ⟨⟨u, a, ls⟩, hp, rfl⟩ : ∃ p, lrows[i]? = some p ∧ r = .d (lrowD p) := by
      have hr : ((lrows.map lrowD).map Res.d)[i]? = some r := hr
      rw [List.map_map, List.getElem?_map, Option.map_eq_some_iff] at hr
      obtain ⟨c, h1, h2⟩ := hr
      exact ⟨c, h1, h2.symm⟩
    have hu : (u = 64 ∨ u = 8 ∨ u = 1) ∧ (a = 2048 ∨ a = 1024 ∨ a = 512) ∧ ls.cps.size = 4 := by
      have := List.mem_of_getElem? hp
      simp only [lrows, List.mem_cons, List.not_mem_nil, or_false, Prod.mk.injEq] at this
      rcases this with ⟨rfl, rfl, rfl⟩ | ⟨rfl, rfl, rfl⟩ | ⟨rfl, rfl, rfl⟩ <;> exact ⟨by decide, by decide, rfl⟩
    obtain ⟨hu, ha, hls⟩ := hu
    have htl := lfold_len m i
    have hnext : (lrows.take (i + 1)).foldl (lstep m) (ch1 lkinds (m / 4096)) = lstep m ((lrows.take i).foldl (lstep m) (ch1 lkinds (m / 4096))) (u, a, ls) := by
      rw [List.take_add_one, hp]; simp [List.foldl_append]
    unfold listBase
    rw [hnext]
    generalize (lrows.take i).foldl (lstep m) (ch1 lkinds (m / 4096)) = t at htl
    apply turn_
    case a =>
      apply AS.tupleL (xs := [("unit", _), ("above", _), ("lasts", _)]) (ds := [_, _, _])
      focus
        apply Upds.cons
        focus o_facts U
        apply Upds.cons
        focus o_facts U
        apply Upds.cons
        focus o_facts U
        exact Upds.nil
      focus
        intro p hp
        simp only [List.mem_cons, List.not_mem_nil, or_false] at hp
        rcases hp with rfl | rfl | rfl <;> (first | exact .inl rfl | exact .inr ⟨rfl, _, rfl⟩)
    have e1 : ((m : Int).fdiv (u : Nat)).fmod 8 = ((m / u % 8 : Nat) : Int) := fdm_nat m u 8
    apply SF.cons; apply SF.assignL (r := .d (.int ((m / u % 8 : Nat) : Int)))
    case hk => exact .inl rfl
    case he =>
      apply EV.eq
      case h =>
        o_facts C
        all_goals (first | decide | with_reducible exact Int.natCast_nonneg _ | omega)
      exact congrArg (fun i => Res.d (.int i)) e1
    case up => o_facts U
    have hf : m / u % 8 < 8 := Nat.mod_lt _ (by decide)
    generalize hfe : m / u % 8 = f at hf
    have e2 : (f : Int).fdiv 2 = ((f / 2 : Nat) : Int) := fdiv_nat f 2
    apply SF.cons; apply SF.assignL (r := .d (.str (t ++ (lpairs[f / 2]?).getD "")))
    case hk => exact .inl rfl
    case he =>
      o_facts C
      all_goals (try rw [e2])
      all_goals (try dsimp only)
      case hx => exact lpairs_get (by omega)
      all_goals (first | decide | with_reducible exact Int.natCast_nonneg _ | omega | (rw [sizeLine_eq]; have := lpairs_len (k := f / 2); omega))
    case up => o_facts U
    have e3 : (f : Int).fmod 2 + ((m : Int).fdiv (a : Nat)).fmod 2 * 2 = ((f % 2 + m / a % 2 * 2 : Nat) : Int) := by
      rw [show (f : Int).fmod 2 = ((f % 2 : Nat) : Int) from fmod_nat f 2, show ((m : Int).fdiv (a : Nat)).fmod 2 = ((m / a % 2 : Nat) : Int) from fdm_nat m a 2]; omega
    apply SF.cons; apply SF.assignL (r := .d (.str (t ++ (lpairs[f / 2]?).getD "" ++ ch1 ls (f % 2 + m / a % 2 * 2))))
    case hk => exact .inl rfl
    case he =>
      o_facts C
      all_goals (try dsimp only)
      all_goals (try rw [e3])
      all_goals (try dsimp only)
      case hx => exact ch1_get (by omega)
      all_goals (first | decide | with_reducible exact Int.natCast_nonneg _ | omega | exact IntMulOk.of_right (by decide +kernel) | (rw [sizeLine_eq, ch1_len, Str.length_append]; have := lpairs_len (k := f / 2); omega))
    case up => o_facts U
    (repeat (apply SF.nil))
    refine ⟨rfl, ?_⟩
    unfold lstep
    rw [hfe]
    o_facts L
  case fin =>
    unfold listBase
    (repeat (apply SF.nil))
    apply SF.cons; apply SF.ret
    case he =>
      o_facts C
      o_facts S; all_goals try first | assumption | decide | exact IntMulOk.of_right (by decide +kernel) | (intro _; exact rfl) | (simp only [lens] at *; omega) | simp [sizeLine_eq] <;> omega
    refine Gives.eq (st := ⟨[], fun _ => True⟩) ?_
    rfl
end
end Mine
end
section
open PySem PySem.W PyProof.Rows PySem.Calls
set_option maxHeartbeats 8000000
namespace Mine
section
variable {prog : Program} {w : World} {B : Heap} {mg mb : Str → Option Value} {n : Nat} {rs : List Res} {r : Res} {xs : List Str}
noncomputable def sharedS : List Str → List Str → List Str
  | x :: xs, y :: ys => if x = y then x :: sharedS xs ys else []
  | _, _ => []
theorem sharedS_at : ∀ (a b : List Str) (i : Nat), a.take i = b.take i → (a[i]? = none ∨ b[i]? = none ∨ a[i]? ≠ b[i]?) → i ≤ a.length → i ≤ b.length → sharedS a b = a.take i
  | [], [], i, _, _, _, _ => by simp [sharedS]
  | [], _ :: _, i, _, _, h, _ => by simp [sharedS]
  | _ :: _, [], i, _, _, _, h => by
    have : i = 0 := by simpa using h
    subst this; simp [sharedS]
  | x :: a, y :: b, 0, _, h, _, _ => by
    have : x ≠ y := by simpa using h
    simp [sharedS, this]
  | x :: a, y :: b, i + 1, h, h', h1, h2 => by
    simp only [List.take_succ_cons, List.cons.injEq] at h
    obtain ⟨rfl, h⟩ := h
    have ih := sharedS_at a b i h (by simpa using h') (by simpa using h1) (by simpa using h2)
    simp [sharedS, ih]
noncomputable def sharedBase (a b : List Str) (i : Nat) : List (Str × Slot) := [("one", .r (.d (txts a))), ("other", .r (.d (txts b))), ("shared", .own ((a.take i).map .str))]
theorem shared_ok (C : Cx w B mg mb) (a b : List Str) (ha : a.length ≤ 1000) : OP prog w B 1 (fun vs => call (.ref 276) vs) [.d (txts a), .d (txts b)] (.d (txts (sharedS a b))) := by
  refine OP.fun (xs := ["one", "other"]) C 276 ⟨_, rfl, rfl⟩ rfl (by decide +kernel) rfl rfl (fun vs hv => by obtain ⟨v0, v1, rfl⟩ := lenV2 hv; rfl) rfl (by decide +kernel) (by decide +kernel) (by decide +kernel) fun L => ?_
  simp only [slotsOf, List.zip_cons_cons, List.zip_nil_left, List.map_cons, List.map_nil]
  apply SF.cons; apply SF.ownL
  case hk => exact .inl rfl
  case up => o_facts U
  apply SF.cons; apply SF.forG (fun i l => l = sharedBase a b i ∧ a.take i = b.take i ∧ i ≤ a.length ∧ i ≤ b.length)
  case it =>
    apply IT.call
    o_facts C
  case hZ => exact fun _ h => h
  case h0 => exact ⟨rfl, by simp, Nat.zero_le _, Nat.zero_le _⟩
  case turn =>
    rintro i r l hr ⟨rfl, he, h1, h2⟩
    obtain ⟨x, y, hx, hy, rfl⟩ := zip_at hr
    have hlt := (List.getElem?_eq_some_iff.mp hx).1
    have hlt2 := (List.getElem?_eq_some_iff.mp hy).1
    unfold sharedBase
    apply turn_
    case a =>
      apply AS.tupleL (xs := [("left", _), ("right", _)]) (ds := [_, _])
      focus
        apply Upds.cons
        focus o_facts U
        apply Upds.cons
        focus o_facts U
        exact Upds.nil
      focus
        intro p hp
        simp only [List.mem_cons, List.not_mem_nil, or_false] at hp
        rcases hp with rfl | rfl <;> (first | exact .inl rfl | exact .inr ⟨rfl, _, rfl⟩)
    apply SF.cons; apply SF.ite
    case ht =>
      o_facts C
      o_facts S; all_goals try first | assumption | decide | exact IntMulOk.of_right (by decide +kernel) | (intro _; exact rfl) | (simp only [lens] at *; omega) | simp [sizeLine_eq] <;> omega
    case h1 =>
      intro hb
      have hb : x ≠ y := by simpa using hb
      apply SF.cons; apply SF.ret
      case he =>
        o_facts C
        o_facts S; all_goals try first | assumption | decide | exact IntMulOk.of_right (by decide +kernel) | (intro _; exact rfl) | (simp only [lens] at *; omega) | simp [sizeLine_eq] <;> omega
      refine Gives.eq (st := ⟨[], fun _ => True⟩) ?_
      rw [sharedS_at a b i he (.inr (.inr ?_)) h1 h2]
      rw [hx, hy]; simpa using hb
    case h2 =>
      intro hb
      have hb : x = y := by simpa using hb
      subst hb
      (repeat (apply SF.nil))
      apply SF.cons; apply SF.appendL
      case hd => decide +kernel
      case hs => rfl
      case hline => rfl
      case hi => rfl
      case hw => rfl
      case hx => o_facts M
      case he =>
        o_facts C
        o_facts S; all_goals try first | assumption | decide | exact IntMulOk.of_right (by decide +kernel) | (intro _; exact rfl) | (simp only [lens] at *; omega) | simp [sizeLine_eq] <;> omega
      case up => o_facts U
      case hl => (simp [sizeLine_eq]; omega)
      (repeat (apply SF.nil))
      refine ⟨rfl, sharedBase a b (i + 1), ?_, rfl, ?_, hlt, hlt2⟩
      · unfold sharedBase
        rw [List.take_add_one, hx, Option.toList_some, List.map_append, List.map_cons, List.map_nil]
        o_facts L
      · rw [List.take_add_one, List.take_add_one, hx, hy, he]
  case fin =>
    rintro l ⟨rfl, he, h1, h2⟩
    simp only [List.length_map, List.length_zip] at he h1 h2 ⊢
    unfold sharedBase
    (repeat (apply SF.nil))
    apply SF.cons; apply SF.ret
    case he =>
      o_facts C
      o_facts S; all_goals try first | assumption | decide | exact IntMulOk.of_right (by decide +kernel) | (intro _; exact rfl) | (simp only [lens] at *; omega) | simp [sizeLine_eq] <;> omega
    refine Gives.eq (st := ⟨[], fun _ => True⟩) ?_
    rw [sharedS_at a b _ he ?_ h1 h2]
    rcases Nat.le_total a.length b.length with h | h
    · left; rw [Nat.min_eq_left h]; simp
    · right; left; rw [Nat.min_eq_right h]; simp
end
end Mine
end
section
open PySem PySem.W PyProof.Rows PySem.Calls
set_option maxHeartbeats 8000000
namespace Mine
section
variable {prog : Program} {w : World} {B : Heap} {mg mb : Str → Option Value} {n : Nat} {rs : List Res} {r : Res} {xs : List Str}
noncomputable def metA (c p : Str) (acc : List Nat) (m : Nat) : List Nat := if c = p ∧ m ∉ acc then acc ++ [m] else acc
noncomputable def metStep (cf : Nat → Nat → Str) (pf : Nat → Str) (n : Nat) (acc : List Nat) (m : Nat) : List Nat := metA (cf n m) (pf m) (metA (cf n m) (pf n) acc m) n
noncomputable def metIn (cf : Nat → Nat → Str) (pf : Nat → Str) (other acc : List Nat) (n : Nat) : List Nat := other.foldl (metStep cf pf n) acc
noncomputable def metS (cf : Nat → Nat → Str) (pf : Nat → Str) (one other : List Nat) : List Nat := one.foldl (metIn cf pf other) []
theorem metA_len (c p : Str) (acc : List Nat) (m : Nat) : (metA c p acc m).length ≤ acc.length + 1 := by
  unfold metA; split
  · simp
  · omega
theorem metStep_len (cf : Nat → Nat → Str) (pf : Nat → Str) (n : Nat) (acc : List Nat) (m : Nat) : (metStep cf pf n acc m).length ≤ acc.length + 2 := by
  have h1 := metA_len (cf n m) (pf n) acc m
  have h2 := metA_len (cf n m) (pf m) (metA (cf n m) (pf n) acc m) n
  unfold metStep; omega
theorem foldl_at {α β : Type} {f : β → α → β} {b : β} {l : List α} {i : Nat} {x : α} (h : l[i]? = some x) : (l.take (i + 1)).foldl f b = f ((l.take i).foldl f b) x := by
  rw [List.take_add_one, h]; simp [List.foldl_append]
noncomputable def metBase (one other : List Nat) (cs : List (List Str)) (pl : List Str) (acc : List Nat) : List (Str × Slot) :=
  [("one", .r (.d (nums one))), ("other", .r (.d (nums other))), ("commons", .r (.d (txtss cs))), ("plains", .r (.d (txts pl))), ("met", .own (acc.map fun n => .int (n : Nat)))]
noncomputable def metBaseN (one other : List Nat) (cs : List (List Str)) (pl : List Str) (n : Nat) (acc : List Nat) : List (Str × Slot) :=
  [("one", .r (.d (nums one))), ("other", .r (.d (nums other))), ("commons", .r (.d (txtss cs))), ("plains", .r (.d (txts pl))), ("met", .own (acc.map fun n => .int (n : Nat))), ("n", .r (.d (.int (n : Nat))))]
theorem met_ok (C : Cx w B mg mb) (one other : List Nat) (cs : List (List Str)) (pl : List Str) (cf : Nat → Nat → Str) (pf : Nat → Str) (h1 : one.length ≤ 1000) (h2 : other.length ≤ 1000) (h3 : ∀ n ∈ one, n < 1000) (h4 : ∀ n ∈ other, n < 1000)
    (hcf : ∀ n ∈ one, ∀ m ∈ other, ∃ row, cs[max n m]? = some row ∧ row[min n m]? = some (cf n m)) (hp1 : ∀ n ∈ one, pl[n]? = some (pf n)) (hp2 : ∀ n ∈ other, pl[n]? = some (pf n)) :
    OP prog w B 1 (fun vs => call (.ref 283) vs) [.d (nums one), .d (nums other), .d (txtss cs), .d (txts pl)] (.d (nums (metS cf pf one other))) := by
  refine OP.fun (xs := ["one", "other", "commons", "plains"]) C 283 ⟨_, rfl, rfl⟩ rfl (by decide +kernel) rfl rfl (fun vs hv => by obtain ⟨v0, v1, v2, v3, rfl⟩ := lenV4 hv; rfl) rfl (by decide +kernel) (by decide +kernel) (by decide +kernel) fun L => ?_
  simp only [slotsOf, List.zip_cons_cons, List.zip_nil_left, List.map_cons, List.map_nil]
  apply SF.cons; apply SF.ownL
  case hk => exact .inl rfl
  case up => o_facts U
  apply SF.cons; apply SF.forG (fun i l => ∃ acc, l = metBase one other cs pl acc ∧ acc = (one.take i).foldl (metIn cf pf other) [] ∧ acc.length ≤ 2000 * i)
  case it =>
    apply IT.list
    o_facts C
  case hZ => exact fun _ h => h
  case h0 => exact ⟨[], rfl, rfl, by simp⟩
  case turn =>
    rintro i r l hr ⟨acc₀, rfl, hacc, hlen₀⟩
    obtain ⟨n, hn, rfl⟩ := map_at hr
    have hnm := List.mem_of_getElem? hn
    have hi : i < 1000 := by have := (List.getElem?_eq_some_iff.mp hn).1; omega
    have hn1 := h3 n hnm
    unfold metBase
    apply turn_
    case a =>
      apply AS.nameL (.inl rfl)
      o_facts U
    apply SF.cons; apply SF.forG (fun j l => ∃ acc, l = metBaseN one other cs pl n acc ∧ acc = (other.take j).foldl (metStep cf pf n) acc₀ ∧ acc.length ≤ 2000 * i + 2 * j)
    case it =>
      apply IT.list
      o_facts C
    case hZ => exact fun _ h => h
    case h0 => exact ⟨acc₀, rfl, rfl, hlen₀⟩
    case turn =>
      rintro j r l hr ⟨acc, rfl, hacc, hlen⟩
      obtain ⟨m, hm, rfl⟩ := map_at hr
      have hmm := List.mem_of_getElem? hm
      have hj : j < 1000 := by have := (List.getElem?_eq_some_iff.mp hm).1; omega
      have hm1 := h4 m hmm
      obtain ⟨row, hrow, hc⟩ := hcf n hnm m hmm
      have e1 : (if (m : Int) > (n : Nat) then (m : Int) else (n : Nat)) = ((max n m : Nat) : Int) := by split <;> omega
      have e2 : (if (m : Int) < (n : Nat) then (m : Int) else (n : Nat)) = ((min n m : Nat) : Int) := by split <;> omega
      have hx1 : (cs.map txts)[((max n m : Nat) : Int).toNat]? = some (txts row) := by rw [Int.toNat_natCast, List.getElem?_map, hrow]; rfl
      have hx2 : (row.map PyData.str)[((min n m : Nat) : Int).toNat]? = some (.str (cf n m)) := by rw [Int.toNat_natCast, List.getElem?_map, hc]; rfl
      have hx3 : (pl.map PyData.str)[((n : Nat) : Int).toNat]? = some (.str (pf n)) := by rw [Int.toNat_natCast, List.getElem?_map, hp1 n hnm]; rfl
      have hx4 : (pl.map PyData.str)[((m : Nat) : Int).toNat]? = some (.str (pf m)) := by rw [Int.toNat_natCast, List.getElem?_map, hp2 m hmm]; rfl
      have hnext := foldl_at (f := metStep cf pf n) (b := acc₀) hm
      rw [← hacc] at hnext
      have hstep : metStep cf pf n acc m = metA (cf n m) (pf m) (metA (cf n m) (pf n) acc m) n := rfl
      have hl1 := metA_len (cf n m) (pf n) acc m
      have hl2 := metStep_len cf pf n acc m
      generalize hA : metA (cf n m) (pf n) acc m = acc1 at hstep hl1
      unfold metBaseN
      apply turn_
      case a =>
        apply AS.nameL (.inl rfl)
        o_facts U
      apply SF.cons; apply SF.assignL (r := .d (.str (cf n m)))
      case hk => exact .inl rfl
      case he =>
        o_facts C
        all_goals (try rw [e1])
        all_goals (try rw [e2])
        all_goals (first | exact hx1 | exact hx2 | exact HasItems.list | decide | omega)
      case up => o_facts U
      apply SF.seq (fun st => st = ⟨[("one", .r (.d (nums one))), ("other", .r (.d (nums other))), ("commons", .r (.d (txtss cs))), ("plains", .r (.d (txts pl))), ("met", .own (acc1.map fun n => .int (n : Nat))), ("n", .r (.d (.int (n : Nat)))), ("m", .r (.d (.int (m : Nat)))), ("common", .r (.d (.str (cf n m))))], fun _ => True⟩)
      case a =>
        apply SF.ite
        case ht =>
          o_facts C
          all_goals (first | exact hx1 | exact hx2 | exact hx3 | exact HasItems.list | exact lay_ints _ | exact Nat.zero_le _ | exact rfl | decide | omega)
        case h1 =>
          intro hb
          rw [in_ints] at hb
          have hb : cf n m = pf n ∧ m ∉ acc := by simpa using hb
          have hA : acc1 = acc ++ [m] := by rw [← hA]; unfold metA; rw [if_pos hb]
          subst hA
          apply SF.cons; apply SF.appendL
          case hd => decide +kernel
          case hs => rfl
          case hline => rfl
          case hi => rfl
          case hw => rfl
          case hx => o_facts M
          case he =>
            o_facts C
            o_facts S; all_goals try first | assumption | decide | exact IntMulOk.of_right (by decide +kernel) | (intro _; exact rfl) | (simp only [lens] at *; omega) | simp [sizeLine_eq] <;> omega
          case up => o_facts U
          case hl => (simp [sizeLine_eq]; omega)
          apply SF.nil
          show _ = _
          rw [List.map_append, List.map_cons, List.map_nil]
        case h2 =>
          intro hb
          rw [in_ints] at hb
          have hb : ¬ (cf n m = pf n ∧ m ∉ acc) := by simpa using hb
          have hA : acc1 = acc := by rw [← hA]; unfold metA; rw [if_neg hb]
          subst hA
          exact SF.nil rfl
      case b =>
        rintro _ rfl
        apply SF.cons; apply SF.ite
        case ht =>
          o_facts C
          all_goals (first | exact hx1 | exact hx2 | exact hx4 | exact HasItems.list | exact lay_ints _ | exact Nat.zero_le _ | exact rfl | decide | omega)
        case h1 =>
          intro hb
          rw [in_ints] at hb
          have hb : cf n m = pf m ∧ n ∉ acc1 := by simpa using hb
          have hS : metStep cf pf n acc m = acc1 ++ [n] := by rw [hstep]; unfold metA; rw [if_pos hb]
          rw [hS] at hnext
          apply SF.cons; apply SF.appendL
          case hd => decide +kernel
          case hs => rfl
          case hline => rfl
          case hi => rfl
          case hw => rfl
          case hx => o_facts M
          case he =>
            o_facts C
            o_facts S; all_goals try first | assumption | decide | exact IntMulOk.of_right (by decide +kernel) | (intro _; exact rfl) | (simp only [lens] at *; omega) | simp [sizeLine_eq] <;> omega
          case up => o_facts U
          case hl => (simp [sizeLine_eq]; omega)
          (repeat (apply SF.nil))
          refine ⟨rfl, metBaseN one other cs pl n (acc1 ++ [n]), ?_, _, rfl, hnext.symm, by rw [List.length_append, List.length_singleton]; omega⟩
          unfold metBaseN
          rw [List.map_append, List.map_cons, List.map_nil]
          o_facts L
        case h2 =>
          intro hb
          rw [in_ints] at hb
          have hb : ¬ (cf n m = pf m ∧ n ∉ acc1) := by simpa using hb
          have hS : metStep cf pf n acc m = acc1 := by rw [hstep]; unfold metA; rw [if_neg hb]
          rw [hS] at hnext
          (repeat (apply SF.nil))
          refine ⟨rfl, metBaseN one other cs pl n acc1, ?_, _, rfl, hnext.symm, by omega⟩
          unfold metBaseN
          o_facts L
    case fin =>
      rintro l ⟨acc, rfl, hacc', hlen⟩
      simp only [List.length_map, List.take_length] at hacc' hlen
      unfold metBaseN
      (repeat (apply SF.nil))
      refine ⟨rfl, metBase one other cs pl acc, ?_, _, rfl, ?_, by omega⟩
      · unfold metBase
        o_facts L
      · rw [foldl_at hn, ← hacc, hacc']; rfl
  case fin =>
    rintro l ⟨acc, rfl, hacc, hlen⟩
    simp only [List.length_map, List.take_length] at hacc hlen
    unfold metBase
    (repeat (apply SF.nil))
    apply SF.cons; apply SF.ret
    case he =>
      o_facts C
      o_facts S; all_goals try first | assumption | decide | exact IntMulOk.of_right (by decide +kernel) | (intro _; exact rfl) | (simp only [lens] at *; omega) | simp [sizeLine_eq] <;> omega
    refine Gives.eq (st := ⟨[], fun _ => True⟩) ?_
    rw [hacc]; rfl
end
end Mine
end
section
open PySem PySem.W PyProof.Rows PySem.Calls
set_option maxHeartbeats 8000000
namespace Mine
section
variable {prog : Program} {w : World} {B : Heap} {mg mb : Str → Option Value} {n : Nat} {rs : List Res} {r : Res} {xs : List Str}
noncomputable def lackB (k m : Nat) : Bool := if k = 0 then m / 4096 != 4 else m / 2 ^ (9 - k) % 2 == 0
noncomputable def lackOf (k : Nat) (ws : List Str) (o : Row) : Option (List Str) := if ws.take o.ws.length = o.ws ∧ lackB k o.mode = true then some o.ws else none
noncomputable def lacksS (rows : List Row) (k : Nat) (ws : List Str) : List (List Str) := rows.filterMap (lackOf k ws)
noncomputable def dueS (both : Bool) (d : Bool × Bool) (at' above : Bool) : Bool × Bool := if both then (d.1 && at', d.2 && above) else (d.1 || at', d.2 || above)
noncomputable def dueAt (rows : List Row) (k : Nat) (both : Bool) (p : Row × (Bool × Bool)) : Bool × Bool :=
  dueS both p.2 (decide (lacksS rows k p.1.ws ≠ [])) (decide ((lacksS rows k p.1.ws).filter (fun v => decide (v ≠ p.1.ws)) ≠ []))
noncomputable def duesS (rows : List Row) (dues : List (Bool × Bool)) (k : Nat) (both : Bool) : List (Bool × Bool) := (rows.zip dues).map (dueAt rows k both)
theorem filterMap_at {α β : Type} {f : α → Option β} {l : List α} {i : Nat} {x : α} (h : l[i]? = some x) : (l.take (i + 1)).filterMap f = (l.take i).filterMap f ++ (f x).toList := by
  rw [List.take_add_one, h, List.filterMap_append]
  cases hx : f x <;> simp [hx]
noncomputable def OkRows (rows : List Row) : Prop := ∀ r ∈ rows, Oks r.ws ∧ r.ws.length ≤ 1000 ∧ r.mode < 65536
theorem lacks_ok {rows : List Row} {k : Nat} {ws : List Str} (h : OkRows rows) : Okss (lacksS rows k ws) := by
  intro x hx
  obtain ⟨o, ho, e⟩ := List.mem_filterMap.mp hx
  unfold lackOf at e
  split at e
  · cases e; exact (h o ho).1
  · cases e
theorem filter_f (Ls : List (List Str)) (ws : List Str) : Ls.filterMap (fun v => if v = ws then none else some (txts v)) = (Ls.filter (fun v => decide (v ≠ ws))).map txts := by
  induction Ls with
  | nil => rfl
  | cons v Ls ih => by_cases h : v = ws <;> simp_all
noncomputable def duesBase (rows : List Row) (dues : List (Bool × Bool)) (k : Nat) (both : Bool) (fresh : List (Bool × Bool)) : List (Str × Slot) :=
  [("rows", .r (.d (rowsD rows))), ("dues", .r (.d (duesD dues))), ("k", .r (.d (.int (k : Nat)))), ("both", .r (.d (.bool both))), ("fresh", .own (fresh.map dueD))]
noncomputable def duesIn (rows : List Row) (dues : List (Bool × Bool)) (k : Nat) (both : Bool) (fresh : List (Bool × Bool)) (row : Row) (due : Bool × Bool) (L : List (List Str)) : List (Str × Slot) :=
  [("rows", .r (.d (rowsD rows))), ("dues", .r (.d (duesD dues))), ("k", .r (.d (.int (k : Nat)))), ("both", .r (.d (.bool both))), ("fresh", .own (fresh.map dueD)), ("row", .r (.d (rowD row))), ("due", .r (.d (dueD due))), ("lacks", .own (L.map txts))]
theorem dues_ok (C : Cx w B mg mb) (rows : List Row) (dues : List (Bool × Bool)) (k : Nat) (both : Bool) (hr : OkRows rows) (hl : rows.length ≤ 1000) (hk : k ≤ 9) :
    OP prog w B 1 (fun vs => call (.ref 288) vs) [.d (rowsD rows), .d (duesD dues), .d (.int (k : Nat)), .d (.bool both)] (.d (duesD (duesS rows dues k both))) := by
  refine OP.fun (xs := ["rows", "dues", "k", "both"]) C 288 ⟨_, rfl, rfl⟩ rfl (by decide +kernel) rfl rfl (fun vs hv => by obtain ⟨v0, v1, v2, v3, rfl⟩ := lenV4 hv; rfl) rfl (by decide +kernel) (by decide +kernel) (by decide +kernel) fun L => ?_
  simp only [slotsOf, List.zip_cons_cons, List.zip_nil_left, List.map_cons, List.map_nil]
  apply SF.cons; apply SF.ownL
  case hk => exact .inl rfl
  case up => o_facts U
  apply SF.cons; apply SF.forG (fun i l => ∃ fr, l = duesBase rows dues k both fr ∧ fr = ((rows.zip dues).take i).map (dueAt rows k both) ∧ i ≤ (rows.zip dues).length)
  case it =>
    apply IT.call
    o_facts C
  case hZ => exact fun _ h => h
  case h0 => exact ⟨[], rfl, by simp, Nat.zero_le _⟩
  case turn =>
    rintro i r l hrr ⟨fr, rfl, hfr, hi⟩
    obtain ⟨row, due, hx, hy, rfl⟩ := zip_at hrr
    have hzip : (rows.zip dues)[i]? = some (row, due) := by rw [List.getElem?_zip_eq_some]; exact ⟨hx, hy⟩
    have hilt := (List.getElem?_eq_some_iff.mp hx).1
    have hilt2 := (List.getElem?_eq_some_iff.mp hy).1
    have hrow := hr row (List.mem_of_getElem? hx)
    have hfl : fr.length ≤ 1000 := by rw [hfr, List.length_map]; have := List.length_take_le i (rows.zip dues); omega
    unfold duesBase
    apply turn_
    case a =>
      apply AS.tupleL (xs := [("row", _), ("due", _)]) (ds := [_, _])
      · apply Upds.cons
        focus o_facts U
        apply Upds.cons
        focus o_facts U
        exact Upds.nil
      · intro p hp
        simp only [List.mem_cons, List.not_mem_nil, or_false] at hp
        rcases hp with rfl | rfl
        · exact .inr ⟨rfl, _, rfl⟩
        · exact .inl rfl
    apply SF.cons; apply SF.ownL
    case hk => exact .inl rfl
    case up => o_facts U
    apply SF.cons; apply SF.forG (fun j l => l = duesIn rows dues k both fr row due ((rows.take j).filterMap (lackOf k row.ws)) ∧ j ≤ rows.length)
    case it =>
      apply IT.list
      o_facts C
    case hZ => exact fun _ h => h
    case h0 => exact ⟨rfl, Nat.zero_le _⟩
    case turn =>
      rintro j r l hrr ⟨rfl, hj⟩
      obtain ⟨o, ho, rfl⟩ := map_at hrr
      have hjlt := (List.getElem?_eq_some_iff.mp ho).1
      obtain ⟨ho1, ho2, ho3⟩ := hr o (List.mem_of_getElem? ho)
      have hnext := filterMap_at (f := lackOf k row.ws) ho
      have hLl : ((rows.take j).filterMap (lackOf k row.ws)).length ≤ 1000 := by
        have h1 := List.length_filterMap_le (lackOf k row.ws) (rows.take j)
        have h2 := List.length_take_le j rows
        omega
      generalize hL : (rows.take j).filterMap (lackOf k row.ws) = Ls at hnext hLl
      unfold duesIn
      apply turn_
      case a =>
        apply AS.nameL (.inl rfl)
        o_facts U
      apply SF.cons; apply SF.ite (b := decide (row.ws.take o.ws.length = o.ws))
      case ht =>
        apply TV.eq
        case h =>
          apply TV.cmp (a := .d (txts (row.ws.take o.ws.length))) (b := .d (txts o.ws))
          case hl =>
            apply EV.eq
            case h =>
              apply EV.lsliceTo (ds := row.ws.map .str) (k := (((o.ws.map PyData.str).length : Nat) : Int))
              case ho =>
                o_facts C
                o_facts S; all_goals try first | assumption | decide | exact IntMulOk.of_right (by decide +kernel) | (intro _; exact rfl) | (simp only [lens] at *; omega) | simp [sizeLine_eq] <;> omega
              case hu =>
                o_facts C
                o_facts S; all_goals try first | assumption | decide | exact IntMulOk.of_right (by decide +kernel) | (intro _; exact rfl) | (simp only [lens] at *; omega) | simp [sizeLine_eq] <;> omega
                all_goals (simp [sizeLine_eq]; omega)
              case h0 => omega
              case hs =>
                have := hrow.2.1
                simp [sizeLine_eq]; omega
            show Res.d (.list _) = Res.d (.list ((row.ws.take o.ws.length).map .str))
            rw [List.map_take, Int.toNat_natCast, List.length_map]
          case hr =>
            o_facts C
            o_facts S; all_goals try first | assumption | decide | exact IntMulOk.of_right (by decide +kernel) | (intro _; exact rfl) | (simp only [lens] at *; omega) | simp [sizeLine_eq] <;> omega
          case ho => exact OP.eq (shaped_txts fun x hx => hrow.1 x (List.mem_of_mem_take hx)) (shaped_txts ho1)
          case hm => rfl
        exact eqv_txts _ _
      case h2 =>
        intro hb
        have hb : ¬ row.ws.take o.ws.length = o.ws := by simpa using hb
        have he : lackOf k row.ws o = none := by unfold lackOf; rw [if_neg (fun h => hb h.1)]
        rw [he, Option.toList_none, List.append_nil] at hnext
        (repeat (apply SF.nil))
        refine ⟨rfl, _, ?_, rfl, hjlt⟩
        rw [hnext]
        o_facts L
      case h1 =>
        intro hb
        have hb : row.ws.take o.ws.length = o.ws := by simpa using hb
        have e0 : (o.mode : Int).fdiv 4096 = ((o.mode / 4096 : Nat) : Int) := fdiv_nat _ 4096
        apply SF.seq (fun st => st = ⟨[("rows", .r (.d (rowsD rows))), ("dues", .r (.d (duesD dues))), ("k", .r (.d (.int (k : Nat)))), ("both", .r (.d (.bool both))), ("fresh", .own (fr.map dueD)), ("row", .r (.d (rowD row))), ("due", .r (.d (dueD due))), ("lacks", .own ((if k = 0 ∧ o.mode / 4096 ≠ 4 then Ls ++ [o.ws] else Ls).map txts)), ("other", .r (.d (rowD o)))], fun _ => True⟩)
        case a =>
          apply SF.ite (b := decide (k = 0 ∧ o.mode / 4096 ≠ 4))
          case ht =>
            apply TV.eq
            case h =>
              o_facts C
              o_facts S; all_goals try first | assumption | decide | exact IntMulOk.of_right (by decide +kernel) | (intro _; exact rfl) | (simp only [lens] at *; omega) | simp [sizeLine_eq] <;> omega
            rw [e0]
            by_cases h1 : k = 0 <;> by_cases h2 : o.mode / 4096 = 4 <;> simp [h1, h2] <;> omega
          case h1 =>
            intro hc
            have hc := of_decide_eq_true hc
            rw [if_pos hc]
            apply SF.cons; apply SF.appendL
            case hd => decide +kernel
            case hs => rfl
            case hline => rfl
            case hi => rfl
            case hw => rfl
            case hx => o_facts M
            case he =>
              o_facts C
              o_facts S; all_goals try first | assumption | decide | exact IntMulOk.of_right (by decide +kernel) | (intro _; exact rfl) | (simp only [lens] at *; omega) | simp [sizeLine_eq] <;> omega
            case up => o_facts U
            case hl => simp [sizeLine_eq]; omega
            apply SF.nil
            show _ = _
            rw [List.map_append, List.map_cons, List.map_nil]
          case h2 =>
            intro hc
            have hc := of_decide_eq_false hc
            rw [if_neg hc]
            exact SF.nil rfl
        case b =>
          rintro _ rfl
          rcases Nat.eq_zero_or_pos k with rfl | hkp
          · have hstep : lackOf 0 row.ws o = if o.mode / 4096 ≠ 4 then some o.ws else none := by
              unfold lackOf lackB; simp [hb]
            have hnow : (if (0 : Nat) = 0 ∧ o.mode / 4096 ≠ 4 then Ls ++ [o.ws] else Ls) = List.filterMap (lackOf 0 row.ws) (List.take (j + 1) rows) := by
              rw [hnext, hstep]; by_cases h : o.mode / 4096 = 4 <;> simp [h]
            apply SF.cons; apply SF.ite (b := false)
            case h1 => exact fun h => nomatch h
            case ht =>
              apply TV.eq (p := false && false)
              case h =>
                apply TV.and2 (t₁ := false)
                case h₁ =>
                  apply TV.eq
                  case h =>
                    o_facts C
                    o_facts S; all_goals try first | assumption | decide | exact IntMulOk.of_right (by decide +kernel) | (intro _; exact rfl) | (simp only [lens] at *; omega) | simp [sizeLine_eq] <;> omega
                  rfl
                intro h; cases h
              rfl
            intro _
            (repeat (apply SF.nil))
            refine ⟨rfl, _, ?_, rfl, hjlt⟩
            rw [hnow]
            o_facts L
          · have hk0 : ¬ (k = 0 ∧ o.mode / 4096 ≠ 4) := fun h => by omega
            rw [if_neg hk0]
            have hstep : lackOf k row.ws o = if o.mode / 2 ^ (9 - k) % 2 = 0 then some o.ws else none := by
              unfold lackOf lackB; rw [if_neg (show ¬ k = 0 by omega)]; simp [hb]
            have e1 : (9 : Int) - (k : Nat) = ((9 - k : Nat) : Int) := by omega
            have e2 : ((2 : Int) ^ (9 - k)) = ((2 ^ (9 - k) : Nat) : Int) := by rw [Int.natCast_pow]; rfl
            have hpos : 0 < 2 ^ (9 - k) := Nat.pos_of_ne_zero (by simp)
            have hle : 2 ^ (9 - k) ≤ 2 ^ 9 := Nat.pow_le_pow_right (by decide) (by omega)
            have e3 : ((o.mode : Int).fdiv ((2 : Int) ^ (9 - k))).fmod 2 = ((o.mode / 2 ^ (9 - k) % 2 : Nat) : Int) := by rw [e2]; exact fdm_nat o.mode (2 ^ (9 - k)) 2
            apply SF.cons; apply SF.ite (b := decide (o.mode / 2 ^ (9 - k) % 2 = 0))
            case ht =>
              apply TV.eq
              case h =>
                o_facts C
                all_goals (try rw [e1])
                all_goals (try rw [Int.toNat_natCast])
                all_goals (try rw [e2])
                all_goals (first | exact rfl | decide | omega | skip)
              rw [e1, Int.toNat_natCast, e3]
              have : (0 : Int) < (k : Nat) := by omega
              generalize o.mode / 2 ^ (9 - k) % 2 = z
              by_cases h2 : z = 0 <;> simp [this, h2] <;> omega
            case h1 =>
              intro hc
              have hc := of_decide_eq_true hc
              rw [hstep, if_pos hc, Option.toList_some] at hnext
              apply SF.cons; apply SF.appendL
              case hd => decide +kernel
              case hs => rfl
              case hline => rfl
              case hi => rfl
              case hw => rfl
              case hx => o_facts M
              case he =>
                o_facts C
                o_facts S; all_goals try first | assumption | decide | exact IntMulOk.of_right (by decide +kernel) | (intro _; exact rfl) | (simp only [lens] at *; omega) | simp [sizeLine_eq] <;> omega
              case up => o_facts U
              case hl => (simp [sizeLine_eq]; omega)
              (repeat (apply SF.nil))
              refine ⟨rfl, _, ?_, rfl, hjlt⟩
              rw [hnext]
              rw [List.map_append, List.map_cons, List.map_nil]
              o_facts L
            case h2 =>
              intro hc
              have hc := of_decide_eq_false hc
              rw [hstep, if_neg hc, Option.toList_none, List.append_nil] at hnext
              (repeat (apply SF.nil))
              refine ⟨rfl, _, ?_, rfl, hjlt⟩
              rw [hnext]
              o_facts L
    case fin =>
      rintro l ⟨rfl, hj⟩
      rw [List.length_map, List.length_map, List.take_length]
      have hok := lacks_ok (k := k) (ws := row.ws) hr
      have hLl : (lacksS rows k row.ws).length ≤ 1000 := Nat.le_trans (List.length_filterMap_le _ _) hl
      have hnext : ((rows.zip dues).take (i + 1)).map (dueAt rows k both) = fr ++ [dueAt rows k both (row, due)] := by
        rw [List.take_add_one, hzip, List.map_append, ← hfr]; rfl
      have hdue : dueAt rows k both (row, due) = dueS both due (decide (lacksS rows k row.ws ≠ [])) (decide ((lacksS rows k row.ws).filter (fun v => decide (v ≠ row.ws)) ≠ [])) := rfl
      show SF _ _ _ _ _ _ ⟨duesIn rows dues k both fr row due (lacksS rows k row.ws), _⟩ _ _
      generalize lacksS rows k row.ws = Ls at hok hdue hLl
      have hokf : Okss (Ls.filter (fun v => decide (v ≠ row.ws))) := fun x hx => hok x (List.mem_filter.mp hx).1
      unfold duesIn
      (repeat (apply SF.nil))
      apply SF.cons; apply SF.assignBL (r := .d (.bool (decide (Ls ≠ []))))
      case hr => exact Scal.bool
      case hk => exact .inl rfl
      case he =>
        apply EV.eq
        case h =>
          apply EV.cmp (a := .d (txtss Ls)) (b := .d (.list []))
          case hl => o_facts C
          case hr =>
            o_facts C
            o_facts S; all_goals try first | assumption | decide | exact IntMulOk.of_right (by decide +kernel) | (intro _; exact rfl) | (simp only [lens] at *; omega) | simp [sizeLine_eq] <;> omega
          case ho => exact OP.ne (shaped_txtss hok) (shaped_txtss (a := []) (fun _ h => nomatch h))
          case hm => rfl
        rw [show PyData.list [] = txtss [] from rfl, eqv_txtss]; simp only [ne_eq, decide_not]
      case up => o_facts U
      apply SF.cons; apply SF.assignBL (r := .d (.bool (decide (Ls.filter (fun v => decide (v ≠ row.ws)) ≠ []))))
      case hr => exact Scal.bool
      case hk => exact .inl rfl
      case he =>
        apply EV.eq
        case h =>
          apply EV.cmp (a := .d (txtss (Ls.filter (fun v => decide (v ≠ row.ws))))) (b := .d (.list []))
          case hl =>
            apply EV.eq
            case h =>
              apply EV.listcomp (L₀ := Ls) (ρ := fun v => .d (txts v)) (f := fun v => if v = row.ws then none else some (txts v)) (nuC := [("row", .d (rowD row))])
              case it =>
                apply IT.eq'
                case h =>
                  apply IT.list
                  o_facts C
                exact List.map_map
              case C => exact CompOk.of ["row"] (.cons rfl .nil) rfl rfl (by decide +kernel) (by decide +kernel) (.cons rfl rfl .nil) (by decide +kernel) (by first | exact .inl rfl | exact .inr rfl)
              case hsz => rw [sizeLine_eq]; omega
              case body =>
                intro v hv cs L'
                refine ⟨?_, fun d hd => ?_⟩
                · apply TVs.one
                  case h =>
                    apply TV.cmp (a := .d (txts v)) (b := .d (txts row.ws))
                    case hl => o_facts C
                    case hr =>
                      o_facts C
                      o_facts S; all_goals try first | assumption | decide | exact IntMulOk.of_right (by decide +kernel) | (intro _; exact rfl) | (simp only [lens] at *; omega) | simp [sizeLine_eq] <;> omega
                    case ho => exact OP.ne (shaped_txts (hok v hv)) (shaped_txts hrow.1)
                    case hm => rfl
                  rw [eqv_txts]
                  by_cases h : v = row.ws <;> simp [h]
                · have : d = txts v := by
                    by_cases h : v = row.ws <;> simp [h] at hd
                    exact hd.symm
                  subst this
                  o_facts C
            exact congrArg (fun l => Res.d (.list l)) (filter_f Ls row.ws)
          case hr =>
            o_facts C
            o_facts S; all_goals try first | assumption | decide | exact IntMulOk.of_right (by decide +kernel) | (intro _; exact rfl) | (simp only [lens] at *; omega) | simp [sizeLine_eq] <;> omega
          case ho => exact OP.ne (shaped_txtss hokf) (shaped_txtss (a := []) (fun _ h => nomatch h))
          case hm => rfl
        rw [show PyData.list [] = txtss [] from rfl, eqv_txtss]; simp only [ne_eq, decide_not]
      case up => o_facts U
      apply SF.cons; apply SF.ite (b := both)
      case ht =>
        o_facts C
        o_facts S; all_goals try first | assumption | decide | exact IntMulOk.of_right (by decide +kernel) | (intro _; exact rfl) | (simp only [lens] at *; omega) | simp [sizeLine_eq] <;> omega
      case h1 =>
        rintro rfl
        have hdue : dueD (dueAt rows k true (row, due)) = .list [.bool (due.1 && decide (Ls ≠ [])), .bool (due.2 && decide (Ls.filter (fun v => decide (v ≠ row.ws)) ≠ []))] := by rw [hdue]; rfl
        apply SF.cons; apply SF.appendL (d := .list [.bool (due.1 && decide (Ls ≠ [])), .bool (due.2 && decide (Ls.filter (fun v => decide (v ≠ row.ws)) ≠ []))])
        case hx => o_facts M
        case he =>
          o_facts C
          o_facts S; all_goals try first | assumption | decide | exact IntMulOk.of_right (by decide +kernel) | (intro _; exact rfl) | (simp only [lens] at *; omega) | simp [sizeLine_eq] <;> omega
        case up => o_facts U
        case hl => simp [sizeLine_eq]; omega
        (repeat (apply SF.nil))
        refine ⟨rfl, duesBase rows dues k true (fr ++ [dueAt rows k true (row, due)]), ?_, _, rfl, hnext.symm, by rw [List.length_zip]; omega⟩
        unfold duesBase
        rw [List.map_append, List.map_cons, List.map_nil, hdue]
        o_facts L
      case h2 =>
        rintro rfl
        have hdue : dueD (dueAt rows k false (row, due)) = .list [.bool (due.1 || decide (Ls ≠ [])), .bool (due.2 || decide (Ls.filter (fun v => decide (v ≠ row.ws)) ≠ []))] := by rw [hdue]; rfl
        apply SF.cons; apply SF.appendL (d := .list [.bool (due.1 || decide (Ls ≠ [])), .bool (due.2 || decide (Ls.filter (fun v => decide (v ≠ row.ws)) ≠ []))])
        case hx => o_facts M
        case he =>
          o_facts C
          o_facts S; all_goals try first | assumption | decide | exact IntMulOk.of_right (by decide +kernel) | (intro _; exact rfl) | (simp only [lens] at *; omega) | simp [sizeLine_eq] <;> omega
        case up => o_facts U
        case hl => simp [sizeLine_eq]; omega
        (repeat (apply SF.nil))
        refine ⟨rfl, duesBase rows dues k false (fr ++ [dueAt rows k false (row, due)]), ?_, _, rfl, hnext.symm, by rw [List.length_zip]; omega⟩
        unfold duesBase
        rw [List.map_append, List.map_cons, List.map_nil, hdue]
        o_facts L
  case fin =>
    rintro l ⟨fr, rfl, hfr, hi⟩
    have e : ((rows.map rowD).zip (dues.map dueD)).length = (rows.zip dues).length := by simp
    rw [List.length_map, e, List.take_length] at hfr
    unfold duesBase
    (repeat (apply SF.nil))
    apply SF.cons; apply SF.ret
    case he =>
      o_facts C
      o_facts S; all_goals try first | assumption | decide | exact IntMulOk.of_right (by decide +kernel) | (intro _; exact rfl) | (simp only [lens] at *; omega) | simp [sizeLine_eq] <;> omega
    refine Gives.eq (st := ⟨[], fun _ => True⟩) ?_
    rw [hfr]; rfl
end
end Mine
end
section
open PySem PySem.W PyProof.Rows PySem.Calls
set_option maxHeartbeats 8000000
namespace Mine
section
variable {prog : Program} {w : World} {B : Heap} {mg mb : Str → Option Value} {n : Nat} {env : Env} {nu : List (Str × Res)} {pos : Pos}
noncomputable def bitD (p : Nat × Str) : PyData := .tuple [.int (p.1 : Nat), .str p.2]
noncomputable def tabs : List (List (Nat × Str)) := [[(40960, "l"), (49152, "s"), (32768, "-"), (24576, "b"), (16384, "d"), (8192, "c"), (4096, "p")], [(256, "r")], [(128, "w")], [(2112, "s"), (2048, "S"), (64, "x")], [(32, "r")], [(16, "w")], [(1032, "s"), (1024, "S"), (8, "x")], [(4, "r")], [(2, "w")], [(513, "t"), (512, "T"), (1, "x")]]
noncomputable def tabD (t : List (Nat × Str)) : PyData := .tuple (t.map bitD)
theorem table_rd (C : Cx w B mg mb) : Rd B (fun _ => False) (.ref 243) (.tuple (tabs.map tabD)) := by
  simp only [tabs, tabD, bitD, List.map_cons, List.map_nil]
  repeat' (first | exact RdAll.nil | apply RdAll.cons | exact Rd.int _ _ | exact Rd.str _ _ | exact Rd.tuple (fun h => h) (C.K _ _ rfl) ?_ | refine Rd.tuple (fun h => h) (C.K _ _ rfl) ?_)
theorem gl__filemode_table (C : Cx w B mg mb) (hg : env.globals = mainGlobals) (hk : env.kindOf "_filemode_table" = some .globalImplicit) (hf : env.scope.kind = .function) : EV prog w B n env nu (.Name "_filemode_table" pos) (.d (.tuple (tabs.map tabD))) :=
  EV.globD (hg ▸ C.g) (mg_of C.K C.g rfl) (table_rd C) hk hf (by decide +kernel)
theorem sifmt_ok (C : Cx w B mg mb) (i : Int) : OP prog w B 1 (fun vs => call (.ref 210) vs) [.d (.int i)] (.d (.int (Builtin.bitAnd i 61440))) := by
  refine OP.fun (xs := ["mode"]) C 210 ⟨_, rfl, rfl⟩ rfl (by decide +kernel) rfl rfl (fun vs hv => by obtain ⟨v0, rfl⟩ := lenV1 hv; rfl) rfl (by decide +kernel) (by decide +kernel) (by decide +kernel) fun L => ?_
  simp only [slotsOf, List.zip_cons_cons, List.zip_nil_left, List.map_cons, List.map_nil]
  apply SF.cons; apply SF.ret
  case he =>
    o_facts C
    o_facts S; all_goals try first | assumption | decide | exact IntMulOk.of_right (by decide +kernel) | (intro _; exact rfl) | (simp only [lens] at *; omega) | simp [sizeLine_eq] <;> omega
  refine Gives.eq (st := ⟨[], fun _ => True⟩) ?_
  rfl
theorem int_beq (a b : Nat) : ((a : Int) == (b : Int)) = (a == b) := by
  rw [Bool.eq_iff_iff, beq_iff_eq, beq_iff_eq]; omega
noncomputable def testB (m idx bit : Nat) : Bool := if idx = 0 then m &&& 61440 == bit else m &&& bit == bit
noncomputable def charOf (m idx : Nat) (t : List (Nat × Str)) : Str := match t.find? (fun p => testB m idx p.1) with
  | some p => p.2
  | none => if idx = 0 then "?" else "-"
noncomputable def permS (m i : Nat) : List Str := (tabs.zipIdx.take i).map fun p => charOf m p.2 p.1
noncomputable def fileS (m : Nat) : Str := Str.join "" (permS m 10)
theorem bitAnd_nat (a b : Nat) : Builtin.bitAnd (a : Int) (b : Int) = ((a &&& b : Nat) : Int) := by
  unfold Builtin.bitAnd
  have h1 : decide (0 ≤ (a : Int)) = true := decide_eq_true (Int.natCast_nonneg a)
  have h2 : decide (0 ≤ (b : Int)) = true := decide_eq_true (Int.natCast_nonneg b)
  rw [h1, h2]; simp
theorem charOf_len {m idx : Nat} {t : List (Nat × Str)} (h : ∀ p ∈ t, p.2.length = 1) : (charOf m idx t).length = 1 := by
  unfold charOf
  split
  · rename_i p e; exact h p (List.mem_of_find?_eq_some e)
  · split <;> rfl
theorem tabs_len : ∀ t ∈ tabs, ∀ p ∈ t, p.2.length = 1 := by decide +kernel
theorem find_hit {t : List (Nat × Str)} {f : Nat × Str → Bool} {j : Nat} {p : Nat × Str} (h : t[j]? = some p) (hn : ∀ q ∈ t.take j, f q = false) (hf : f p = true) : t.find? f = some p := by
  induction t generalizing j with
  | nil => cases h
  | cons x t ih =>
    cases j with
    | zero =>
      cases h
      rw [List.find?_cons, hf]
    | succ j =>
      have hx := hn x (by simp)
      rw [List.find?_cons, hx]
      exact ih h (fun q hq => hn q (by simp [hq]))
noncomputable def fileBase (m : Nat) (ch : List Str) : List (Str × Slot) := [("mode", .r (.d (.int (m : Nat)))), ("perm", .own (ch.map .str))]
noncomputable def fileIn (m : Nat) (ch : List Str) (i : Nat) (t : List (Nat × Str)) : List (Str × Slot) := [("mode", .r (.d (.int (m : Nat)))), ("perm", .own (ch.map .str)), ("index", .r (.d (.int (i : Nat)))), ("table", .r (.d (tabD t)))]
theorem filemode_ok (C : Cx w B mg mb) (m : Nat) : OP prog w B 2 (fun vs => call (.ref 250) vs) [.d (.int (m : Nat))] (.d (.str (fileS m))) := by
  have eS : Builtin.bitAnd (m : Int) 61440 = ((m &&& 61440 : Nat) : Int) := bitAnd_nat m 61440
  refine OP.fun (xs := ["mode"]) C 250 ⟨_, rfl, rfl⟩ rfl (by decide +kernel) rfl rfl (fun vs hv => by obtain ⟨v0, rfl⟩ := lenV1 hv; rfl) rfl (by decide +kernel) (by decide +kernel) (by decide +kernel) fun L => ?_
  simp only [slotsOf, List.zip_cons_cons, List.zip_nil_left, List.map_cons, List.map_nil]
  apply SF.cons; apply SF.ownL
  case hk => exact .inl rfl
  case up => o_facts U
  apply SF.cons; apply SF.forG (fun i l => l = fileBase m (permS m i) ∧ i ≤ 10)
  case it =>
    apply IT.call
    o_facts C
  case hZ => exact fun _ h => h
  case h0 => exact ⟨rfl, by decide⟩
  case turn =>
    rintro i r l hrr ⟨rfl, hi⟩
    obtain ⟨d, hd, rfl⟩ := counted_get hrr
    rw [List.getElem?_map, Option.map_eq_some_iff] at hd
    obtain ⟨t, ht, rfl⟩ := hd
    have hlt := (List.getElem?_eq_some_iff.mp ht).1
    have hlen : (permS m i).length ≤ 10 := by unfold permS; rw [List.length_map]; have := List.length_take_le i tabs.zipIdx; omega
    have hnext : permS m (i + 1) = permS m i ++ [charOf m i t] := by
      unfold permS
      rw [List.take_add_one, List.getElem?_zipIdx, ht]; simp
    generalize permS m i = ch at hnext hlen
    unfold fileBase
    apply turn_
    case a =>
      apply AS.tupleL (xs := [("index", _), ("table", _)]) (ds := [_, _])
      focus
        apply Upds.cons
        focus o_facts U
        apply Upds.cons
        focus o_facts U
        exact Upds.nil
      focus
        intro p hp
        simp only [List.mem_cons, List.not_mem_nil, or_false] at hp
        rcases hp with rfl | rfl <;> (first | exact .inl rfl | exact .inr ⟨rfl, _, rfl⟩)
    apply SF.cons; apply SF.forG (fun j l => l = fileIn m ch i t ∧ ∀ q ∈ t.take j, testB m i q.1 = false)
    case it =>
      apply IT.tuple (ds := t.map bitD)
      o_facts C
    case hZ => exact fun _ h => h
    case h0 => exact ⟨rfl, by simp⟩
    case turn =>
      rintro j r l hrr ⟨rfl, hno⟩
      obtain ⟨⟨bit, c⟩, hp, rfl⟩ := map_at hrr
      have eB : Builtin.bitAnd (m : Int) (bit : Nat) = ((m &&& bit : Nat) : Int) := bitAnd_nat m bit
      unfold fileIn
      apply turn_
      case a =>
        apply AS.tupleL (xs := [("bit", _), ("char", _)]) (ds := [_, _])
        focus
          apply Upds.cons
          focus o_facts U
          apply Upds.cons
          focus o_facts U
          exact Upds.nil
        focus
          intro p hp
          simp only [List.mem_cons, List.not_mem_nil, or_false] at hp
          rcases hp with rfl | rfl <;> (first | exact .inl rfl | exact .inr ⟨rfl, _, rfl⟩)
      by_cases hi0 : i = 0
      · subst hi0
        apply SF.cons; apply SF.ite (b := true)
        case h2 => exact fun h => nomatch h
        case ht =>
          apply TV.eq
          case h =>
            o_facts C
            o_facts S; all_goals try first | assumption | decide | exact IntMulOk.of_right (by decide +kernel) | (intro _; exact rfl) | (simp only [lens] at *; omega) | simp [sizeLine_eq] <;> omega
          rfl
        intro _
        apply SF.cons; apply SF.ite (b := testB m 0 bit)
        case ht =>
          apply TV.eq
          case h =>
            o_facts C
            o_facts S; all_goals try first | assumption | decide | exact IntMulOk.of_right (by decide +kernel) | (intro _; exact rfl) | (simp only [lens] at *; omega) | simp [sizeLine_eq] <;> omega
          rw [eS]
          unfold testB
          rw [if_pos rfl]
          exact int_beq _ _
        case h1 =>
          intro hb
          have hf := find_hit (f := fun p => testB m 0 p.1) hp hno hb
          have hc : charOf m 0 t = c := by unfold charOf; rw [hf]
          rw [hc] at hnext
          apply SF.cons; apply SF.appendL
          case hd => decide +kernel
          case hs => rfl
          case hline => rfl
          case hi => rfl
          case hw => rfl
          case hx => o_facts M
          case he =>
            o_facts C
            o_facts S; all_goals try first | assumption | decide | exact IntMulOk.of_right (by decide +kernel) | (intro _; exact rfl) | (simp only [lens] at *; omega) | simp [sizeLine_eq] <;> omega
          case up => o_facts U
          case hl => (simp [sizeLine_eq]; omega)
          apply SF.cons; apply SF.brk
          (repeat (apply SF.nil))
          refine ⟨rfl, fileBase m (ch ++ [c]), ?_, by rw [hnext]; rfl, hlt⟩
          unfold fileBase
          rw [List.map_append, List.map_cons, List.map_nil]
          o_facts L
        case h2 =>
          intro hb
          (repeat (apply SF.nil))
          refine ⟨rfl, _, ?_, rfl, ?_⟩
          · o_facts L
          · intro q hq
            rw [List.take_add_one, hp] at hq
            rcases List.mem_append.mp hq with hq | hq
            · exact hno q hq
            · cases List.mem_singleton.mp (by simpa using hq); exact hb
      · apply SF.cons; apply SF.ite (b := false)
        case h1 => exact fun h => nomatch h
        case ht =>
          apply TV.eq
          case h =>
            o_facts C
            o_facts S; all_goals try first | assumption | decide | exact IntMulOk.of_right (by decide +kernel) | (intro _; exact rfl) | (simp only [lens] at *; omega) | simp [sizeLine_eq] <;> omega
          simp [hi0]
        intro _
        apply SF.cons; apply SF.ite (b := testB m i bit)
        case ht =>
          apply TV.eq
          case h =>
            o_facts C
            o_facts S; all_goals try first | assumption | decide | exact IntMulOk.of_right (by decide +kernel) | (intro _; exact rfl) | (simp only [lens] at *; omega) | simp [sizeLine_eq] <;> omega
          dsimp only
          rw [eB]
          unfold testB
          rw [if_neg hi0]
          exact int_beq _ _
        case h1 =>
          intro hb
          have hf := find_hit (f := fun p => testB m i p.1) hp hno hb
          have hc : charOf m i t = c := by unfold charOf; rw [hf]
          rw [hc] at hnext
          apply SF.cons; apply SF.appendL
          case hd => decide +kernel
          case hs => rfl
          case hline => rfl
          case hi => rfl
          case hw => rfl
          case hx => o_facts M
          case he =>
            o_facts C
            o_facts S; all_goals try first | assumption | decide | exact IntMulOk.of_right (by decide +kernel) | (intro _; exact rfl) | (simp only [lens] at *; omega) | simp [sizeLine_eq] <;> omega
          case up => o_facts U
          case hl => (simp [sizeLine_eq]; omega)
          apply SF.cons; apply SF.brk
          (repeat (apply SF.nil))
          refine ⟨rfl, fileBase m (ch ++ [c]), ?_, by rw [hnext]; rfl, hlt⟩
          unfold fileBase
          rw [List.map_append, List.map_cons, List.map_nil]
          o_facts L
        case h2 =>
          intro hb
          (repeat (apply SF.nil))
          refine ⟨rfl, _, ?_, rfl, ?_⟩
          · o_facts L
          · intro q hq
            rw [List.take_add_one, hp] at hq
            rcases List.mem_append.mp hq with hq | hq
            · exact hno q hq
            · cases List.mem_singleton.mp (by simpa using hq); exact hb
    case fin =>
      rintro l ⟨rfl, hno⟩
      rw [List.length_map, List.length_map, List.take_length] at hno
      have hf : t.find? (fun p => testB m i p.1) = none := List.find?_eq_none.mpr fun p hp => by simpa using hno p hp
      have hc : charOf m i t = if i = 0 then Str.ofString "?" else Str.ofString "-" := by unfold charOf; rw [hf]
      rw [hc] at hnext
      unfold fileIn
      by_cases hi0 : i = 0
      · subst hi0
        rw [if_pos rfl] at hnext
        apply SF.cons; apply SF.ite (b := true)
        case h2 => exact fun h => nomatch h
        case ht =>
          apply TV.eq
          case h =>
            o_facts C
            o_facts S; all_goals try first | assumption | decide | exact IntMulOk.of_right (by decide +kernel) | (intro _; exact rfl) | (simp only [lens] at *; omega) | simp [sizeLine_eq] <;> omega
          rfl
        intro _
        apply SF.cons; apply SF.appendL
        case hd => decide +kernel
        case hs => rfl
        case hline => rfl
        case hi => rfl
        case hw => rfl
        case hx => o_facts M
        case he =>
          o_facts C
          o_facts S; all_goals try first | assumption | decide | exact IntMulOk.of_right (by decide +kernel) | (intro _; exact rfl) | (simp only [lens] at *; omega) | simp [sizeLine_eq] <;> omega
        case up => o_facts U
        case hl => (simp [sizeLine_eq]; omega)
        (repeat (apply SF.nil))
        refine ⟨rfl, fileBase m (ch ++ [Str.ofString "?"]), ?_, by rw [hnext]; rfl, hlt⟩
        unfold fileBase
        rw [List.map_append, List.map_cons, List.map_nil]
        o_facts L
      · rw [if_neg hi0] at hnext
        apply SF.cons; apply SF.ite (b := false)
        case h1 => exact fun h => nomatch h
        case ht =>
          apply TV.eq
          case h =>
            o_facts C
            o_facts S; all_goals try first | assumption | decide | exact IntMulOk.of_right (by decide +kernel) | (intro _; exact rfl) | (simp only [lens] at *; omega) | simp [sizeLine_eq] <;> omega
          (simp [hi0])
        intro _
        apply SF.cons; apply SF.appendL
        case hd => decide +kernel
        case hs => rfl
        case hline => rfl
        case hi => rfl
        case hw => rfl
        case hx => o_facts M
        case he =>
          o_facts C
          o_facts S; all_goals try first | assumption | decide | exact IntMulOk.of_right (by decide +kernel) | (intro _; exact rfl) | (simp only [lens] at *; omega) | simp [sizeLine_eq] <;> omega
        case up => o_facts U
        case hl => (simp [sizeLine_eq]; omega)
        (repeat (apply SF.nil))
        refine ⟨rfl, fileBase m (ch ++ [Str.ofString "-"]), ?_, by rw [hnext]; rfl, hlt⟩
        unfold fileBase
        rw [List.map_append, List.map_cons, List.map_nil]
        o_facts L
  case fin =>
    rintro l ⟨rfl, hi⟩
    have e : (counted (tabs.map tabD)).length = 10 := by rw [counted_length]; rfl
    rw [e]
    have hj : JoinOk "" (permS m 10) = true := by
      refine joinOk_short (fun x hx => ?_) ?_ (by decide +kernel)
      · obtain ⟨p, hp, rfl⟩ := List.mem_map.mp hx
        have h1 := List.mem_of_mem_take hp
        have h2 := charOf_len (m := m) (idx := p.2) (tabs_len p.1 ((List.mem_zipIdx h1).2.2 ▸ List.getElem_mem _))
        omega
      · unfold permS; rw [List.length_map]; have := List.length_take_le 10 tabs.zipIdx; omega
    unfold fileBase
    (repeat (apply SF.nil))
    apply SF.cons; apply SF.ret
    case he =>
      o_facts C
      o_facts S; all_goals try first | assumption | decide | exact IntMulOk.of_right (by decide +kernel) | (intro _; exact rfl) | (simp only [lens] at *; omega) | simp [sizeLine_eq] <;> omega
    refine Gives.eq (st := ⟨[], fun _ => True⟩) ?_
    rfl
end
end Mine
end
section
open PySem PySem.W PyProof.Rows PySem.Calls
namespace Mine
section
variable {prog : Program} {w : World} {B : Heap} {D : Prop} {n k : Nat} {env : Env} {Z Z' X₀ X₁ : Addr → Prop} {st st' : St} {e test : Expr} {x y : Str} {r r' : Res} {px pos ps pc lp ap cp : Pos} {rest body orelse : List Stmt} {P P' : (Addr → Prop) → Fl → St → Prop} {O : Str → Option Addr} {h h' : Heap} {t : Sem Flow} {loc' : List (Str × Slot)} {nuV : List (Str × Res)} {m cm : Str → Option Value} {xt' : Heap → Prop}
theorem GF.mono (a : GF prog w B D n env Z st t P') (i : ∀ Z' fl st', P' Z' fl st' → P Z' fl st') : GF prog w B D n env Z st t P :=
  .mk fun A s X₀ O Q E R hd F q => a.run A s X₀ O Q E R hd F fun Z' fl f st' O' h' tk' dr' hdr p => q Z' fl f st' O' h' tk' dr' hdr (i _ _ _ p)
theorem GF.nil (p : P Z .next st) : GF prog w B D n env Z st (execs [] env) P := (SF.nil (P := fun fl st' => P Z fl st') p).toG fun _ _ p => p
theorem InZ.disj (F : InZ B env Z (orS X₀ Z) st O h) (hd : ∀ a, Z a → ¬ X₀ a) (zn : ∀ a, Z' a → Z a ∨ h.get? a = none) : ∀ a, Z' a → ¬ X₀ a := fun a z y => by
  rcases zn a z with w | w
  · exact hd a w y
  · obtain ⟨m, cm, f⟩ := F.inF
    obtain ⟨o, e⟩ := f.ok.live a (.inl (.inl y))
    rw [w] at e; cases e
theorem GF.cons {s₁ : Stmt} (a : GF prog w B D n env Z st (exec s₁ env) fun Z' fl st' => match fl with | .next => GF prog w B D n env Z' st' (execs rest env) P | fl => P Z' fl st') : GF prog w B D n env Z st (execs (s₁ :: rest) env) P := by
  refine ⟨fun A s X₀ O Q E R hd F q => ?_⟩
  refine wpAny_execs_cons (a.run A s X₀ O _ E R hd F fun Z' fl f st' O' h' tk' dr' hdr p zs zn F' c y => ?_)
  cases fl with
  | next =>
    cases f <;> first | exact y.elim | skip
    refine p.run A _ X₀ O' Q E R (F.disj hd zn) F' fun Z'' fl f st'' O'' h'' tk'' dr'' hdr'' p' zs' zn' F'' c' y' => ?_
    refine q Z'' fl f st'' O'' h'' tk'' dr'' (hdr''.elim .inl fun e => hdr.imp id fun e' => e.trans e') p' (fun a z => zs' a (zs a z)) (fun a z => ?_) F'' (ChZ.and F F' zs zn c c') y'
    rcases zn' a z with z | e
    · exact zn a z
    · right
      cases g : s.heap.get? a with
      | none => rfl
      | some o => obtain ⟨o', e'⟩ := c.alive F' a ⟨o, g⟩; rw [e] at e'; cases e'
  | brk => cases f <;> first | exact y.elim | exact q _ _ _ _ _ _ _ _ hdr p zs zn F' c y
  | cont => cases f <;> first | exact y.elim | exact q _ _ _ _ _ _ _ _ hdr p zs zn F' c y
  | ret r => cases f <;> first | exact y.elim | exact q _ _ _ _ _ _ _ _ hdr p zs zn F' c y
theorem GF.consS {s₁ : Stmt} (a : SF prog w B n env Z st (exec s₁ env) fun fl st' => match fl with | .next => GF prog w B D n env Z st' (execs rest env) P | fl => P Z fl st') : GF prog w B D n env Z st (execs (s₁ :: rest) env) P :=
  GF.cons (a.toG fun fl st' p => by cases fl <;> exact p)
theorem GF.seq {s₁ : Stmt} (Mid : (Addr → Prop) → St → Prop) (a : GF prog w B D n env Z st (exec s₁ env) fun Z' fl st' => match fl with | .next => Mid Z' st' | fl => P Z' fl st') (b : ∀ Z' st', Mid Z' st' → GF prog w B D n env Z' st' (execs rest env) P) : GF prog w B D n env Z st (execs (s₁ :: rest) env) P :=
  GF.cons (a.mono fun Z' fl st' p => by cases fl <;> first | exact b _ _ p | exact p)
theorem GF.weaken {l : List (Str × Slot)} (hs : l.Sublist st.loc) (a : GF prog w B D n env Z { st with loc := l } t P) : GF prog w B D n env Z st t P :=
  .mk fun A s X₀ O Q E R hd F q => a.run A s X₀ O Q E R hd (F.weaken hs) q
theorem InZ.relax {p : Slot} (F : InZ B env Z X₀ st O h) (hx : (x, p) ∈ st.loc) (hi : ∀ v, Bd env m cm x v → True) (up : Upd st.loc x (.r r') loc')
    (hr : ∀ v m cm, InF B env X₀ st O h m cm → SlotOk h X₀ env O x v p → RV h (Av X₀ env O) v r') : InZ B env Z X₀ { st with loc := loc' } O h := by
  obtain ⟨m, cm, f⟩ := F.inF
  refine ⟨F.foot, F.stab, m, cm, { f with nodup := up.nodup f.nodup, slots := fun q hq => ?_ }⟩
  rcases up.mem f.nodup q hq with e | ⟨e1, _⟩
  · subst e
    obtain ⟨v, b, y⟩ := f.slots _ hx
    exact ⟨v, b, hr v m cm f y⟩
  · exact f.slots q e1
theorem GF.relax (hx : (x, Slot.r r) ∈ st.loc) (hi : ∀ h X u, RV h X u r → RV h X u r') (up : Upd st.loc x (.r r') loc') (a : GF prog w B D n env Z { st with loc := loc' } t P) : GF prog w B D n env Z st t P :=
  .mk fun A s X₀ O Q E R hd F q => a.run A s X₀ O Q E R hd (F.relax (m := fun _ => none) (cm := fun _ => none) hx (fun _ _ => trivial) up fun v _ _ _ y => hi _ _ _ y) q
theorem GF.relax2 {r₂ : Res} (hx : (x, Slot.r r) ∈ st.loc) (hy : (y, Slot.r r₂) ∈ st.loc) (hi : ∀ h X u v, RV h X u r → RV h X v r₂ → RV h X u r') (up : Upd st.loc x (.r r') loc') (a : GF prog w B D n env Z { st with loc := loc' } t P) : GF prog w B D n env Z st t P :=
  .mk fun A s X₀ O Q E R hd F q => a.run A s X₀ O Q E R hd (F.relax (m := fun _ => none) (cm := fun _ => none) hx (fun _ _ => trivial) up fun v _ _ f z => by
    obtain ⟨v₂, _, z₂⟩ := f.slots _ hy
    exact hi _ _ _ _ z z₂) q
theorem GF.known {d : PyData} {locU : Value → List (Str × Slot)} (hx : (x, Slot.r (.d d)) ∈ st.loc) (up : ∀ u, Upd st.loc x (.r (.vd u d)) (locU u)) (a : ∀ u, GF prog w B D n env Z { st with loc := locU u } t P) : GF prog w B D n env Z st t P := by
  refine ⟨fun A s X₀ O Q E R hd F q => ?_⟩
  obtain ⟨m, cm, f⟩ := F.inF
  obtain ⟨v, b, y⟩ := f.slots _ hx
  refine (a v).run A s X₀ O Q E R hd ?_ q
  refine ⟨F.foot, F.stab, m, cm, { f with nodup := (up v).nodup f.nodup, slots := fun q hq => ?_ }⟩
  rcases (up v).mem f.nodup q hq with e | ⟨e1, _⟩
  · subst e
    exact ⟨v, b, rfl, y⟩
  · exact f.slots q e1
structure View (env : Env) (Z : Addr → Prop) (st : St) (nuV : List (Str × Res)) : Prop where
  run : ∀ (h : Heap) (X : Addr → Prop), (∀ a, Z a → ¬ X a) → st.ext h → Nm env h X (keepN st.loc) → Nm env h X nuV
theorem InF.view (F : InF B env X₀ st O h m cm) (foot : ∀ a, Z a → X₀ a) (V : View env Z st nuV) : OkH B h (fun a => Av X₀ env O a ∧ ¬ Z a) ∧ Nm env h (fun a => Av X₀ env O a ∧ ¬ Z a) nuV := by
  refine ⟨F.ok.sub fun _ z => z.1, V.run h _ (fun a z y => y.2 z) F.ext fun p hp => ?_⟩
  obtain ⟨v, l, y, c⟩ := F.keepNm p hp
  exact ⟨v, l, RV.less y fun _ z => z.1, fun hk d hd => ⟨c hk d hd, fun z => F.offX d (.inl (.inr ⟨_, mem_of_lookup hd, rfl⟩)) (foot d z)⟩⟩
theorem SF.assignV {P : Fl → St → Prop} (V : View env Z st nuV) (he : EV prog w B n env nuV e r) (hr : Scal r) (hk : Sto env x) (up : Upd st.loc x (.r r) loc') (p : P .next { st with loc := loc' })
    (hs : swapsWith e (some (.Name x px)) pos.line env = pure false := by rfl) : SF prog w B n env Z st (exec (.Assign [.Name x px] e pos) env) P := by
  refine ⟨fun A s X₀ O Q E R F q => ?_⟩
  obtain ⟨m, cm, f⟩ := F.inF
  obtain ⟨ok, nm⟩ := f.view F.foot V
  refine wpAny_Assign_Name (he.run A s _ _ E R ok nm fun v h₁ t₁ k₁ y₁ => ?_) hs
  exact (f.grow k₁).store hk (hr _ _ _ _ y₁) up fun h' m' cm' tk f' c => q _ _ _ _ h' tk p ⟨F.foot, F.stab, m', cm', f'⟩ (Chg.and F (F.grow k₁) (Chg.ofZ F k₁) c) trivial
theorem ChZ.of_ext (F : InZ B env Z X₀ st O h) (k : Ext h h') : ChZ env Z O h O h' := (Chg.ofZ F k).toZ F
theorem GF.iteV {b : Bool} (V : View env Z st nuV) (ht : TV prog w B n env nuV test b) (h1 : b = true → GF prog w B D n env Z st (execs body env) P) (h2 : b = false → GF prog w B D n env Z st (execs orelse env) P) : GF prog w B D n env Z st (exec (.If test body orelse pos) env) P := by
  refine ⟨fun A s X₀ O Q E R hd F q => ?_⟩
  obtain ⟨m, cm, f⟩ := F.inF
  obtain ⟨ok, nm⟩ := f.view F.foot V
  refine wpAny_If (ht.run A s _ _ E R ok nm fun h' tk' k => ?_)
  have F' := F.grow k
  have q' : ∀ Z' fl fw st' O' h'' tk'' dr'', (D ∨ dr'' = s.drawn) → P Z' fl st' → (∀ a, Z a → Z' a) → (∀ a, Z' a → Z a ∨ h'.get? a = none) → InZ B env Z' (orS X₀ Z') st' O' h'' → ChZ env Z O h' O' h'' → FlOk h'' X₀ fl fw → Q fw { s with heap := h'', toks := tk'', drawn := dr'' } := fun Z' fl fw st' O' h'' tk'' dr'' hdr p zs zn F'' c y => by
    refine q Z' fl fw st' O' h'' tk'' dr'' hdr p zs (fun a z => (zn a z).imp id fun e => ?_) F'' (ChZ.and F F' (fun _ z => z) (fun _ z => .inl z) (ChZ.of_ext F k) c) y
    cases g : s.heap.get? a with
    | none => rfl
    | some o => rw [k a o g] at e; cases e
  cases b with
  | true => exact (h1 rfl).run A { s with heap := h', toks := tk' } X₀ O Q E R hd F' q'
  | false => exact (h2 rfl).run A { s with heap := h', toks := tk' } X₀ O Q E R hd F' q'
theorem GF.retV (V : View env Z st nuV) (he : EV prog w B n env nuV e r) (p : P Z (.ret r) st) : GF prog w B D n env Z st (exec (.Return (some e) pos) env) P := by
  refine ⟨fun A s X₀ O Q E R hd F q => ?_⟩
  obtain ⟨m, cm, f⟩ := F.inF
  obtain ⟨ok, nm⟩ := f.view F.foot V
  refine wpAny_Return_some (he.run A s _ _ E R ok nm fun v h₁ t₁ k₁ y₁ => ?_)
  exact q _ _ _ _ _ h₁ t₁ _ (.inr rfl) p (fun _ z => z) (fun _ z => .inl z) (F.grow k₁) (ChZ.of_ext F k₁) (show RV _ _ _ _ from RV.less y₁ fun a z => ⟨.inl (.inl z), fun w => hd a w z⟩)
theorem InF.reext (F : InF B env X₀ st O h m cm) (e : xt' h) (s : ∀ h h' : Heap, xt' h → (∀ a o, X₀ a → h.get? a = some o → h'.get? a = some o) → xt' h') : InF B env X₀ { st with ext := xt' } O h m cm := { F with ext := e, stab := s }
theorem InZ.zturn (F : InZ B env Z X₀ st O h) (keep : ∀ a o, ¬ Z a → h.get? a = some o → h'.get? a = some o) (live : ∀ a, Z a → ∃ o, h'.get? a = some o) (hx : xt' h')
    (hs : ∀ h h' : Heap, xt' h → (∀ a o, Z a → h.get? a = some o → h'.get? a = some o) → xt' h') : InZ B env Z X₀ { st with ext := xt' } O h' ∧ ChZ env Z O h O h' := by
  obtain ⟨m, cm, f⟩ := F.inF
  have f1 : InF B env X₀ { st with ext := fun _ => True } O h m cm := f.reext trivial fun _ _ _ _ => trivial
  have f2 := f1.outer (h' := h') (fun b o nb e => keep b o (fun z => nb (F.foot b z)) e) (fun a z => by
    by_cases hz : Z a
    · exact live a hz
    · obtain ⟨o, e⟩ := f.ok.live a (.inl z)
      exact ⟨o, keep a o hz e⟩) trivial
  refine ⟨⟨F.foot, hs, m, cm, f2.reext hx fun h h' e c => hs h h' e fun a o z => c a o (F.foot a z)⟩, fun b o _ nz e => keep b o nz e, fun x a e => .inl ⟨x, e⟩, fun x a e => ?_, live⟩
  obtain ⟨o, g⟩ := F.liveMu a (.inr ⟨x, e⟩)
  exact ⟨o, keep a o (fun z => f.offX a (.inr ⟨x, e⟩) (F.foot a z)) g⟩
theorem InZ.refoot (F : InZ B env Z X₀ st O h) (foot : ∀ a, Z' a → X₀ a) (hx : xt' h) (hs : ∀ h h' : Heap, xt' h → (∀ a o, Z' a → h.get? a = some o → h'.get? a = some o) → xt' h') : InZ B env Z' X₀ { st with ext := xt' } O h := by
  obtain ⟨m, cm, f⟩ := F.inF
  exact ⟨foot, hs, m, cm, f.reext hx fun h h' e c => hs h h' e fun a o z => c a o (foot a z)⟩
end
end Mine
end
section
open PySem PySem.W PyProof.Rows PySem.Calls
namespace Mine
section
variable {prog : Program} {w : World} {A : Around} {E : Value → Shared → Prop} {s : Shared}
theorem setItem_plain {l : Addr} {vs : List Value} {k : Int} {t : Tok} {v : Value} {Q : Unit → Shared → Prop} (hl : s.heap.PlainList l vs.toArray)
    (h0 : 0 ≤ k) (hfit : k < 2 ^ 63) (hn : k.toNat < vs.length)
    (hQ : ∀ h', h'.PlainList l (vs.set k.toNat v).toArray → Heap.SameBut l s.heap h' → Q () { s with heap := h' }) :
    wpAny (model prog w) A (setItem (.ref l) (.int k t) v) Q E s := by
  obtain ⟨m, ho⟩ := hl
  have hI : s.heap.IsList l vs.toArray := ⟨_, ho, rfl, m, rfl⟩
  unfold setItem
  try with_reducible refine wpAny_holding ?_
  first | refine wpAny_bind (wpAny_pure ?_) | skip
  refine wpAny_bind (wpAny_sequenceKey hI.typeIs (by decide) ?_)
  refine wpAny_bind (wpAny_callSpecial?_slot (name := Str.ofString "__setitem__") hI.typeIs PySem.F.slot_list_setitem
    (wpAny_call_entry PySem.F.slot_list_setitem hI.typeIs PySem.F.entry_list_setitem ?_ (PySem.F.args_list_setitem_3 _ _ _)))
  show wpAny _ _ (Builtin.List.listSubscript? (.int k t) >>= _) _ _ s
  refine wpAny_bind (wpAny_listSubscript_int (fitsIndex_of h0 hfit) ?_)
  clear hfit
  obtain ⟨j, rfl⟩ := Int.eq_ofNat_of_zero_le h0
  have hj : j < vs.length := hn
  have hx' : vs.toArray[j]? = some vs[j] := by simp [List.getElem?_eq_getElem hj]
  show wpAny _ _ ((seqItemAt l j >>= fun r => pure (r.map (j, ·))) >>= _) _ _ s
  refine wpAny_bind (wpAny_bind (wpAny_seqItemAt ho rfl (wpAny_pure ?_)))
  rw [hx']
  show wpAny _ _ (setSeqItemAt l j v >>= _) _ _ s
  have hfin : (s.heap.update l (Obj.mapSeq (·.setIfInBounds j v))).PlainList l (vs.set j v).toArray := by
    have g := Heap.get?_update_self (Obj.mapSeq (·.setIfInBounds j v)) ho rfl
    have e4 : Obj.mapSeq (·.setIfInBounds j v) { cls := .type "list", data := .seq vs.toArray m } = { cls := .type "list", data := .seq (vs.set j v).toArray (if (vs.set j v).toArray.size == vs.toArray.size then m else m + 1) } := by
      simp only [Obj.mapSeq, List.setIfInBounds_toArray]
    exact ⟨_, by rw [g, e4]⟩
  refine wpAny_bind (wpAny_setSeqItemAt ho rfl ?_)
  first
    | exact wpAny_bind (wpAny_pure (wpAny_pure ⟨.none, rfl, wpAny_pure (hQ _ hfin (Heap.SameBut.update ..))⟩))
    | exact wpAny_pure ⟨.none, rfl, wpAny_pure (hQ _ hfin (Heap.SameBut.update ..))⟩
end
section
variable {prog : Program} {w : World} {B : Heap} {D : Prop} {n k : Nat} {env : Env} {Z Z' X₀ X₁ : Addr → Prop} {st st' : St} {e test : Expr} {x y : Str} {r r' : Res} {px pos ps pc lp ap cp : Pos} {rest body orelse : List Stmt} {P P' : (Addr → Prop) → Fl → St → Prop} {O : Str → Option Addr} {h h' : Heap} {t : Sem Flow} {nu nuV : List (Str × Res)} {m cm : Str → Option Value}
theorem Scal.any {v : Value} {X Y : Addr → Prop} (hr : Scal r) (y : RV h X v r) : RV h' Y v r := RV.up (fun _ _ nb => absurd trivial nb) (hr h X (fun _ => True) v y)
noncomputable def addZ (Z : Addr → Prop) (a : Addr) : Addr → Prop := fun c => Z c ∨ c = a
theorem InZ.new {a : Addr} (F : InZ B env Z (orS X₀ Z) st O h) (k : Ext h h') (ha : h.get? a = none) (hl : ∃ o, h'.get? a = some o) : InZ B env (addZ Z a) (orS X₀ (addZ Z a)) { st with ext := fun _ => True } O h' :=
  (F.addX (X₁ := orS X₀ (addZ Z a)) k (fun c z => by
    rcases z with z | z | z
    · exact .inl (.inl z)
    · exact .inl (.inr z)
    · subst z; exact .inr ⟨ha, hl⟩) fun c z => z.imp id .inl).refoot (fun c z => .inr z) trivial fun _ _ _ _ => trivial
theorem GF.newZ {locA : Addr → List (Str × Slot)} {xtA : Addr → Heap → Prop} (hk : Sto env x) (up : ∀ a, Upd st.loc x (.r (.v (.ref a))) (locA a))
    (hl : ∀ a h h', ¬ Z a → st.ext h → h'.PlainList a ([] : List Value).toArray → (∀ c o, Z c → h.get? c = some o → h'.get? c = some o) → xtA a h')
    (hs : ∀ a (h h' : Heap), xtA a h → (∀ c o, addZ Z a c → h.get? c = some o → h'.get? c = some o) → xtA a h')
    (p : ∀ a, ¬ Z a → P (addZ Z a) .next ⟨locA a, xtA a⟩) : GF prog w B D n env Z st (exec (.Assign [.Name x px] (.List [] lp) pos) env) P := by
  refine ⟨fun A s X₀ O Q E R hd F q => ?_⟩
  obtain ⟨m, cm, f⟩ := F.inF
  refine wpAny_Assign_Name (wpAny_List (Calls.spliced_nil ⟨by decide, ?_⟩)) rfl
  have k₁ : Ext s.heap (s.heap.push { cls := .type "list", data := .seq ([] : List Value).toArray }) := Ext.push _ _
  have hp : (s.heap.push { cls := .type "list", data := .seq ([] : List Value).toArray }).PlainList s.heap.objs.size ([] : List Value).toArray := ⟨0, Heap.get?_push_size _ rfl⟩
  generalize (s.heap.push { cls := .type "list", data := .seq ([] : List Value).toArray }) = H at k₁ hp
  have ha := get_size_none s.heap
  generalize s.heap.objs.size = a at ha hp
  have nz : ¬ Z a := fun z => by
    obtain ⟨o, e⟩ := f.ok.live a (.inl (F.foot a z))
    rw [ha] at e; cases e
  have lv : ∃ o, H.get? a = some o := let ⟨n, g⟩ := hp; ⟨_, g⟩
  have F1 := F.new k₁ ha lv
  have F2 : InZ B env (addZ Z a) (orS X₀ (addZ Z a)) { st with ext := xtA a } O H := F1.refoot F1.foot (hl a s.heap H nz f.ext hp fun c o _ e => k₁ c o e) (hs a)
  obtain ⟨m2, cm2, f2⟩ := F2.inF
  refine f2.store hk (r := .v (.ref a)) rfl (up a) fun h' m' cm' tk f' c => ?_
  have F3 : InZ B env (addZ Z a) (orS X₀ (addZ Z a)) ⟨locA a, xtA a⟩ O h' := ⟨F2.foot, F2.stab, m', cm', f'⟩
  have zn : ∀ c, addZ Z a c → Z c ∨ s.heap.get? c = none := fun c z => z.imp id fun e => (by rw [show c = a from e]; exact ha)
  exact q (addZ Z a) .next .next _ O h' tk _ (.inr rfl) (p a nz) (fun _ z => .inl z) zn F3 (ChZ.and F F2 (fun _ z => .inl z) zn (ChZ.of_ext F k₁) (c.toZ F2)) trivial
theorem GF.appendNew {a : Addr} {es : List Expr} {rs : List Res} {xtB : Addr → Heap → Prop} (hx : (x, Slot.r (.v (.ref a))) ∈ st.loc) (hZ : Z a) (he : EVs prog w B n env (keepN st.loc) es rs) (hr : ∀ r ∈ rs, Scal r) (hes : noStar es = true) (hfew : fewE es = true)
    (hl : ∀ h, st.ext h → ∃ items, h.PlainList a (List.toArray items) ∧ items.length ≤ sizeLine ∧ ∀ b vs h', ¬ Z b → h'.PlainList b (List.toArray vs) → RVs h' (fun _ => False) vs rs → h'.PlainList a (List.toArray (items ++ [.ref b])) → (∀ c o, c ≠ a → Z c → h.get? c = some o → h'.get? c = some o) → xtB b h')
    (hs : ∀ b, ¬ Z b → ∀ (h h' : Heap), xtB b h → (∀ c o, addZ Z b c → h.get? c = some o → h'.get? c = some o) → xtB b h')
    (p : ∀ b, ¬ Z b → P (addZ Z b) .next { st with ext := xtB b })
    (hd : (x == ("__debug__" : Str)) = false := by decide +kernel) (hline : (ap.endLine == cp.line) = true := by rfl) (hi : interactive env = false := by rfl) (hw : swapsWith (.Call (.Attribute (.Name x px) "append" ap) [.List es lp] [] cp) none pos.line env = pure false := by rfl) :
    GF prog w B D n env Z st (exec (.Expr (.Call (.Attribute (.Name x px) "append" ap) [.List es lp] [] cp) pos) env) P := by
  refine ⟨fun A s X₀ O Q E R hdj F q => ?_⟩
  obtain ⟨m, cm, f⟩ := F.inF
  obtain ⟨v, b, rfl⟩ := f.slots _ hx
  obtain ⟨it0, hp0, _, _⟩ := hl _ f.ext
  have s1 : isStarred (.List es lp) = false := rfl
  refine wpAny_Expr_any (wpAny_Call_append (base_of rfl _) (by rw [star1 s1]; rfl) hline (by rw [star1 s1]; rfl) ?_) hi hw
  refine wpAny_Name ((b.ln f).ld _ _ _ _ _ (Ext.refl _) ⟨a, _, rfl, let ⟨n, g⟩ := hp0; ⟨_, n, g, rfl, rfl, rfl⟩, ?_⟩) hd
  refine wpAny_List (he.spliced (noStar_all hes) A s _ _ E R f.ok f.keepNm fun vs h₁ t₁ k₁ y₁ => ⟨by rw [y₁.length, ← he.length]; exact fewE_le hfew, ?_⟩)
  have k₂ : Ext s.heap (h₁.push { cls := .type "list", data := .seq vs.toArray }) := k₁.pushR _
  have hpb : (h₁.push { cls := .type "list", data := .seq vs.toArray }).PlainList h₁.objs.size vs.toArray := ⟨0, Heap.get?_push_size _ rfl⟩
  have hb1 := get_size_none h₁
  dsimp only
  generalize (h₁.push { cls := .type "list", data := .seq vs.toArray }) = H at k₂ hpb ⊢
  generalize h₁.objs.size = c at hpb hb1 ⊢
  have hc : s.heap.get? c = none := by
    cases g : s.heap.get? c with
    | none => rfl
    | some o => rw [k₁ c o g] at hb1; cases hb1
  have nz : ¬ Z c := fun z => by
    obtain ⟨o, e⟩ := f.ok.live c (.inl (F.foot c z))
    rw [hc] at e; cases e
  have hne : c ≠ a := fun e => nz (e ▸ hZ)
  obtain ⟨items, hpa, hlen, hfin⟩ := hl _ (F.grow k₂).inF.choose_spec.choose_spec.ext
  refine wpAny_list_append_plain hpa (fun h₂ hp₂ hs₂ => ?_) (by simpa using hlen)
  have e1 : (List.toArray items).push (.ref c) = List.toArray (items ++ [.ref c]) := by simp
  rw [e1] at hp₂
  have lv : ∃ o, H.get? c = some o := let ⟨n, g⟩ := hpb; ⟨_, g⟩
  have F1 := F.new k₂ hc lv
  have hrv : RVs h₂ (fun _ => False) vs rs := by
    clear hfin e1 hp₂ hpb
    have : ∀ {vs : List Value} {rs : List Res}, (∀ r ∈ rs, Scal r) → RVs h₁ (Av (orS X₀ Z) env O) vs rs → RVs h₂ (fun _ => False) vs rs := by
      intro vs rs hr y
      induction y with
      | nil => exact .nil
      | cons z _ ih => exact .cons ((hr _ (.head _)).any z) (ih fun r h => hr r (.tail _ h))
    exact this hr y₁
  have hx2 : xtB c h₂ := hfin c vs h₂ nz (Heap.PlainList.at hpb (fun o e => (hs₂.2 c hne).trans e)) hrv hp₂ fun d o hda _ e => (hs₂.2 d hda).trans e
  obtain ⟨F2, c2⟩ := F1.zturn (h' := h₂) (xt' := xtB c) (fun d o nd e => (hs₂.2 d (fun z => nd (z ▸ .inl hZ))).trans e) (fun d z => by
    by_cases hda : d = a
    · subst hda; obtain ⟨n, g⟩ := hp₂; exact ⟨_, g⟩
    · obtain ⟨m1, cm1, f1⟩ := F1.inF
      obtain ⟨o, e⟩ := f1.ok.live d (.inl (F1.foot d z))
      exact ⟨o, (hs₂.2 d hda).trans e⟩) hx2 (hs c nz)
  have zn : ∀ d, addZ Z c d → Z d ∨ s.heap.get? d = none := fun d z => z.imp id fun e => (by rw [show d = c from e]; exact hc)
  exact q (addZ Z c) .next .next _ O h₂ _ _ (.inr rfl) (p c nz) (fun _ z => .inl z) zn F2 (ChZ.and F F1 (fun _ z => .inl z) zn (ChZ.of_ext F k₂) c2) trivial
theorem GF.setAt {b : Addr} {j : Int} {kd : Nat} {xt' : Heap → Prop} (V : View env Z st nuV) (he : EV prog w B n env nuV e r) (hr : Scal r) (hx : (x, Slot.r (.v (.ref b))) ∈ st.loc) (hZ : Z b) (h0 : 0 ≤ j) (hfit : j < 2 ^ 63)
    (hl : ∀ h, st.ext h → ∃ vs, h.PlainList b (List.toArray vs) ∧ j.toNat < vs.length ∧ ∀ h' v, (∀ X, RV h' X v r) → Heap.SameBut b h h' → h'.PlainList b (List.toArray (vs.set j.toNat v)) → xt' h')
    (hs : ∀ h h' : Heap, xt' h → (∀ c o, Z c → h.get? c = some o → h'.get? c = some o) → xt' h')
    (p : P Z .next { st with ext := xt' }) (hd : (x == ("__debug__" : Str)) = false := by decide +kernel) (hsw : swapsWith e (some (.Subscript (.Name x px) (.Constant (.int j) kd pc) ps)) pos.line env = pure false := by rfl) :
    GF prog w B D n env Z st (exec (.Assign [.Subscript (.Name x px) (.Constant (.int j) kd pc) ps] e pos) env) P := by
  refine ⟨fun A s X₀ O Q E R hdj F q => ?_⟩
  obtain ⟨m, cm, f⟩ := F.inF
  obtain ⟨ok, nm⟩ := f.view F.foot V
  obtain ⟨u, b', rfl⟩ := f.slots _ hx
  refine wpAny_Assign_Subscript (he.run A s _ _ E R ok nm fun v h₁ t₁ k₁ y₁ => ?_) hsw
  refine wpAny_Name ((b'.ln f).ld _ _ _ _ _ k₁ ?_) hd
  refine wpAny_Constant_int ?_
  have F1 := F.grow k₁
  obtain ⟨vs, hpl, hlt, hfin⟩ := hl _ F1.inF.choose_spec.choose_spec.ext
  refine setItem_plain hpl h0 hfit hlt fun h₂ hp₂ hs₂ => ?_
  have hx2 : xt' h₂ := hfin h₂ v (fun X => hr.any y₁) hs₂ hp₂
  obtain ⟨F2, c2⟩ := F1.zturn (h' := h₂) (xt' := xt') (fun d o nd e => (hs₂.2 d (fun z => nd (z ▸ hZ))).trans e) (fun d z => by
    by_cases hda : d = b
    · subst hda; obtain ⟨n, g⟩ := hp₂; exact ⟨_, g⟩
    · obtain ⟨m1, cm1, f1⟩ := F1.inF
      obtain ⟨o, e⟩ := f1.ok.live d (.inl (F1.foot d z))
      exact ⟨o, (hs₂.2 d hda).trans e⟩) hx2 hs
  exact q Z .next .next _ O h₂ _ _ (.inr rfl) p (fun _ z => z) (fun _ z => .inl z) F2 (ChZ.and F F1 (fun _ z => z) (fun _ z => .inl z) (ChZ.of_ext F k₁) c2) trivial
end
end Mine
end
section
open PySem PySem.W PyProof.Rows PySem.Calls
namespace Mine
section
variable {prog : Program} {w : World} {B : Heap} {mg mb : Str → Option Value} {D : Prop} {n : Nat} {rs : List Res} {r : Res} {xs : List Str}
theorem OPD.fun (C : Cx w B mg mb) (a : Addr) (hl : ∃ o, (heapK w.params).lookup a = some o ∧ o.data = .func (fdIn a)) (hcp : (heapK w.params).lookup (codeAt (fdIn a)) = (heapK P₀).lookup (codeAt (fdIn a))) (hcd : codeOk ((heapK P₀).lookup (codeAt (fdIn a))) (fdIn a) = true) (hbody : (fdIn a).body = .stmts (bodyIn a)) (hclo : (fdIn a).closure = [])
    (hbind : ∀ (vs : List Value), vs.length = rs.length → bindArgs (fdIn a) ⟨vs, []⟩ = pure (xs.zip vs)) (hlen : xs.length = rs.length)
    (hk : ∀ x ∈ xs, (fdIn a).scope.names.lookup x = some .local ∨ (fdIn a).scope.names.lookup x = some .cell) (nd : xs.Nodup) (ndn : ((fdIn a).scope.names.map (·.1)).Nodup)
    (main : ∀ L, GF prog w B D n (callEnvC (fdIn a) L a) (fun _ => False) ⟨slotsOf (xs.zip rs), fun _ => True⟩ (execs (bodyIn a) (callEnvC (fdIn a) L a)) (fun _ => Gives r))
    (hco : (fdIn a).scope.isCoroutine = false := by rfl) (hgen : (fdIn a).scope.isGenerator = false := by rfl) (hkind : (fdIn a).scope.kind = .function := by rfl) :
    OPD prog w B D (n + 1) (fun vs => call (.ref a) vs) rs r := by
  obtain ⟨o, h1, h2⟩ := hl
  refine OPD.fnG (rs' := rs) (C.K _ _ h1) h2 C.lim (codeOk.rec C.K hcd hcp) hbody hclo (fun A s X Q E vs R O y q => ?_) hk nd ndn main hco hgen hkind
  have hl := y.length
  rw [hbind vs hl]
  have h1 : (xs.zip vs).map (·.1) = xs := List.map_fst_zip (by omega)
  have h2 : (xs.zip vs).map (·.2) = vs := List.map_snd_zip (by omega)
  exact wpAny_pure (q _ _ _ (Ext.refl _) h1 (by rw [h2]; exact y))
end
noncomputable def VD (us : List Value) (ds : List PyData) : Heap → (Addr → Prop) → Value → Prop := fun h X u => ∃ a, u = .ref a ∧ ¬ X a ∧ h.PlainList a us.toArray ∧ RdAll h X us ds
theorem VD.stab (us : List Value) (ds : List PyData) : Stab (VD us ds) := fun h h' X Y u k y => by
  obtain ⟨a, e, nx, ⟨o, g⟩, rr⟩ := y
  exact ⟨a, e, (k _ _ nx g).2, ⟨o, (k _ _ nx g).1⟩, RdAll.up k rr⟩
noncomputable def vds : List Value → List PyData → List Res
  | u :: us, d :: ds => .vd u d :: vds us ds
  | _, _ => []
theorem RdAll.vds {h : Heap} {X : Addr → Prop} {us : List Value} {ds : List PyData} (x : RdAll h X us ds) : RVs h X us (vds us ds) := by
  induction us generalizing ds with
  | nil => cases x; exact .nil
  | cons v vs ih => cases x with | cons a r => exact .cons ⟨rfl, a⟩ (ih r)
section
variable {prog : Program} {w : World} {B : Heap} {D : Prop} {n : Nat} {env : Env} {nu nuV : List (Str × Res)} {Z : Addr → Prop} {st st₁ : St} {x : Str} {r r₀ : Res} {e t : Expr} {us : List Value} {ds : List PyData} {P : (Addr → Prop) → Fl → St → Prop} {c : Sem Flow}
theorem VD.rd {h : Heap} {X : Addr → Prop} {u : Value} (y : RV h X u (.hp (VD us ds))) : RV h X u (.d (.list ds)) := by
  obtain ⟨_, a, rfl, nx, hl, ra⟩ := y
  exact Rd.of_list nx hl ra
theorem IT.vd (h : EV prog w B n env nu e (.hp (VD us ds))) : IT prog w B n env nu t e (vds us ds) :=
  IT.seqOf h fun h X u y => by
    obtain ⟨_, b, rfl, nx, ⟨o, g⟩, ra⟩ := y
    exact ⟨b, us, rfl, nx, ⟨_, g, rfl, _, rfl⟩, ra.vds⟩
theorem keep_of {l : List (Str × Slot)} (h : (x, Slot.r r) ∈ l) : (x, r) ∈ keepN l := List.mem_filterMap.mpr ⟨_, h, rfl⟩
theorem View.nil : View env Z st [] := ⟨fun _ _ _ _ _ p hp => nomatch hp⟩
theorem View.cons (V : View env Z st nuV) (hx : (x, Slot.r r₀) ∈ st.loc) (hi : ∀ h X, (∀ a, Z a → ¬ X a) → st.ext h → Nm env h X (keepN st.loc) → ∀ v, RV h X v r₀ → RV h X v r) : View env Z st ((x, r) :: nuV) :=
  ⟨fun h X hX hx' hN p hp => by
    rcases List.mem_cons.mp hp with e | hp
    · subst e
      obtain ⟨v, l, y, c⟩ := hN _ (keep_of hx)
      exact ⟨v, l, hi h X hX hx' hN v y, c⟩
    · exact V.run h X hX hx' hN p hp⟩
theorem View.put (V : View env Z st nuV) (hx : (x, Slot.r r) ∈ st.loc) : View env Z st ((x, r) :: nuV) := View.cons V hx fun _ _ _ _ _ _ y => y
theorem turnG_ (a : AS prog w B n env Z st t r st₁) (b : GF prog w B D n env Z st₁ c P) : ∃ st₁, AS prog w B n env Z st t r st₁ ∧ GF prog w B D n env Z st₁ c P := ⟨_, a, b⟩
end
structure RC where
  b : Addr
  w : Value
  row : Row
noncomputable def RC.vals (c : RC) (t t' : Tok) : List Value := [c.w, .int (c.row.mode : Nat) t, .str c.row.sp t']
noncomputable def CExt (a : Addr) (cs : List RC) : Heap → Prop := fun h => h.PlainList a (List.toArray (cs.map fun c => Value.ref c.b)) ∧ ∀ c ∈ cs, ∃ t t', h.PlainList c.b (List.toArray (c.vals t t'))
noncomputable def ghostP (ds : List PyData) (cs : List RC) : Heap → (Addr → Prop) → Value → Prop := fun h X u => Rd h X u (.list ds) ∧ ∀ c ∈ cs, Rd h X c.w (txts c.row.ws)
theorem ghostP.stab (ds : List PyData) (cs : List RC) : Stab (ghostP ds cs) := fun h h' X Y u k y => ⟨Rd.up k y.1, fun c hc => Rd.up k (y.2 c hc)⟩
theorem CExt.rd {cs : List RC} {h : Heap} {X : Addr → Prop} (x : ∀ c ∈ cs, ∃ t t', h.PlainList c.b (List.toArray (c.vals t t'))) (hb : ∀ c ∈ cs, ¬ X c.b) (hg : ∀ c ∈ cs, Rd h X c.w (txts c.row.ws)) : RdAll h X (cs.map fun c => Value.ref c.b) (cs.map fun c => rowD c.row) := by
  induction cs with
  | nil => exact .nil
  | cons c cs ih =>
    refine .cons ?_ (ih (fun d hd => x d (.tail _ hd)) (fun d hd => hb d (.tail _ hd)) (fun d hd => hg d (.tail _ hd)))
    obtain ⟨t, t', hp⟩ := x c (.head _)
    exact Rd.of_list (hb c (.head _)) hp (.cons (hg c (.head _)) (.cons (.int _ _) (.cons (.str _ _) .nil)))
noncomputable def CZ (Z : Addr → Prop) (a : Addr) (cs : List RC) : Prop := (∀ c, Z c ↔ c = a ∨ ∃ q ∈ cs, q.b = c) ∧ (a :: cs.map (·.b)).Nodup
theorem CExt.stab {Z : Addr → Prop} {a : Addr} {cs : List RC} (hZ : CZ Z a cs) (h h' : Heap) (x : CExt a cs h) (k : ∀ c o, Z c → h.get? c = some o → h'.get? c = some o) : CExt a cs h' := by
  refine ⟨Heap.PlainList.at x.1 fun o e => k a o ((hZ.1 a).mpr (.inl rfl)) e, fun c hc => ?_⟩
  obtain ⟨t, t', hp⟩ := x.2 c hc
  exact ⟨t, t', Heap.PlainList.at hp fun o e => k _ o ((hZ.1 _).mpr (.inr ⟨c, hc, rfl⟩)) e⟩
theorem CExt.vd {a : Addr} {cs : List RC} {Z X : Addr → Prop} {h : Heap} (hZ : CZ Z a cs) (hX : ∀ a, Z a → ¬ X a) (x : CExt a cs h) (hg : ∀ c ∈ cs, Rd h X c.w (txts c.row.ws)) : RV h X (.ref a) (.hp (VD (cs.map fun c => Value.ref c.b) (cs.map fun c => rowD c.row))) :=
  ⟨VD.stab _ _, a, rfl, hX a ((hZ.1 a).mpr (.inl rfl)), x.1, CExt.rd x.2 (fun c hc => hX _ ((hZ.1 _).mpr (.inr ⟨c, hc, rfl⟩))) hg⟩
theorem CExt.row {a : Addr} {cs : List RC} {Z X : Addr → Prop} {h : Heap} {c : RC} (hZ : CZ Z a cs) (hX : ∀ a, Z a → ¬ X a) (x : CExt a cs h) (hc : c ∈ cs) (hg : Rd h X c.w (txts c.row.ws)) : Rd h X (.ref c.b) (rowD c.row) := by
  obtain ⟨t, t', hp⟩ := x.2 c hc
  exact Rd.of_list (hX _ ((hZ.1 _).mpr (.inr ⟨c, hc, rfl⟩))) hp (.cons hg (.cons (.int _ _) (.cons (.str _ _) .nil)))
theorem CZ.add {Z : Addr → Prop} {a b : Addr} {cs : List RC} {w : Value} {row : Row} (hZ : CZ Z a cs) (nb : ¬ Z b) : CZ (addZ Z b) a (cs ++ [⟨b, w, row⟩]) := by
  refine ⟨fun c => ⟨fun z => ?_, fun z => ?_⟩, ?_⟩
  · rcases z with z | z
    · rcases (hZ.1 c).mp z with e | ⟨q, hq, e⟩
      · exact .inl e
      · exact .inr ⟨q, List.mem_append_left _ hq, e⟩
    · exact .inr ⟨_, List.mem_append_right _ (List.mem_singleton.mpr rfl), z.symm⟩
  · rcases z with e | ⟨q, hq, e⟩
    · exact .inl ((hZ.1 c).mpr (.inl e))
    · rcases List.mem_append.mp hq with hq | hq
      · exact .inl ((hZ.1 c).mpr (.inr ⟨q, hq, e⟩))
      · rw [List.mem_singleton.mp hq] at e; exact .inr e.symm
  · have h2 := hZ.2
    rw [List.map_append, List.map_cons, List.map_nil, ← List.cons_append, List.nodup_append]
    refine ⟨h2, by simp, fun x hx y hy e => nb ((hZ.1 b).mpr ?_)⟩
    rw [List.mem_singleton.mp hy] at e
    subst e
    rcases List.mem_cons.mp hx with e | hx
    · exact .inl e
    · obtain ⟨q, hq, e⟩ := List.mem_map.mp hx
      exact .inr ⟨q, hq, e⟩
theorem CExt.add {Z : Addr → Prop} {a b : Addr} {cs : List RC} {w : Value} {row : Row} {h h' : Heap} {t t' : Tok} (hZ : CZ Z a cs) (x : CExt a cs h) (hp : h'.PlainList b (List.toArray (RC.vals ⟨b, w, row⟩ t t')))
    (ha : h'.PlainList a (List.toArray (cs.map (fun c => Value.ref c.b) ++ [.ref b]))) (k : ∀ c o, c ≠ a → Z c → h.get? c = some o → h'.get? c = some o) : CExt a (cs ++ [⟨b, w, row⟩]) h' := by
  refine ⟨by rw [List.map_append]; exact ha, fun c hc => ?_⟩
  rcases List.mem_append.mp hc with hc | hc
  · obtain ⟨t, t', hp⟩ := x.2 c hc
    refine ⟨t, t', Heap.PlainList.at hp fun o e => k _ o (fun e => ?_) ((hZ.1 _).mpr (.inr ⟨c, hc, rfl⟩)) e⟩
    have := hZ.2
    rw [List.nodup_cons] at this
    exact this.1 (List.mem_map.mpr ⟨c, hc, e⟩)
  · rw [List.mem_singleton.mp hc]; exact ⟨t, t', hp⟩
theorem nodup_key {cs : List RC} (nd : (cs.map (·.b)).Nodup) : ∀ {q c : RC}, q ∈ cs → c ∈ cs → q.b = c.b → q = c := by
  induction cs with
  | nil => intro q c hq; cases hq
  | cons p cs ih =>
    intro q c hq hc e
    rw [List.map_cons, List.nodup_cons] at nd
    rcases List.mem_cons.mp hq with h1 | h1 <;> rcases List.mem_cons.mp hc with h2 | h2
    · rw [h1, h2]
    · subst h1; exact absurd (List.mem_map.mpr ⟨c, h2, e.symm⟩) nd.1
    · subst h2; exact absurd (List.mem_map.mpr ⟨q, h1, e⟩) nd.1
    · exact ih nd.2 h1 h2 e
noncomputable def RC.put (b : Addr) (f : Row → Row) (c : RC) : RC := if c.b = b then { c with row := f c.row } else c
theorem put_b (b : Addr) (f : Row → Row) (cs : List RC) : (cs.map (RC.put b f)).map (·.b) = cs.map (·.b) := by
  rw [List.map_map]
  refine List.map_congr_left fun c _ => ?_
  show (RC.put b f c).b = c.b
  unfold RC.put; split <;> rfl
theorem CZ.put {Z : Addr → Prop} {a b : Addr} {cs : List RC} {f : Row → Row} (hZ : CZ Z a cs) : CZ Z a (cs.map (RC.put b f)) := by
  refine ⟨fun c => (hZ.1 c).trans (or_congr Iff.rfl ?_), by rw [put_b]; exact hZ.2⟩
  have := put_b b f cs
  constructor
  · rintro ⟨q, hq, e⟩
    have h1 : c ∈ cs.map (·.b) := List.mem_map.mpr ⟨q, hq, e⟩
    rw [← this] at h1
    obtain ⟨q', hq', e'⟩ := List.mem_map.mp h1
    exact ⟨q', hq', e'⟩
  · rintro ⟨q, hq, e⟩
    have h1 : c ∈ (cs.map (RC.put b f)).map (·.b) := List.mem_map.mpr ⟨q, hq, e⟩
    rw [this] at h1
    obtain ⟨q', hq', e'⟩ := List.mem_map.mp h1
    exact ⟨q', hq', e'⟩
theorem CExt.put {a : Addr} {cs : List RC} {f : Row → Row} {h h' : Heap} {c : RC} {t t' : Tok} (nd : (a :: cs.map (·.b)).Nodup) (hc : c ∈ cs) (x : CExt a cs h) (hs : Heap.SameBut c.b h h') (hp : h'.PlainList c.b (List.toArray (RC.vals { c with row := f c.row } t t'))) : CExt a (cs.map (RC.put c.b f)) h' := by
  have hab : a ≠ c.b := fun e => by
    rw [List.nodup_cons] at nd
    exact nd.1 (List.mem_map.mpr ⟨c, hc, e.symm⟩)
  refine ⟨?_, fun q hq => ?_⟩
  · have e1 : (cs.map (RC.put c.b f)).map (fun c => Value.ref c.b) = cs.map fun c => Value.ref c.b := by
      have := congrArg (List.map Value.ref) (put_b c.b f cs)
      simpa [List.map_map, Function.comp_def] using this
    rw [e1]
    exact Heap.PlainList.at x.1 fun o e => (hs.2 a hab).trans e
  · obtain ⟨q', hq', rfl⟩ := List.mem_map.mp hq
    unfold RC.put
    split
    · rename_i e
      have : q' = c := by
        rw [List.nodup_cons] at nd
        exact nodup_key nd.2 hq' hc e
      subst this
      exact ⟨t, t', hp⟩
    · rename_i e
      obtain ⟨u, u', hu⟩ := x.2 q' hq'
      exact ⟨u, u', Heap.PlainList.at hu fun o g => (hs.2 q'.b e).trans g⟩
theorem vds_map (cs : List RC) : vds (cs.map fun c => Value.ref c.b) (cs.map fun c => rowD c.row) = cs.map fun c => Res.vd (.ref c.b) (rowD c.row) := by
  induction cs with
  | nil => rfl
  | cons c cs ih =>
    show Res.vd _ _ :: vds (cs.map fun c => Value.ref c.b) (cs.map fun c => rowD c.row) = _
    rw [ih]; rfl
theorem nodup_ws {cs : List RC} (nd : (cs.map (·.row.ws)).Nodup) : ∀ {q c : RC}, q ∈ cs → c ∈ cs → q.row.ws = c.row.ws → q = c := by
  induction cs with
  | nil => intro q c hq; cases hq
  | cons p cs ih =>
    intro q c hq hc e
    rw [List.map_cons, List.nodup_cons] at nd
    rcases List.mem_cons.mp hq with h1 | h1 <;> rcases List.mem_cons.mp hc with h2 | h2
    · rw [h1, h2]
    · subst h1; exact absurd (List.mem_map.mpr ⟨c, h2, e.symm⟩) nd.1
    · subst h2; exact absurd (List.mem_map.mpr ⟨q, h1, e⟩) nd.1
    · exact ih nd.2 h1 h2 e
theorem find_none {cs : List RC} {ws : List Str} (h : ws ∉ cs.map (·.row.ws)) : cs.filterMap (fun q => if q.row.ws = ws then some (Value.ref q.b) else none) = [] := by
  rw [List.filterMap_eq_nil_iff]
  intro q hq
  rw [if_neg fun e => h (List.mem_map.mpr ⟨q, hq, e⟩)]
theorem find_row {cs : List RC} {c : RC} (nd : (cs.map (·.row.ws)).Nodup) (hc : c ∈ cs) : cs.filterMap (fun q => if q.row.ws = c.row.ws then some (Value.ref q.b) else none) = [.ref c.b] := by
  induction cs with
  | nil => cases hc
  | cons p cs ih =>
    rw [List.map_cons, List.nodup_cons] at nd
    by_cases e : p.row.ws = c.row.ws
    · have : c = p := nodup_ws (cs := p :: cs) (by rw [List.map_cons, List.nodup_cons]; exact nd) hc (.head _) e.symm
      subst this
      rw [List.filterMap_cons_some (b := .ref c.b) (by rw [if_pos e]), find_none nd.1]
    · rw [List.filterMap_cons_none (by rw [if_neg e])]
      rcases List.mem_cons.mp hc with h | h
      · exact absurd (by rw [h]) e
      · exact ih nd.2 h
theorem ghost_put {ds : List PyData} {cs : List RC} {b : Addr} {f : Row → Row} (hf : ∀ r, (f r).ws = r.ws) (h : Heap) (X : Addr → Prop) (u : Value) (y : RV h X u (.hp (ghostP ds cs))) : RV h X u (.hp (ghostP ds (cs.map (RC.put b f)))) := by
  refine ⟨ghostP.stab _ _, y.2.1, fun c hc => ?_⟩
  obtain ⟨q, hq, rfl⟩ := List.mem_map.mp hc
  have := y.2.2 q hq
  unfold RC.put
  split
  · show Rd h X q.w (txts (f q.row).ws)
    rw [hf]; exact this
  · exact this
theorem put_ws {cs : List RC} {b : Addr} {f : Row → Row} (hf : ∀ r, (f r).ws = r.ws) : (cs.map (RC.put b f)).map (·.row.ws) = cs.map (·.row.ws) := by
  rw [List.map_map]
  refine List.map_congr_left fun c _ => ?_
  show (RC.put b f c).row.ws = c.row.ws
  unfold RC.put; split
  · exact hf _
  · rfl
theorem put_self {c : RC} {f : Row → Row} : RC.put c.b f c = { c with row := f c.row } := by unfold RC.put; rw [if_pos rfl]
end Mine
end
section
open PySem PySem.W PyProof.Rows PySem.Calls
set_option maxRecDepth 100000
set_option maxHeartbeats 3200000
namespace Mine
noncomputable def metK (val : Nat → Str) : Nat → Str → Bool
  | 0 => fun _ => false
  | i + 1 => fun k => metK val i k || decide (k = val i)
noncomputable def cntK (val : Nat → Str) : Nat → Nat
  | 0 => 0
  | i + 1 => if metK val i (val i) then cntK val i else cntK val i + 1
theorem cntK_le (val : Nat → Str) : ∀ i, cntK val i ≤ i
  | 0 => Nat.le_refl _
  | i + 1 => by have := cntK_le val i; unfold cntK; split <;> omega
theorem metK_iff (val : Nat → Str) : ∀ (i : Nat) (k : Str), metK val i k = true ↔ ∃ j, j < i ∧ val j = k
  | 0, k => by simp [metK]
  | i + 1, k => by
    unfold metK
    rw [Bool.or_eq_true, metK_iff val i k, decide_eq_true_eq]
    constructor
    · rintro (⟨j, h, e⟩ | e)
      · exact ⟨j, by omega, e⟩
      · exact ⟨i, by omega, e.symm⟩
    · rintro ⟨j, h, e⟩
      by_cases hj : j = i
      · subst hj; exact .inr e.symm
      · exact .inl ⟨j, by omega, e⟩
theorem metK_list (xs : List Str) : metK (fun i => xs.getD i "") xs.length = fun k => decide (k ∈ xs) := by
  funext k
  rw [Bool.eq_iff_iff, metK_iff, decide_eq_true_eq, List.mem_iff_getElem]
  constructor
  · rintro ⟨j, h, e⟩
    exact ⟨j, h, by rw [← e]; simp [h]⟩
  · rintro ⟨j, h, e⟩
    exact ⟨j, h, by rw [← e]; simp [h]⟩
section
variable {prog : Program} {w : World} {A : Around} {R : Result → Shared → Prop} {I : Addr} {fp wr : List Addr} {G : Array GenState → Array GenState → Prop} {n : Nat} {P : Nat → Value → Prop} {St : Nat → Shared → Prop}
theorem update_loopX (W : WalksS prog w A.in1 I fp wr G n P St) (S : Addr) (hSf : S ∉ fp) (val : Nat → Str) (hval : ∀ i v, P i v → ∃ t, v = .str (val i) t) (hb : n + 1 < scanBound) :
    ∀ (k i : Nat) (s : Shared), n - i = k → i ≤ n → St i s → SetX (PySem.strKind prog w) s.heap S (metK val i) (cntK val i) →
      (∀ s', Moved (S :: wr) G s s' → SetX (PySem.strKind prog w) s'.heap S (metK val n) (cntK val n) → R (.ok (.ret .none)) s') →
      codeAny (model prog w) A (.builtin "set.update.loop" ⟨[.ref S, .ref I], []⟩) R s := by
  have hSw : S ∉ wr := fun h => hSf (W.sub _ h)
  have hsub : ∀ b ∈ wr, b ∈ S :: wr := fun b hb => List.mem_cons_of_mem _ hb
  intro k
  induction k with
  | zero =>
    intro i s hk hi hst hS hR
    have hin : i = n := by omega
    subst hin
    refine codeAny_builtin PyProof.Rows.F.entry_set_update_loop ?_
    rw [Around.under_plainId PyProof.Rows.F.plain_set_update_loop _]
    show wpAny _ A.in1 (pyNext (.ref I) >>= _) _ _ s
    refine wpAny_bind (W.done s _ _ hst fun s' hm => ?_)
    show wpAny _ A.in1 (ret Value.none) _ _ s'
    exact wpAny_pure (hR s' (hm.mono hsub) (hS.at fun o ho => hm.heap S _ hSw ho))
  | succ k ih =>
    intro i s hk hi hst hS hR
    have hlt : i < n := by omega
    refine codeAny_builtin PyProof.Rows.F.entry_set_update_loop ?_
    rw [Around.under_plainId PyProof.Rows.F.plain_set_update_loop _]
    show wpAny _ A.in1 (pyNext (.ref I) >>= _) _ _ s
    refine wpAny_bind (W.item i s _ _ hlt hst fun v s' hP hst' hm => ?_)
    obtain ⟨t, rfl⟩ := hval i v hP
    have hS' : SetX (PySem.strKind prog w) s'.heap S (metK val i) (cntK val i) := hS.at fun o ho => hm.heap S _ hSw ho
    show wpAny _ A.in1 (holding [Value.str (val i) t] (setAdd S (.str (val i) t)) >>= _) _ _ s'
    refine wpAny_bind (wpAny_holding ?_)
    unfold setAdd
    refine wpAny_holding ?_
    have hkey : (PySem.strKind prog w).is (val i) (.str (val i) t) = true := PySem.strKind_is prog w _ _
    refine wpAny_bind ((PySem.strKind prog w).pyHash (k := val i) hkey ?_)
    have hroom : cntK val i + 1 < scanBound := by have := cntK_le val i; omega
    refine setx_add (knd := PySem.strKind prog w) (s := { s' with toks := s'.toks + 1 }) hkey rfl hS' hroom (.inl rfl) fun h' hsb hS2 => ?_
    have hSi : SetX (PySem.strKind prog w) h' S (metK val (i + 1)) (cntK val (i + 1)) := hS2
    refine wpAny_pure ⟨plainId_quiet PyProof.Rows.F.plain_set_update_loop _, ih (i + 1) _ (by omega) hlt (W.frame _ s' _ _ hst' (Nat.le_succ _) fun b hb o e => ?_) hSi fun s'' hm'' hS'' => ?_⟩
    · rw [hsb.2 b (fun h : b = S => hSf (by rw [← h]; exact hb))]; exact e
    · refine hR s'' (Moved.trans W.gtrans ((hm.mono hsub).then_heap (Nat.le_succ _) fun b o hb e => ?_) hm'') hS''
      rw [hsb.2 b (fun h : b = S => hb (by rw [h]; exact List.mem_cons_self))]; exact e
end
section
variable {prog : Program} {w : World} {A : Around} {E : Value → Shared → Prop} {s : Shared}
noncomputable abbrev freshSet (w : World) : Obj := { cls := .type "set", dict := none, data := .set #[] 0 (.fresh 0 0 (!byText w)) }
theorem freshSetX {K : Type} [DecidableEq K] {knd : KeyKind prog w K} {h : Heap} {a : Addr} (g : h.get? a = some (freshSet w)) : SetX knd h a (fun _ => false) 0 :=
  ⟨#[], 0, _, g, fun e he => by simp at he, fun k => by simp, by decide, by rfl, rfl, rfl, .inl (Nat.zero_le _)⟩
theorem setNew0 {Q₁ : Value → Shared → Prop} (h : Q₁ (.ref s.heap.objs.size) { s with heap := s.heap.push (freshSet w) }) : codeAny (model prog w) A (.call (.builtin "set.__new__") ⟨[.type "set"], []⟩) (wants Q₁ E) s := by
  refine codeAny_of_tree ?_
  show wpAny _ A.in1 (do checkBuiltinCall "set.__new__" ⟨[.type "set"], []⟩; again (.builtin "set.__new__" ⟨[.type "set"], []⟩)) _ _ s
  refine wpAny_bind (wpAny_of_eq PySem.F.newCall_set_0 (wpAny_pure ⟨plainId_quiet PySem.F.plain_set_new _, codeAny_builtin PySem.F.entry_set_new ?_⟩))
  rw [Around.under_plainId PySem.F.plain_set_new _]
  unfold Builtin.«set.__new__» Builtin.Frozenset.newClass
  have hsub := sub_set_self
  obtain ⟨hp, g, d, tk, os⟩ := s
  dsimp only
  wp_walk
  refine wpAny_askSetting (wpAny_pure ?_)
  dsimp only
  simp only [newObj]
  refine wpAny_bind (wpAny_alloc (wpAny_pure ?_))
  exact wpAny_pure h
theorem setNew1 (a : Value) {Q₁ : Value → Shared → Prop} (h : Q₁ (.ref s.heap.objs.size) { s with heap := s.heap.push (freshSet w) }) : codeAny (model prog w) A (.call (.builtin "set.__new__") ⟨[.type "set", a], []⟩) (wants Q₁ E) s := by
  refine codeAny_of_tree ?_
  show wpAny _ A.in1 (do checkBuiltinCall "set.__new__" ⟨[.type "set", a], []⟩; again (.builtin "set.__new__" ⟨[.type "set", a], []⟩)) _ _ s
  refine wpAny_bind (wpAny_of_eq (PySem.F.newCall_set_1 a) (wpAny_pure ⟨plainId_quiet PySem.F.plain_set_new _, codeAny_builtin PySem.F.entry_set_new ?_⟩))
  rw [Around.under_plainId PySem.F.plain_set_new _]
  unfold Builtin.«set.__new__» Builtin.Frozenset.newClass
  have hsub := sub_set_self
  obtain ⟨hp, g, d, tk, os⟩ := s
  dsimp only
  wp_walk
  refine wpAny_askSetting (wpAny_pure ?_)
  dsimp only
  simp only [newObj]
  refine wpAny_bind (wpAny_alloc (wpAny_pure ?_))
  exact wpAny_pure h
theorem setCall0 {Q : Value → Shared → Prop} (h : Q (.ref s.heap.objs.size) { s with heap := s.heap.push (freshSet w) }) : wpAny (model prog w) A (call (.type "set") []) Q E s := by
  obtain ⟨c, tl, hmro⟩ := PySem.F.called_set.mro
  have hmade := PySem.F.called_set.made
  have hsub := PySem.F.called_set.sub
  refine wpAny_call (codeAny_of_tree ?_)
  show wpAny _ _ (callAny (.type "set") _) _ _ _
  refine wpAny_pure ⟨Code.quiet_builtin _ (by decide +kernel), codeAny_builtin PySem.F.entry_type_call ?_⟩
  rw [Around.under_plain (weight_type_call_type "set" [] []) rfl]
  have h1 := PySem.F.called_set.notType
  have h2 := PySem.F.called_set.canCreate
  have hct := PySem.F.typeCall_set_0
  repeat (any_goals (first | assumption | wp_step))
  refine codeAny_mono (setNew0 (E := E) (Q₁ := fun obj s₁ => obj = .ref s.heap.objs.size ∧ s₁ = { s with heap := s.heap.push (freshSet w) }) ⟨rfl, rfl⟩) fun r s₁ hr => ?_
  cases r with
  | error e => exact hr
  | ok fl =>
    cases fl with
    | ret obj =>
      obtain ⟨rfl, rfl⟩ := hr
      have hS : (s.heap.push (freshSet w)).get? s.heap.objs.size = some (freshSet w) := Heap.get?_push_size _ rfl
      have hT : Shared.TypeIs { s with heap := s.heap.push (freshSet w) } (.ref s.heap.objs.size) "set" := ⟨_, hS, rfl⟩
      have hli := PySem.F.called_set.init.lookup
      have hbi := PySem.F.called_set.init.bind (.ref s.heap.objs.size)
      repeat (any_goals (first | assumption | wp_step))
      refine codeAny_mono (codeAny_call_builtin (R := wants (fun r s₂ => r = .none ∧ Q (.ref s.heap.objs.size) s₂) E) PySem.F.called_set.init.plain PySem.F.entry_set_init (check_set_init hT ?_)) fun r₂ s₂ hr₂ => ?_
      · unfold Builtin.«set.__init__» noKeywords
        wp_walk
        exact ⟨rfl, h⟩
      · cases r₂ with
        | error e => exact hr₂
        | ok fl₂ =>
          cases fl₂ with
          | ret r =>
            obtain ⟨rfl, hq⟩ := hr₂
            repeat (any_goals (first | assumption | wp_step))
          | _ => exact hr₂.elim
    | _ => exact hr.elim
theorem setCallL {l : Addr} {vs : List Value} {xs : List Str} {Q : Value → Shared → Prop} (hh : A.handled = none) (hl : s.heap.PlainList l vs.toArray) (hv : ∀ (i : Nat) (v : Value), vs[i]? = some v → ∃ t, v = .str (xs.getD i "") t) (hlen : vs.length = xs.length) (hb : xs.length + 1 < scanBound)
    (h : ∀ (h' : Heap) (tk n : Nat), SetX (PySem.strKind prog w) h' s.heap.objs.size (fun k => decide (k ∈ xs)) n → Ext s.heap h' → Q (.ref s.heap.objs.size) { s with heap := h', toks := tk }) :
    wpAny (model prog w) A (call (.type "set") [.ref l]) Q E s := by
  obtain ⟨c, tl, hmro⟩ := PySem.F.called_set.mro
  have hmade := PySem.F.called_set.made
  have hsub := PySem.F.called_set.sub
  refine wpAny_call (codeAny_of_tree ?_)
  show wpAny _ _ (callAny (.type "set") _) _ _ _
  refine wpAny_pure ⟨Code.quiet_builtin _ (by decide +kernel), codeAny_builtin PySem.F.entry_type_call ?_⟩
  rw [Around.under_plain (weight_type_call_type "set" [.ref l] []) rfl]
  have h1 := PySem.F.called_set.notType
  have h2 := PySem.F.called_set.canCreate
  have hct := PySem.F.typeCall_set_1 (.ref l)
  repeat (any_goals (first | assumption | wp_step))
  refine codeAny_mono (setNew1 (.ref l) (E := E) (Q₁ := fun obj s₁ => obj = .ref s.heap.objs.size ∧ s₁ = { s with heap := s.heap.push (freshSet w) }) ⟨rfl, rfl⟩) fun r s₁ hr => ?_
  cases r with
  | error e => exact hr
  | ok fl =>
    cases fl with
    | ret obj =>
      obtain ⟨rfl, rfl⟩ := hr
      have hS : (s.heap.push (freshSet w)).get? s.heap.objs.size = some (freshSet w) := Heap.get?_push_size _ rfl
      have hT : Shared.TypeIs { s with heap := s.heap.push (freshSet w) } (.ref s.heap.objs.size) "set" := ⟨_, hS, rfl⟩
      have hli := PySem.F.called_set.init.lookup
      have hbi := PySem.F.called_set.init.bind (.ref s.heap.objs.size)
      repeat (any_goals (first | assumption | wp_step))
      refine codeAny_mono (codeAny_call_builtin (R := wants (fun r s₂ => r = .none ∧ ∃ h' tk n, s₂ = { s with heap := h', toks := tk } ∧ SetX (PySem.strKind prog w) h' s.heap.objs.size (fun k => decide (k ∈ xs)) n ∧ Ext s.heap h') E) PySem.F.called_set.init.plain PySem.F.entry_set_init (check_set_init_1 hT ?_)) fun r₂ s₂ hr₂ => ?_
      · obtain ⟨nl, hol⟩ := hl
        have hol' : (s.heap.push (freshSet w)).get? l = some { cls := .type "list", data := .seq vs.toArray nl } := Heap.get?_push_of_some _ hol
        have hsls := PySem.F.sub_list_set
        have hslf := PySem.F.sub_list_frozenset
        have hne : (Value.type "list" == Value.type "dict") = false := by decide
        have hl1 : (s.heap.push (freshSet w)).IsList l vs.toArray := ⟨_, hol', rfl, nl, rfl⟩
        unfold Builtin.«set.__init__» noKeywords Builtin.Frozenset.updateFrom
        generalize hPI : pyIter = PI
        wp_walk
        subst hPI
        refine wpAny_pyIter_list hl1 ?_
        refine wpAny_bind (wpAny_runValue ?_)
        have hlS : l < s.heap.objs.size := Heap.lt_size hol
        have hh3 : A.in1.in1.in1.handled = none := by simp [hh]
        have hneI : l ≠ (s.heap.push (freshSet w)).objs.size := by
          rw [Heap.size_push]; exact Nat.ne_of_lt (Nat.lt_succ_of_lt hlS)
        have hSf : s.heap.objs.size ∉ [(s.heap.push (freshSet w)).objs.size, l] := by
          rw [Heap.size_push]; simp only [List.mem_cons, List.mem_singleton, List.not_mem_nil, or_false, not_or]
          exact ⟨Nat.ne_of_lt (Nat.lt_succ_self _), Nat.ne_of_gt hlS⟩
        have hsz : vs.toArray.size = xs.length := by rw [List.size_toArray, hlen]
        refine update_loopX ((Walks.list hh3 _ l hneI vs.toArray).toS) s.heap.objs.size hSf (fun i => xs.getD i "") (fun i v e => hv i v (by simpa using e)) (by rw [hsz]; exact hb) (vs.toArray.size - 0) 0 _ (by omega) (Nat.zero_le _)
          ⟨⟨_, Heap.get?_push_size _ rfl, rfl, rfl⟩, (hl1.push _)⟩ (freshSetX (Heap.get?_push_of_some _ hS)) fun s' hm hS' => ?_
        obtain ⟨h', g', d', tk', os'⟩ := s'
        have eg : g' = s.gens := hm.gens
        have ed : d' = s.drawn := hm.drawn
        have eo : os' = s.os := hm.os
        subst eg; subst ed; subst eo
        show wpAny _ _ _ _ _ _
        refine wpAny_pure ?_
        show wpAny _ _ (ret Value.none) _ _ _
        rw [hsz, metK_list] at hS'
        refine wpAny_pure ⟨rfl, h', tk', _, rfl, hS', fun b o e => ?_⟩
        have hb := Heap.lt_size e
        have hb1 : b ≠ s.heap.objs.size := Nat.ne_of_lt hb
        have hb2 : b ≠ (s.heap.push (freshSet w)).objs.size := by
          rw [Heap.size_push]; exact Nat.ne_of_lt (Nat.lt_succ_of_lt hb)
        exact hm.heap b o (by simp only [List.mem_cons, List.mem_singleton, List.not_mem_nil, or_false, not_or]; exact ⟨hb1, hb2⟩) (Heap.get?_push_of_some _ (Heap.get?_push_of_some _ e))
      · cases r₂ with
        | error e => exact hr₂
        | ok fl₂ =>
          cases fl₂ with
          | ret r =>
            obtain ⟨rfl, h', tk, n, rfl, hS', hk'⟩ := hr₂
            repeat (any_goals (first | assumption | wp_step))
            exact h _ _ _ hS' hk'
          | _ => exact hr₂.elim
    | _ => exact hr.elim
end
noncomputable def SetP (prog : Program) (w : World) (xs : List Str) : Heap → (Addr → Prop) → Value → Prop := fun h X u => ∃ a n, u = .ref a ∧ ¬ X a ∧ SetX (PySem.strKind prog w) h a (fun k => decide (k ∈ xs)) n
theorem SetP.stab (prog : Program) (w : World) (xs : List Str) : Stab (SetP prog w xs) := fun h h' X Y u k y => by
  obtain ⟨a, n, e, nx, hX⟩ := y
  obtain ⟨o, g⟩ := hX.live
  exact ⟨a, n, e, (k _ _ nx g).2, hX.at fun o' g' => (k _ _ nx g').1⟩
section
variable {prog : Program} {w : World} {B : Heap} {n : Nat}
theorem strs_at {h : Heap} {X : Addr → Prop} : ∀ {vs : List Value} {xs : List Str}, RdAll h X vs (xs.map .str) → ∀ (i : Nat) (v : Value), vs[i]? = some v → ∃ t, v = .str (xs.getD i "") t
  | [], _, _, i, v, e => by simp at e
  | u :: vs, [], y, _, _, _ => by cases y
  | u :: vs, x :: xs, .cons y ys, 0, v, e => by
    cases y
    rw [List.getElem?_cons_zero] at e
    exact ⟨_, (Option.some.inj e).symm⟩
  | u :: vs, x :: xs, .cons y ys, i + 1, v, e => by
    rw [List.getElem?_cons_succ] at e
    obtain ⟨t, ht⟩ := strs_at ys i v e
    exact ⟨t, by rw [ht]; simp⟩
theorem OP.set0 : OP prog w B n (fun vs => call (.type "set") vs) [] (.hp (SetP prog w [])) := by
  refine ⟨fun A s X Q E vs R O y q => ?_⟩
  cases y
  refine setCall0 (q _ _ _ (Ext.push _ _) ⟨SetP.stab _ _ _, _, 0, rfl, O.freshSize, ?_⟩)
  have := freshSetX (knd := PySem.strKind prog w) (w := w) (h := s.heap.push (freshSet w)) (a := s.heap.objs.size) (Heap.get?_push_size _ rfl)
  simpa using this
theorem OP.setL {xs : List Str} (hb : xs.length ≤ 1000) : OP prog w B n (fun vs => call (.type "set") vs) [.d (.list (xs.map .str))] (.hp (SetP prog w xs)) := by
  refine ⟨fun A s X Q E vs R O y q => ?_⟩
  cases y with
  | cons y ys =>
    cases ys
    obtain ⟨l, us, rfl, nx, hl, ra⟩ := Rd.list_invP y
    have hlen : us.length = xs.length := by have := ra.length; rwa [List.length_map] at this
    refine setCallL R.handled hl (strs_at ra) hlen (by unfold scanBound; omega) fun h' tk n hS k => q _ _ _ k ⟨SetP.stab _ _ _, _, n, rfl, O.freshSize, hS⟩
end
end Mine
end
section
open PySem PySem.W PyProof.Rows PySem.Calls
namespace Mine
noncomputable abbrev KH (w : World) : Frag := heapK w.params
noncomputable def igO1 (w : World) (t1 : Nat) (vm : Value) : Obj := Obj.putName "_mods" (PyData.keyHash w.params "_mods") (.str "_mods" t1) vm emptyDict
noncomputable def igO2 (w : World) (t1 t2 : Nat) (vm vd : Value) : Obj := Obj.putName "_dirs" (PyData.keyHash w.params "_dirs") (.str "_dirs" t2) vd (igO1 w t1 vm)
noncomputable def igO3 (w : World) (t1 t2 t3 : Nat) (vm vd vi : Value) : Obj := Obj.putName "_ignore" (PyData.keyHash w.params "_ignore") (.str "_ignore" t3) vi (igO2 w t1 t2 vm vd)
theorem ig_mods (w : World) (t1 t2 t3 : Nat) (vm vd vi : Value) : lookIn "_mods" (igO3 w t1 t2 t3 vm vd vi) = some (some vm) := by rfl
theorem ig_dirs (w : World) (t1 t2 t3 : Nat) (vm vd vi : Value) : lookIn "_dirs" (igO3 w t1 t2 t3 vm vd vi) = some (some vd) := by rfl
theorem ig_ignore (w : World) (t1 t2 t3 : Nat) (vm vd vi : Value) : lookIn "_ignore" (igO3 w t1 t2 t3 vm vd vi) = some (some vi) := by rfl
theorem ig_names (w : World) (t1 t2 t3 : Nat) (vm vd vi : Value) : lookIn "names" (igO3 w t1 t2 t3 vm vd vi) = some none := by rfl
theorem ig0 : (lookIn "_mods" emptyDict).isSome = true := by rfl
theorem ig1 (w : World) (t1 : Nat) (vm : Value) : (lookIn "_dirs" (igO1 w t1 vm)).isSome = true := by rfl
theorem ig2 (w : World) (t1 t2 : Nat) (vm vd : Value) : (lookIn "_ignore" (igO2 w t1 t2 vm vd)).isSome = true := by rfl
theorem ig_makes (w : World) : makesIn (KH w) 199 = true := by kernel_rfl
theorem ig_over (w : World) : plainOver (KH w) 199 = true := by kernel_rfl
theorem ig_hasDict (w : World) : (clsIn (KH w) 199).any (·.hasDict) = true := by kernel_rfl
theorem ig_init (w : World) : findIn (KH w) (.ref 199) "__init__" = some (some (.ref 189)) := by kernel_rfl
theorem ig_initT (w : World) : typeIn (KH w) (.ref 189) = some (.type "function") := by kernel_rfl
theorem ig_nm (w : World) : findIn (KH w) (.ref 199) "names" = some (some (.ref 196)) := by kernel_rfl
theorem ig_nmT (w : World) : typeIn (KH w) (.ref 196) = some (.type "function") := by kernel_rfl
theorem ig_ga (w : World) : findIn (KH w) (.ref 199) "__getattribute__" = some (some (.builtin "object.__getattribute__")) := by kernel_rfl
theorem ig_gt (w : World) : findIn (KH w) (.ref 199) "__getattr__" = some none := by kernel_rfl
theorem ig_sa (w : World) : findIn (KH w) (.ref 199) "__setattr__" = some (some (.builtin "object.__setattr__")) := by kernel_rfl
theorem ig_t1 (w : World) : takerIn (KH w) 199 "_mods" = some none := by kernel_rfl
theorem ig_t2 (w : World) : takerIn (KH w) 199 "_dirs" = some none := by kernel_rfl
theorem ig_t3 (w : World) : takerIn (KH w) 199 "_ignore" = some none := by kernel_rfl
theorem ig_f (w : World) (name : Str) (od : Obj) (v : Value) (hf : findIn (KH w) (.ref 199) name = some none) (hl : lookIn name od = some (some v)) : findObj (KH w) 199 (some od) name = some (.value v) := by
  have h := ig_hasDict w
  obtain ⟨cd, hc, hd⟩ := any_some h
  unfold findObj
  rw [hc, hf]
  show (W.ownOf cd (some od) name).bind _ = _
  unfold W.ownOf
  rw [hd, if_pos rfl]
  show (lookIn name od).bind _ = _
  rw [hl]
  rfl
theorem ig_f1 (w : World) : findIn (KH w) (.ref 199) "_mods" = some none := by kernel_rfl
theorem ig_f2 (w : World) : findIn (KH w) (.ref 199) "_dirs" = some none := by kernel_rfl
theorem ig_f3 (w : World) : findIn (KH w) (.ref 199) "_ignore" = some none := by kernel_rfl
section
variable {prog : Program} {w : World} {A : Around} {E : Value → Shared → Prop} {s : Shared} {x dx : Addr} {od od' : Obj} {name : Str} {v : Value}
theorem setAttr_ig {Q : Unit → Shared → Prop} (X : (KH w).In s.heap) (hx : s.heap.get? x = some (instObj 199 dx)) (hd : s.heap.get? dx = some od) (ht : takerIn (KH w) 199 name = some none) (hl : (lookIn name od).isSome = true)
    {es : Nat → List DictEntry} {nn : Nat → Nat} (he : ∀ t, (Obj.putName name (PyData.keyHash w.params name) (.str name t) v od).data = .dict (es t).toArray (nn t)) (hz : ∀ t, (es t).length ≤ 1000)
    (h : ∀ h' tk t, h'.get? dx = some (Obj.putName name (PyData.keyHash w.params name) (.str name t) v od) → Heap.SameBut dx s.heap h' → Q () { s with heap := h', toks := tk }) :
    wpAny (model prog w) A (setAttr (.ref x) name v) Q E s := by
  have I : InstAt s.heap x (instObj 199 dx) 199 (some od) := ⟨hx, rfl, rfl, hd⟩
  refine set_plain X I (ig_sa w) ?_
  refine osa_open (s := { s with toks := s.toks + 1 }) X I (ig_over w) ht fun b => ?_
  obtain ⟨cd, hc, hd'⟩ := any_some (ig_hasDict w)
  refine wpAny_bind (wpAny_pure (wpAny_bind (wpAny_bind (wpAny_loadPart hx (wpAny_bind ((looks_clsIn X hc).at ?_))))))
  rw [hd']
  refine wpAny_pure (a := some dx) (wpAny_bind (wpAny_pure (wpAny_bind ?_)))
  unfold nsSet
  refine wpAny_bind (wpAny_bind (wpAny_askSetting (wpAny_pure (wpAny_bind (wpAny_mkText (wpAny_bind (wpAny_loadPart hd ?_)))))))
  unfold lookIn at hl
  split at hl
  · rename_i es₀ n₀ q
    rw [q]
    dsimp only
    have c : (!es₀.any (·.key.isStr name) && es₀.any (·.refKey)) = false := by
      rw [← Array.any_toList, ← Array.any_toList]
      split at hl
      · rename_i en he
        rw [List.any_eq_true.mpr ⟨en, List.mem_of_find?_eq_some he, List.find?_some he⟩]; rfl
      · split at hl
        · cases hl
        · rename_i z; rw [Bool.not_eq_true] at z; rw [z, Bool.and_false]
    rw [aRefKeyMayBeTheName_at, c]
    refine wpAny_updatePart hd ?_
    have hnf : ∀ t, (Obj.putName name (PyData.keyHash w.params name) (.str name t) v od).isFreed = false := fun t => by
      have := he t
      generalize Obj.putName name (PyData.keyHash w.params name) (.str name t) v od = o at this
      obtain ⟨_, _, dd, _⟩ := o; cases this; rfl
    have D' := Heap.get?_update_self (Obj.putName name (PyData.keyHash w.params name) (.str name (s.toks + 1)) v) hd (hnf _)
    refine wpAny_bind (wpAny_lookBehind D' (by rw [he]; exact pastItsLine_dict (by rw [List.size_toArray, sizeLine_eq]; have := hz (s.toks + 1); omega)) ?_)
    exact wpAny_pure (h _ _ _ D' (Heap.SameBut.update ..))
  · cases hl
end
end Mine
end
section
open PySem PySem.W PyProof.Rows PySem.Calls
namespace Mine
theorem valueAt_put (kvs : List (Str × Value)) (k k' : Str) (v : Value) : valueAt (stored kvs k v) k' = if k' = k then some v else valueAt kvs k' := by
  unfold stored
  split
  · rename_i h
    unfold valueAt
    induction kvs with
    | nil => cases h
    | cons p r ih =>
      obtain ⟨a, b⟩ := p
      simp only [List.map_cons]
      by_cases ha : a = k
      · subst ha
        rw [if_pos rfl]
        by_cases hk : k' = a
        · subst hk; simp
        · have hk2 : ¬ a = k' := fun e => hk e.symm
          rw [List.find?_cons_of_neg (by simpa using hk2), List.find?_cons_of_neg (by simpa using hk2), if_neg hk]
          have : ∀ l : List (Str × Value), ((l.map fun kv => if kv.1 = a then (kv.1, v) else kv).find? fun kv => decide (kv.1 = k')) = l.find? fun kv => decide (kv.1 = k') := by
            intro l
            induction l with
            | nil => rfl
            | cons q l ih =>
              rw [List.map_cons]
              by_cases hq : q.1 = k'
              · rw [if_neg (fun e => hk (hq.symm.trans e)), List.find?_cons_of_pos (by simpa using hq), List.find?_cons_of_pos (by simpa using hq)]
              · rw [List.find?_cons_of_neg (by by_cases e : q.1 = a <;> simp [e] <;> (first | exact fun z => hq (e.trans z) | exact hq)), List.find?_cons_of_neg (by simpa using hq), ih]
          rw [this]
      · rw [if_neg ha]
        have h2 : (r.any fun kv => decide (kv.1 = k)) = true := by simpa [ha] using h
        by_cases hk : a = k'
        · subst hk
          rw [List.find?_cons_of_pos (by simp), List.find?_cons_of_pos (by simp), if_neg ha]
        · rw [List.find?_cons_of_neg (by simpa using hk), List.find?_cons_of_neg (by simpa using hk)]
          exact ih h2
  · rename_i h
    unfold valueAt
    have hn : ∀ p ∈ kvs, p.1 ≠ k := fun p hp e => h (List.any_eq_true.mpr ⟨p, hp, by simpa using e⟩)
    rw [List.find?_append]
    by_cases hk : k' = k
    · subst hk
      have : kvs.find? (fun kv => decide (kv.1 = k')) = none := List.find?_eq_none.mpr fun p hp => by simpa using hn p hp
      rw [this, if_pos rfl]; simp
    · have hk2 : ¬ k = k' := fun e => hk e.symm
      rw [if_neg hk, List.find?_cons_of_neg (by simpa using hk2)]
      simp
noncomputable def memoOk (g : Str → Option Nat) (kvs : List (Str × Value)) : Prop := ∀ k, match g k with
  | none => valueAt kvs k = none
  | some i => ∃ t, valueAt kvs k = some (.int (i : Nat) t)
noncomputable def memoPut (g : Str → Option Nat) (k : Str) (i : Nat) : Str → Option Nat := fun k' => if k' = k then some i else g k'
theorem memoOk.put {g : Str → Option Nat} {kvs : List (Str × Value)} (h : memoOk g kvs) (k : Str) (i : Nat) (t : Tok) : memoOk (memoPut g k i) (stored kvs k (.int (i : Nat) t)) := fun k' => by
  unfold memoPut
  rw [valueAt_put]
  by_cases e : k' = k
  · rw [if_pos e, if_pos e]; exact ⟨t, rfl⟩
  · rw [if_neg e, if_neg e]; exact h k'
section
variable (prog : Program) (w : World)
noncomputable def MemoAt (h : Heap) (di : Addr) (g : Str → Option Nat) (n : Nat) : Prop := (di == sysModules) = false ∧ ∃ kvs, h.DictOf (PySem.strKind prog w) di kvs ∧ memoOk g kvs ∧ kvs.length ≤ n
noncomputable def MemoP (di : Addr) (g : Str → Option Nat) (n : Nat) : Heap → (Addr → Prop) → Value → Prop := fun h X u => u = .ref di ∧ ¬ X di ∧ MemoAt prog w h di g n
variable {prog w}
theorem MemoAt.at {h h' : Heap} {di : Addr} {g : Str → Option Nat} {n : Nat} (x : MemoAt prog w h di g n) (k : ∀ o, h.get? di = some o → h'.get? di = some o) : MemoAt prog w h' di g n := by
  obtain ⟨e, kvs, ⟨o, es, ep, ho, r⟩, m⟩ := x
  exact ⟨e, kvs, ⟨o, es, ep, k o ho, r⟩, m⟩
theorem MemoAt.live {h : Heap} {di : Addr} {g : Str → Option Nat} {n : Nat} (x : MemoAt prog w h di g n) : ∃ o, h.get? di = some o := by
  obtain ⟨e, kvs, ⟨o, es, ep, ho, r⟩, m⟩ := x
  exact ⟨o, ho⟩
theorem MemoP.stab (di : Addr) (g : Str → Option Nat) (n : Nat) : Stab (MemoP prog w di g n) := fun h h' X Y u k y => by
  obtain ⟨e, nx, m⟩ := y
  obtain ⟨o, ho⟩ := m.live
  exact ⟨e, (k _ _ nx ho).2, m.at fun o' ho' => (k _ _ nx ho').1⟩
end
section
variable {prog : Program} {w : World} {B : Heap} {n m : Nat} {di : Addr} {g : Str → Option Nat} {k : Str} {xs : List Str}
theorem OP.inMemo : OP prog w B n (cmp .In) [.d (.str k), .hp (MemoP prog w di g m)] (.d (.bool (g k).isSome)) :=
  OP.of2 fun A s X Q E u v R O y z q => by
    cases y
    obtain ⟨_, rfl, nx, hs, kvs, hd, hm, _⟩ := z
    refine wpAny_in_of (PySem.strKind_is prog w k _) hs hd.mapOf ?_
    have := hm k
    cases e : g k with
    | none => rw [e] at this q; rw [this]; exact q _ _ _ (Ext.refl _) (Rd.bool _)
    | some i => rw [e] at this q; obtain ⟨t, this⟩ := this; rw [this]; exact q _ _ _ (Ext.refl _) (Rd.bool _)
theorem OP.getMemo {i : Nat} (e : g k = some i) : OP prog w B n item [.hp (MemoP prog w di g m), .d (.str k)] (.d (.int (i : Nat))) :=
  OP.of2 fun A s X Q E u v R O y z q => by
    cases z
    obtain ⟨_, rfl, nx, hs, kvs, hd, hm, _⟩ := y
    have := hm k
    rw [e] at this
    obtain ⟨t, this⟩ := this
    exact wpAny_getItem_of (PySem.strKind_is prog w k _) hd.mapOf this (q _ _ _ (Ext.refl _) (.int _ _))
theorem OP.inSet : OP prog w B n (cmp .In) [.d (.str k), .hp (SetP prog w xs)] (.d (.bool (decide (k ∈ xs)))) :=
  OP.of2 fun A s X Q E u v R O y z q => by
    cases y
    obtain ⟨_, a, c, rfl, nx, hX⟩ := z
    exact wpAny_inSet_of (PySem.strKind_is prog w k _) rfl hX.of (q _ _ _ (Ext.refl _) (.bool _))
end
end Mine
end
section
open PySem PySem.W PyProof.Rows PySem.Calls
namespace Mine
noncomputable def SelfG (x : Addr) (gs : List (Value × Res)) : Heap → (Addr → Prop) → Value → Prop := fun h X u => u = .ref x ∧ ∀ p ∈ gs, RV h X p.1 p.2
theorem SelfG.stab (x : Addr) (gs : List (Value × Res)) : Stab (SelfG x gs) := fun h h' X Y u k y => ⟨y.1, fun p hp => RV.up k (y.2 p hp)⟩
structure OPG (prog : Program) (w : World) (B : Heap) (D : Prop) (n : Nat) (Z : Addr → Prop) (xt : Heap → Prop) (f : Value) (rs : List Res) (G : (Addr → Prop) → (Heap → Prop) → Res → List (Value × Res) → Prop) : Prop where
  run : ∀ (A : Around) (s : Shared) (X : Addr → Prop) (R : Result → Shared → Prop) (vs : List Value), Room n A → OkH B s.heap X → (∀ a, Z a → X a) → xt s.heap →
    (∀ h h' : Heap, xt h → (∀ a o, Z a → h.get? a = some o → h'.get? a = some o) → xt h') → RVs s.heap X vs rs →
    (∀ Z' xt' r gs v h' tk' dr', (D ∨ dr' = s.drawn) → G Z' xt' r gs → (∀ a, Z a → Z' a) → (∀ a, Z' a → Z a ∨ s.heap.get? a = none) → (∀ b o, ¬ Z b → s.heap.get? b = some o → h'.get? b = some o) → (∀ a, Z' a → ∃ o, h'.get? a = some o) → xt' h' →
      (∀ h h' : Heap, xt' h → (∀ a o, Z' a → h.get? a = some o → h'.get? a = some o) → xt' h') → RV h' (fun a => X a ∧ ¬ Z a) v r → (∀ p ∈ gs, RV h' (fun a => X a ∨ Z' a) p.1 p.2) → R (.ok (.ret v)) { s with heap := h', toks := tk', drawn := dr' }) →
    codeAny (model prog w) A (.call f ⟨vs, []⟩) R s
noncomputable def GivesG (G : (Addr → Prop) → (Heap → Prop) → Res → List (Value × Res) → Prop) (Z' : Addr → Prop) (fl : Fl) (st : St) : Prop :=
  ∃ r gs, G Z' st.ext r gs ∧ Gives r fl st ∧ (gs = [] ∨ ∃ y x, (y, Slot.r (.hp (SelfG x gs))) ∈ st.loc)
section
variable {prog : Program} {w : World} {B : Heap} {n : Nat} {a : Addr} {o : Obj} {fd : FuncData} {body : List Stmt} {rs : List Res} {r : Res} {xs : List Str} {Z : Addr → Prop} {xt : Heap → Prop} {G : (Addr → Prop) → (Heap → Prop) → Res → List (Value × Res) → Prop}
theorem OPG.fnG {D : Prop} (hB : B.get? a = some o) (hd : o.data = .func fd) (hlim : B.NoLimit) (hcd : B.CodeRec fd.code fd.qualname) (hbody : fd.body = .stmts body) (hclo : fd.closure = [])
    (hbind : ∀ (s : Shared) (vs : List Value), Ext B s.heap → vs.length = rs.length → BindsTo s fd ⟨vs, []⟩ (xs.zip vs)) (hlen : xs.length = rs.length)
    (hk : ∀ x ∈ xs, fd.scope.names.lookup x = some .local ∨ fd.scope.names.lookup x = some .cell) (nd : xs.Nodup) (ndn : (fd.scope.names.map (·.1)).Nodup)
    (main : ∀ L, GF prog w B D n (callEnvC fd L a) Z ⟨slotsOf (xs.zip rs), xt⟩ (execs body (callEnvC fd L a)) (GivesG G))
    (hco : fd.scope.isCoroutine = false := by rfl) (hgen : fd.scope.isGenerator = false := by rfl) (hkind : fd.scope.kind = .function := by rfl) :
    OPG prog w B D (n + 1) Z xt (.ref a) rs G := by
  refine ⟨fun A s X R' vs R O zX hxt hst y q => ?_⟩
  refine codeAny_call_function R.hroom (O.base _ _ hB) hd hco hgen hbody (hcd.keeps O.base) ?_
  refine hbind s vs O.base y.length _ _ _ _ ?_
  have hfst : (xs.zip vs).map (·.1) = xs := List.map_fst_zip (by have := y.length; omega)
  have hsnd : (xs.zip vs).map (·.2) = vs := List.map_snd_zip (by have := y.length; omega)
  generalize xs.zip vs = binds at hfst hsnd
  subst hfst
  rw [← hsnd] at y
  rw [hclo]
  refine wpAny_newFunctionEnv_cells hkind (fun p hp => ?_) fun env he s₂ x => ?_
  · rcases hk p.1 (List.mem_map.mpr ⟨p, hp, rfl⟩) with h | h
    · exact .inl h
    · refine .inr ⟨h, ?_⟩
      obtain ⟨c, hc⟩ := cellsFrom_mem fd.scope.names (s.heap.objs.size + 1) p.1 (mem_of_lookup h)
      show ((cellsFrom (s.heap.objs.size + 1) fd.scope.names []).lookup p.1).isSome = true
      rw [hc]; rfl
  · have he : env = callEnvC fd s.heap.objs.size a := he
    subst he
    generalize hL : s.heap.objs.size = L at x
    obtain ⟨h₂, tk₂, rfl⟩ := x.toInCall.same
    have keep : Ext s.heap h₂ := x.toInCall.keep
    refine ⟨hlim.keeps fun b o e => keep b o (O.base b o e), codeAny_func ?_⟩
    have old : ∀ {b o}, s.heap.get? b = some o → @LT.lt Nat _ b L := fun e => hL ▸ Heap.lt_size e
    have hLn : s.heap.get? L = none := by
      cases g : s.heap.get? L with
      | none => rfl
      | some o => exact absurd (old g) (Nat.lt_irrefl _)
    have hcn : ∀ p ∈ (callEnvC fd L a).cells, s.heap.get? p.2 = none := fun p hp => by
      cases g : s.heap.get? p.2 with
      | none => rfl
      | some o =>
        have h1 := old g
        have h2 : @LT.lt Nat _ L p.2 := x.above p.1 p.2 hp
        exact absurd (Nat.lt_trans h1 h2) (Nat.lt_irrefl _)
    have muN : ∀ b, MuF (callEnvC fd L a) b → s.heap.get? b = none := fun b z => by
      rcases z with z | ⟨p, hp, z⟩
      · rw [z]; exact hLn
      · rw [← z]; exact hcn p hp
    have noneB : ∀ b, s.heap.get? b = none → B.get? b = none := fun b hb => by
      cases g : B.get? b with
      | none => rfl
      | some o => rw [O.base b o g] at hb; cases hb
    have e1 : orS (fun b => X b ∧ ¬ Z b) Z = X := funext fun b => propext ⟨fun z => z.elim (·.1) (zX b), fun z => by
      by_cases hz : Z b
      · exact .inr hz
      · exact .inl ⟨z, hz⟩⟩
    have hxt₂ : xt h₂ := hst _ _ hxt fun b o _ e => keep b o e
    have F : InF B (callEnvC fd L a) X ⟨slotsOf ((binds.map (·.1)).zip rs), xt⟩ (fun _ => none) h₂ (bindL (callEnvC fd L a).kindOf binds fun _ => none) (bindC (callEnvC fd L a).kindOf binds fun _ => none) := by
      refine ⟨⟨fun b o e => keep b o (O.base b o e), fun b z => ?_, fun b z => ?_⟩, hkind, x.toInCall.ns, x.cell, x.apart, fun p hp => ?_, fun b z y => ?_, (fun _ _ e => nomatch e), (fun _ _ _ e => nomatch e), ?_, fun p hp => ?_, hxt₂, fun h h' e c => hst h h' e fun a o z => c a o (zX a z)⟩
      · rcases z with z | (z | ⟨p, hp, z⟩) | ⟨_, z⟩
        · obtain ⟨o, e⟩ := O.live b z; exact ⟨o, keep b o e⟩
        · obtain ⟨o, _, _, e, _⟩ := x.toInCall.ns; exact ⟨o, z ▸ e⟩
        · obtain ⟨o, e, _⟩ := x.cell p.1 p.2 (cellsFrom_lookup _ _ ndn p hp); exact ⟨o, z ▸ e⟩
        · cases z
      · rcases z with z | z | ⟨_, z⟩
        · exact O.off b z
        · exact noneB b (muN b z)
        · cases z
      · intro e
        have h2 : @LT.lt Nat _ L p.2 := x.above p.1 p.2 hp
        have e2 : @Eq Nat p.2 L := e
        rw [e2] at h2
        exact Nat.lt_irrefl _ h2
      · rcases z with z | ⟨_, z⟩
        · obtain ⟨o, e⟩ := O.live b y
          rw [muN b z] at e; cases e
        · cases z
      · rw [show (St.mk (slotsOf ((binds.map (·.1)).zip rs)) xt).loc = slotsOf ((binds.map (·.1)).zip rs) from rfl, slotsOf_names]
        exact zip_fst_sub.nodup nd
      · obtain ⟨z, hz, rfl⟩ := List.mem_map.mp hp
        obtain ⟨v, hm, yv⟩ := y.mem (x := z.1) (r := z.2) hz
        obtain ⟨g1, g2⟩ := bind_get (K := (callEnvC fd L a).kindOf) binds (fun _ => none) (fun _ => none) nd hm
        refine ⟨v, ?_, RV.up (fun b o nb e => ⟨keep b o e, fun z => ?_⟩) yv⟩
        · rcases hk z.1 (List.mem_map.mpr ⟨_, hm, rfl⟩) with h | h
          · exact .inl ⟨h, g1 h⟩
          · refine .inr ⟨h, ?_, g2 (by rw [show (callEnvC fd L a).kindOf z.1 = fd.scope.names.lookup z.1 from rfl, h]; simp)⟩
            exact cellsFrom_mem fd.scope.names (L + 1) z.1 (mem_of_lookup h)
        · rcases z with z | z | ⟨_, z⟩
          · exact nb z
          · rw [muN b z] at e; cases e
          · cases z
    refine (main L).run (A.deeper (callEnvC fd L a)) { s with heap := h₂, toks := tk₂ } (fun b => X b ∧ ¬ Z b) (fun _ => none) _ _ (R.deeper _) (fun b z y => y.2 z) (e1.symm ▸ ⟨zX, hst, _, _, F⟩) fun Z' fl fw st' O' h' tk' dr' hdr p zs zn F' c yf => ?_
    obtain ⟨r, gs, hG, hgv, hgs⟩ := p
    have nn : ∀ b, h₂.get? b = none → s.heap.get? b = none := fun b e => by
      cases g : s.heap.get? b with
      | none => rfl
      | some o => rw [keep b o g] at e; cases e
    obtain ⟨m', cm', f'⟩ := F'.inF
    have kp : ∀ b o, ¬ Z b → s.heap.get? b = some o → h'.get? b = some o := fun b o nz e => c.keep b o (fun z => by
      rcases z with z | ⟨_, z⟩
      · have := muN b z
        rw [e] at this; cases this
      · cases z) nz (keep b o e)
    have hgs' : ∀ p ∈ gs, RV h' (fun b => X b ∨ Z' b) p.1 p.2 := by
      rcases hgs with rfl | ⟨y, x, hm⟩
      · exact fun p hp => nomatch hp
      · obtain ⟨v, _, hv⟩ := f'.slots _ hm
        intro p hp
        refine RV.less (hv.2.2 p hp) fun b z => .inl ?_
        rcases z with z | z
        · by_cases hz : Z b
          · exact .inr (zs b hz)
          · exact .inl ⟨z, hz⟩
        · exact .inr z
    have fin : ∀ v, RV h' (fun b => X b ∧ ¬ Z b) v r → R' (.ok (.ret v)) { s with heap := h', toks := tk', drawn := dr' } := fun v hv =>
      q Z' st'.ext r gs v h' tk' dr' hdr hG zs (fun b z => (zn b z).imp id (nn b)) kp (fun b z => f'.ok.live b (.inl (F'.foot b z))) f'.ext F'.stab hv hgs'
    cases fl with
    | next => cases fw <;> first | exact yf.elim | exact fin _ (hgv _ _)
    | brk => exact hgv.elim
    | cont => exact hgv.elim
    | ret r' => cases fw <;> first | exact yf.elim | exact fin _ (hgv _ _ _ yf)
end
section
variable {prog : Program} {w : World} {B : Heap} {mg mb : Str → Option Value} {D : Prop} {n : Nat} {rs : List Res} {r : Res} {xs : List Str} {Z : Addr → Prop} {xt : Heap → Prop} {G : (Addr → Prop) → (Heap → Prop) → Res → List (Value × Res) → Prop}
theorem OPG.fun (C : Cx w B mg mb) (a : Addr) (hl : ∃ o, (heapK w.params).lookup a = some o ∧ o.data = .func (fdIn a)) (hcp : (heapK w.params).lookup (codeAt (fdIn a)) = (heapK P₀).lookup (codeAt (fdIn a))) (hcd : codeOk ((heapK P₀).lookup (codeAt (fdIn a))) (fdIn a) = true) (hbody : (fdIn a).body = .stmts (bodyIn a)) (hclo : (fdIn a).closure = [])
    (hbind : ∀ (s : Shared) (vs : List Value), (heapK w.params).In s.heap → vs.length = rs.length → BindsTo s (fdIn a) ⟨vs, []⟩ (xs.zip vs)) (hlen : xs.length = rs.length)
    (hk : ∀ x ∈ xs, (fdIn a).scope.names.lookup x = some .local ∨ (fdIn a).scope.names.lookup x = some .cell) (nd : xs.Nodup) (ndn : ((fdIn a).scope.names.map (·.1)).Nodup)
    (main : ∀ L, GF prog w B D n (callEnvC (fdIn a) L a) Z ⟨slotsOf (xs.zip rs), xt⟩ (execs (bodyIn a) (callEnvC (fdIn a) L a)) (GivesG G))
    (hco : (fdIn a).scope.isCoroutine = false := by rfl) (hgen : (fdIn a).scope.isGenerator = false := by rfl) (hkind : (fdIn a).scope.kind = .function := by rfl) :
    OPG prog w B D (n + 1) Z xt (.ref a) rs G := by
  obtain ⟨o, h1, h2⟩ := hl
  exact OPG.fnG (C.K _ _ h1) h2 C.lim (codeOk.rec C.K hcd hcp) hbody hclo (fun s vs k e => hbind s vs (C.K.keeps k) e) hlen hk nd ndn main hco hgen hkind
end
theorem Room.make {n : Nat} {A : Around} (R : Room (n + 1) A) (C : Addr) (rest : List Value) : Room n (A.under (.builtin "type.__call__" ⟨.ref C :: rest, []⟩)) := by
  have hg : (Code.builtin "type.__call__" ⟨.ref C :: rest, []⟩).guards = [] := by rfl
  refine ⟨R.1, ?_, ?_, ?_⟩
  · unfold Around.under
    rw [hg, R.2]; rfl
  · exact room_up (b := 0) (k := 1) (c := 4) (by decide) R.3
  · exact room_up (k := 1) (c := 100) (by decide) R.4
end Mine
end
section
open PySem PySem.W PyProof.Rows PySem.Calls
namespace Mine
structure Ig where
  x : Addr
  dx : Addr
  di : Addr
  vm : Value
  vd : Value
noncomputable def IgZ (i : Ig) : Addr → Prop := fun a => a = i.x ∨ a = i.dx ∨ a = i.di
section
variable (prog : Program) (w : World)
noncomputable def IgExt (i : Ig) (g : Str → Option Nat) (n : Nat) : Heap → Prop := fun h => (i.x ≠ i.di ∧ i.dx ≠ i.di) ∧ h.get? i.x = some (instObj 199 i.dx) ∧ (∃ t1 t2 t3, h.get? i.dx = some (igO3 w t1 t2 t3 i.vm i.vd (.ref i.di))) ∧ MemoAt prog w h i.di g n
noncomputable def igs (i : Ig) (mods dirs : List Str) : List (Value × Res) := [(i.vd, .d (txts dirs)), (i.vm, .hp (SetP prog w mods))]
noncomputable def IgV (i : Ig) (mods dirs : List Str) (g : Str → Option Nat) (n : Nat) : Heap → (Addr → Prop) → Value → Prop := fun h X u => SelfG i.x (igs prog w i mods dirs) h X u ∧ (∀ a, IgZ i a → ¬ X a) ∧ IgExt prog w i g n h
end
section
variable {prog : Program} {w : World}
theorem IgExt.at {i : Ig} {g : Str → Option Nat} {n : Nat} {h h' : Heap} (x : IgExt prog w i g n h) (k : ∀ a o, IgZ i a → h.get? a = some o → h'.get? a = some o) : IgExt prog w i g n h' := by
  obtain ⟨hne, h1, ⟨t1, t2, t3, h2⟩, h3⟩ := x
  exact ⟨hne, k _ _ (.inl rfl) h1, ⟨t1, t2, t3, k _ _ (.inr (.inl rfl)) h2⟩, h3.at fun o e => k _ _ (.inr (.inr rfl)) e⟩
theorem IgExt.live {i : Ig} {g : Str → Option Nat} {n : Nat} {h : Heap} (x : IgExt prog w i g n h) (a : Addr) (z : IgZ i a) : ∃ o, h.get? a = some o := by
  obtain ⟨hne, h1, ⟨t1, t2, t3, h2⟩, h3⟩ := x
  rcases z with rfl | rfl | rfl
  · exact ⟨_, h1⟩
  · exact ⟨_, h2⟩
  · exact h3.live
theorem IgV.stab (i : Ig) (mods dirs : List Str) (g : Str → Option Nat) (n : Nat) : Stab (IgV prog w i mods dirs g n) := fun h h' X Y u k y => by
  obtain ⟨y1, y2, y3⟩ := y
  refine ⟨SelfG.stab _ _ _ _ _ _ _ k y1, fun a z => ?_, y3.at fun a o z e => (k a o (y2 a z) e).1⟩
  obtain ⟨o, e⟩ := y3.live a z
  exact (k a o (y2 a z) e).2
end
section
variable {prog : Program} {w : World} {B : Heap} {mg mb : Str → Option Value} {D : Prop} {n m : Nat} {env : Env} {nu nuV : List (Str × Res)} {Z X₀ : Addr → Prop} {st : St} {e o kx t : Expr} {y name : Str} {py pos ps pa : Pos} {i : Ig} {mods dirs xs : List Str} {g : Str → Option Nat} {r : Res} {v : Value} {rs rs' : List Res} {P : (Addr → Prop) → Fl → St → Prop} {k : Str}
theorem EV.igAttr (C : Cx w B mg mb) (he : EV prog w B n env nu (.Name y py) (.hp (IgV prog w i mods dirs g m))) (hf : findIn (KH w) (.ref 199) name = some none) (hl : ∀ t1 t2 t3, lookIn name (igO3 w t1 t2 t3 i.vm i.vd (.ref i.di)) = some (some v))
    (hv : ∀ h X u, RV h X u (.hp (IgV prog w i mods dirs g m)) → RV h X v r ∧ ∃ a, v = .ref a) : EV prog w B n env nu (.Attribute (.Name y py) name pos) r := by
  refine ⟨fun A s X Q E R O N q => ?_⟩
  rw [arm_eval_Attribute]
  refine wpAny_bind (show wpAny _ _ (eval (.Name y py) env) _ _ _ from he.run A s X _ E R O N fun u h₁ t₁ k₁ y₁ => ?_)
  obtain ⟨yv, a, ha⟩ := hv _ _ _ y₁
  obtain ⟨st, ⟨rfl, ys⟩, yz, hne, h1, ⟨t1, t2, t3, h2⟩, h3⟩ := y₁
  have X' : (KH w).In h₁ := C.K.keeps ((O.ext k₁).base)
  have I : InstAt h₁ i.x (instObj 199 i.dx) 199 (some (igO3 w t1 t2 t3 i.vm i.vd (.ref i.di))) := ⟨h1, rfl, rfl, h2⟩
  refine wpAny_bind (wpAny_standAt (wpAny_bind (wpAny_holding (get_value (s := { s with heap := h₁, toks := t₁ }) X' I (ig_ga w) (ig_f w _ _ _ hf (hl t1 t2 t3)) (by rw [ha]; rfl) ?_))))
  exact wpAny_bind (wpAny_pure (wpAny_pure (q _ _ _ k₁ yv)))
theorem EV.ig_mods (C : Cx w B mg mb) (he : EV prog w B n env nu (.Name y py) (.hp (IgV prog w i mods dirs g m))) : EV prog w B n env nu (.Attribute (.Name y py) "_mods" pos) (.hp (SetP prog w mods)) :=
  EV.igAttr C he (ig_f1 w) (fun _ _ _ => Mine.ig_mods _ _ _ _ _ _ _) fun h X u y => by
    have := y.2.1.2 (i.vm, .hp (SetP prog w mods)) (.tail _ (.head _))
    refine ⟨this, ?_⟩
    obtain ⟨_, a, _, e, _⟩ := this
    exact ⟨a, e⟩
theorem EV.ig_ignore (C : Cx w B mg mb) (he : EV prog w B n env nu (.Name y py) (.hp (IgV prog w i mods dirs g m))) : EV prog w B n env nu (.Attribute (.Name y py) "_ignore" pos) (.hp (MemoP prog w i.di g m)) :=
  EV.igAttr C he (ig_f3 w) (fun _ _ _ => Mine.ig_ignore _ _ _ _ _ _ _) fun h X u y => ⟨⟨MemoP.stab _ _ _, rfl, y.2.2.1 _ (.inr (.inr rfl)), y.2.2.2.2.2.2⟩, _, rfl⟩
theorem HasItems.memo {di : Addr} : HasItems (.hp (MemoP prog w di g m)) := fun h X u y => by
  obtain ⟨_, rfl, nx, hs, kvs, hd, _⟩ := y
  exact ⟨"dict", _, fun s e => by subst e; exact hd.mapOf.typeIs, slot_dict_getitem.lookup⟩
theorem ItOK.mono {A : Around} {h₀ : Heap} {I : Addr} {fp wr : List Addr} {S : Nat → Heap → Prop} (ok : ItOK prog w A h₀ X₀ t I fp wr S rs) (hl : rs'.length = rs.length) (hi : ∀ (i : Nat) r', rs'[i]? = some r' → ∃ r, rs[i]? = some r ∧ ∀ h X v, RV h X v r → RV h X v r') : ItOK prog w A h₀ X₀ t I fp wr S rs' :=
  { ok with
    item := fun i r s X Q E hr hS hk hX q => by
      obtain ⟨r₀, h0, h1⟩ := hi i r hr
      exact ok.item i r₀ s X Q E h0 hS hk hX fun v h' tk y => q v h' tk (h1 _ _ _ y)
    done := fun s Q E hS q => ok.done s Q E (hl ▸ hS) q }
noncomputable def textOf : Value → Str
  | .str x _ => x
  | _ => ""
theorem pyIterSet {A : Around} {s : Shared} {X : Addr → Prop} {u : Value} {Q : Value → Shared → Prop} {E : Value → Shared → Prop} (y : RV s.heap X u (.hp (SetP prog w xs))) (lv : ∀ b, X b → ∃ o, s.heap.get? b = some o) (hh : A.handled = none)
    (q : ∀ h' dr' I fp wr S (L : List Str), (∀ k, k ∈ L ↔ k ∈ xs) → Ext s.heap h' → ItOK prog w A h' X t I fp wr S ((L.map PyData.str).map .d) → S 0 h' → (∀ b ∈ wr, s.heap.get? b = none ∧ ∃ o, h'.get? b = some o) → Q (.ref I) { s with heap := h', drawn := dr' }) : wpAny (model prog w) A (pyIter u) Q E s := by
  obtain ⟨_, a, c, rfl, nx, hX⟩ := y
  refine pyIter_setX (tg := t) hX nx lv hh fun h' dr' I fp wr St L _ hL hS _ k ok hSt fr => ?_
  have hs : ∀ v ∈ L, ∃ k t, v = .str k t ∧ k ∈ xs := fun v hv => by
    obtain ⟨k, h1, h2⟩ := hL v hv
    obtain ⟨t, ht⟩ := Value.isStrOf_shape h1
    exact ⟨k, t, ht, by simpa using h2⟩
  refine q h' dr' I fp wr St (L.map textOf) (fun k => ?_) k (ok.mono (by simp) fun i r' hr => ?_) hSt fr
  · constructor
    · intro hk
      obtain ⟨v, hv, rfl⟩ := List.mem_map.mp hk
      obtain ⟨k', t', rfl, hk2⟩ := hs v hv
      exact hk2
    · intro hk
      obtain ⟨v, hv, h1⟩ := hS k (by simpa using hk)
      obtain ⟨t, rfl⟩ := Value.isStrOf_shape h1
      exact List.mem_map.mpr ⟨_, hv, rfl⟩
  · simp only [List.getElem?_map, Option.map_eq_some_iff] at hr
    obtain ⟨d, ⟨x, ⟨v, hv, rfl⟩, rfl⟩, rfl⟩ := hr
    refine ⟨.v v, by rw [List.getElem?_map, hv]; rfl, fun h X u y => ?_⟩
    obtain ⟨k, t, rfl, _⟩ := hs v (List.mem_of_getElem? hv)
    rw [show u = .str k t from y]
    exact Rd.str _ _
theorem ITZ.setG {u : Value} {x : Addr} {gs : List (Value × Res)} (V : View env Z st nuV) (he : EV prog w B n env nuV e (.v u)) (hy : (y, Slot.r (.hp (SelfG x gs))) ∈ st.loc) (hg : (u, Res.hp (SetP prog w xs)) ∈ gs) :
    ITZ prog w B True n env Z st t e (fun rs => ∃ L : List Str, rs = (L.map PyData.str).map .d ∧ ∀ k, k ∈ L ↔ k ∈ xs) := by
  refine ⟨fun A s X₀ O Q E R F q => ?_⟩
  obtain ⟨m, cm, f⟩ := F.inF
  obtain ⟨ok, nm⟩ := f.view F.foot V
  refine he.run A s _ _ E R ok nm fun v h₁ t₁ k₁ y₁ => ?_
  subst y₁
  have f₁ := f.grow k₁
  obtain ⟨_, _, ys⟩ := f₁.slots _ hy
  have yr := ys.2.2 _ hg
  exact pyIterSet (s := { s with heap := h₁, toks := t₁ }) yr f₁.ok.live R.handled fun h' dr' I fp wr S L hL k ok hS fr => q h' t₁ dr' I fp wr S _ (.inl trivial) ⟨L, rfl, hL⟩ (k₁.trans k) ok hS fun b hb => ⟨(by
    cases gg : s.heap.get? b with
    | none => rfl
    | some o =>
      have h1 := (fr b hb).1
      rw [k₁ b o gg] at h1
      cases h1), (fr b hb).2⟩
theorem ITZ.listG {u : Value} {x : Addr} {gs : List (Value × Res)} {ds : List PyData} (V : View env Z st nuV) (he : EV prog w B n env nuV e (.v u)) (hy : (y, Slot.r (.hp (SelfG x gs))) ∈ st.loc) (hg : (u, Res.d (.list ds)) ∈ gs) :
    ITZ prog w B D n env Z st t e (· = ds.map .d) := by
  refine ⟨fun A s X₀ O Q E R F q => ?_⟩
  obtain ⟨m, cm, f⟩ := F.inF
  obtain ⟨ok, nm⟩ := f.view F.foot V
  refine he.run A s _ _ E R ok nm fun v h₁ t₁ k₁ y₁ => ?_
  subst y₁
  have f₁ := f.grow k₁
  obtain ⟨_, _, ys⟩ := f₁.slots _ hy
  obtain ⟨b, vs, hv, nx, l, ra⟩ := Rd.list_inv (ys.2.2 _ hg)
  dsimp only at hv
  subst hv
  refine wpAny_pyIter_list (s := { s with heap := h₁, toks := t₁ }) l ?_
  have k₂ := k₁.pushR { cls := .type "list_iterator", data := .fields #[.ref b, .int 0 0] }
  refine q _ t₁ _ _ _ _ _ _ (.inr rfl) rfl k₂ (ItOK.list R.handled l nx ra.rvs) ⟨⟨_, Heap.get?_push_size _ rfl, rfl, rfl⟩, IsList.ext l (Ext.push _ _)⟩ fun c hc => ?_
  rw [List.mem_singleton.mp hc]
  refine ⟨?_, _, Heap.get?_push_size _ rfl⟩
  cases g : s.heap.get? h₁.objs.size with
  | none => rfl
  | some o => exact absurd (Heap.lt_size (k₁ _ _ g)) (Nat.lt_irrefl _)
theorem EV.ig_modsV (C : Cx w B mg mb) (he : EV prog w B n env nu (.Name y py) (.hp (IgV prog w i mods dirs g m))) : EV prog w B n env nu (.Attribute (.Name y py) "_mods" pos) (.v i.vm) :=
  EV.igAttr C he (ig_f1 w) (fun _ _ _ => Mine.ig_mods _ _ _ _ _ _ _) fun h X u y => by
    obtain ⟨_, a, _, e, _⟩ := y.2.1.2 (i.vm, .hp (SetP prog w mods)) (.tail _ (.head _))
    exact ⟨rfl, a, e⟩
theorem EV.ig_dirsV (C : Cx w B mg mb) (he : EV prog w B n env nu (.Name y py) (.hp (IgV prog w i mods dirs g m))) : EV prog w B n env nu (.Attribute (.Name y py) "_dirs" pos) (.v i.vd) :=
  EV.igAttr C he (ig_f2 w) (fun _ _ _ => Mine.ig_dirs _ _ _ _ _ _ _) fun h X u y => by
    obtain ⟨a, _, e, _⟩ := Rd.list_inv (y.2.1.2 (i.vd, .d (txts dirs)) (.head _))
    exact ⟨rfl, a, e⟩
theorem View.ig (hZ : ∀ a, IgZ i a → Z a) (hx : ∀ h, st.ext h → IgExt prog w i g m h) (hy : (y, Slot.r (.hp (SelfG i.x (igs prog w i mods dirs)))) ∈ st.loc) (V : View env Z st nuV) : View env Z st ((y, .hp (IgV prog w i mods dirs g m)) :: nuV) :=
  V.cons hy fun h X hX hx' hN v y => ⟨IgV.stab _ _ _ _ _, y.2, fun a z => hX a (hZ a z), hx h hx'⟩
theorem IgExt.put {i : Ig} {g g' : Str → Option Nat} {m m' : Nat} {h h' : Heap} (x : IgExt prog w i g m h) (hs : Heap.SameBut i.di h h') (hM : MemoAt prog w h' i.di g' m') : IgExt prog w i g' m' h' := by
  obtain ⟨hne, h1, ⟨t1, t2, t3, h2⟩, h3⟩ := x
  exact ⟨hne, (hs.2 _ hne.1).trans h1, ⟨t1, t2, t3, (hs.2 _ hne.2).trans h2⟩, hM⟩
theorem GF.memoSet {di : Addr} {j : Nat} {xt' : Heap → Prop} (V : View env Z st nuV) (he : EV prog w B n env nuV e (.d (.int (j : Nat)))) (ho : EV prog w B n env nuV o (.hp (MemoP prog w di g m))) (hk : EV prog w B n env nuV kx (.d (.str k))) (hZ : Z di) (hm : m ≤ 1000)
    (hl : ∀ h, st.ext h → ∀ h', Heap.SameBut di h h' → MemoAt prog w h' di (memoPut g k j) (m + 1) → xt' h') (hs : ∀ h h' : Heap, xt' h → (∀ c o, Z c → h.get? c = some o → h'.get? c = some o) → xt' h')
    (p : P Z .next { st with ext := xt' }) (hsw : swapsWith e (some (.Subscript o kx ps)) pos.line env = pure false := by rfl) : GF prog w B D n env Z st (exec (.Assign [.Subscript o kx ps] e pos) env) P := by
  refine ⟨fun A s X₀ O Q E R hdj F q => ?_⟩
  obtain ⟨m1, cm1, f⟩ := F.inF
  obtain ⟨ok, nm⟩ := f.view F.foot V
  refine wpAny_Assign_Subscript (he.run A s _ _ E R ok nm fun v h₁ t₁ k₁ y₁ => ?_) hsw
  refine ho.run A { s with heap := h₁, toks := t₁ } _ _ E R (ok.ext k₁) (nm.ext k₁) fun ov h₂ t₂ k₂ y₂ => ?_
  refine hk.run A { s with heap := h₂, toks := t₂ } _ _ E R ((ok.ext k₁).ext k₂) ((nm.ext k₁).ext k₂) fun iv h₃ t₃ k₃ y₃ => ?_
  cases y₁
  cases y₃
  obtain ⟨_, rfl, nx, y₂⟩ := y₂
  obtain ⟨hsy, kvs, hd, hmem, hlen⟩ := y₂.at (h' := h₃) fun o e => k₃ _ o e
  have kk := (k₁.trans k₂).trans k₃
  have F1 := F.grow kk
  refine wpAny_setItem_pairs (s := { s with heap := h₃, toks := t₃ }) (PySem.strKind_is prog w k _) hd (fun h₄ hd₄ hs₄ => ?_) (by rw [sizeLine_eq]; omega)
  have hM : MemoAt prog w h₄ di (memoPut g k j) (m + 1) := ⟨hsy, _, hd₄, hmem.put k j _, Nat.le_trans (stored_length_le _ _ _) (by omega)⟩
  have hx2 : xt' h₄ := hl h₃ F1.inF.choose_spec.choose_spec.ext h₄ hs₄ hM
  obtain ⟨F2, c2⟩ := F1.zturn (h' := h₄) (xt' := xt') (fun d o nd e => (hs₄.2 d (fun z => nd (z ▸ hZ))).trans e) (fun d z => by
    by_cases hda : d = di
    · subst hda; exact hM.live
    · obtain ⟨m1, cm1, f1⟩ := F1.inF
      obtain ⟨o, e⟩ := f1.ok.live d (.inl (F1.foot d z))
      exact ⟨o, (hs₄.2 d hda).trans e⟩) hx2 hs
  exact q Z .next .next _ O h₄ _ _ (.inr rfl) p (fun _ z => z) (fun _ z => .inl z) F2 (ChZ.and F F1 (fun _ z => z) (fun _ z => .inl z) (ChZ.of_ext F kk) c2) trivial
end
end Mine
end
section
open PySem PySem.W PyProof.Rows PySem.Calls
namespace Mine
section
variable {prog : Program} {w : World} {B : Heap} {mg mb : Str → Option Value} {D : Prop} {n m : Nat} {env : Env} {nu nuV : List (Str × Res)} {Z X₀ : Addr → Prop} {st : St} {e : Expr} {y name : Str} {py pos ps pa : Pos} {i : Ig} {g : Str → Option Nat} {r : Res} {v : Value} {rs rs' : List Res} {P : (Addr → Prop) → Fl → St → Prop} {x dx : Addr} {gs : List (Value × Res)}
noncomputable abbrev putO (w : World) (name : Str) (t : Nat) (v : Value) (od : Obj) : Obj := Obj.putName name (PyData.keyHash w.params name) (.str name t) v od
noncomputable def putFits (w : World) (name : Str) (od : Obj) : Prop := ∀ v t, ∃ es nn, (putO w name t v od).data = .dict (List.toArray es) nn ∧ es.length ≤ 1000
theorem GF.attrSet {xtV : Value → Heap → Prop} {locV : Value → List (Str × Slot)} (C : Cx w B mg mb) (he : EV prog w B n env (keepN st.loc) e r) (hy : (y, Slot.r (.hp (SelfG x gs))) ∈ st.loc) (up : ∀ v, Upd st.loc y (.r (.hp (SelfG x ((v, r) :: gs)))) (locV v)) (hZ : Z dx)
    (ht : takerIn (KH w) 199 name = some none)
    (hl : ∀ h, st.ext h → h.get? x = some (instObj 199 dx) ∧ ∃ od, h.get? dx = some od ∧ (lookIn name od).isSome = true ∧ putFits w name od ∧ ∀ v t h', h'.get? dx = some (putO w name t v od) → Heap.SameBut dx h h' → xtV v h')
    (hs : ∀ v (h h' : Heap), xtV v h → (∀ c o, Z c → h.get? c = some o → h'.get? c = some o) → xtV v h') (p : ∀ v, P Z .next ⟨locV v, xtV v⟩)
    (hd : (y == ("__debug__" : Str)) = false := by decide +kernel) (hsw : swapsWith e (some (.Attribute (.Name y py) name pa)) pos.line env = pure false := by rfl) :
    GF prog w B D n env Z st (exec (.Assign [.Attribute (.Name y py) name pa] e pos) env) P := by
  refine ⟨fun A s X₀ O Q E R hdj F q => ?_⟩
  obtain ⟨m, cm, f⟩ := F.inF
  refine plainObj_wpAny_Assign_Attribute (he.run A s _ _ E R f.ok f.keepNm fun v h₁ t₁ k₁ y₁ => ?_) hsw
  obtain ⟨u, b, yu⟩ := f.slots _ hy
  obtain ⟨_, rfl, _⟩ := id yu
  refine wpAny_Name ((b.ln f).ld _ _ _ _ _ k₁ ?_) hd
  have F1 := F.grow k₁
  obtain ⟨m1, cm1, f1⟩ := F1.inF
  obtain ⟨hx, od, hdx, hlk, hfit, hfin⟩ := hl h₁ f1.ext
  have X' : (KH w).In h₁ := C.K.keeps (f1.ok.base)
  refine setAttr_ig (s := { s with heap := h₁, toks := t₁ }) X' hx hdx ht hlk (es := fun t => (hfit v t).choose) (nn := fun t => (hfit v t).choose_spec.choose) (fun t => (hfit v t).choose_spec.choose_spec.1) (fun t => (hfit v t).choose_spec.choose_spec.2) fun h₂ tk t hdx₂ hs₂ => ?_
  have F2 := F1.relax (m := fun _ => none) (cm := fun _ => none) (r' := .hp (SelfG x ((v, r) :: gs))) hy (fun _ _ => trivial) (up v) fun v' _ _ f' z => ⟨SelfG.stab _ _, z.2.1, fun q hq => by
    rcases List.mem_cons.mp hq with e | hq
    · subst e; exact y₁
    · exact z.2.2 q hq⟩
  obtain ⟨F3, c3⟩ := F2.zturn (h' := h₂) (xt' := xtV v) (fun d o nd e => (hs₂.2 d (fun z => nd (z ▸ hZ))).trans e) (fun d z => by
    by_cases hda : d = dx
    · subst hda; exact ⟨_, hdx₂⟩
    · obtain ⟨o, e⟩ := f1.ok.live d (.inl (F1.foot d z))
      exact ⟨o, (hs₂.2 d hda).trans e⟩) (hfin v t h₂ hdx₂ hs₂) (hs v)
  exact q Z .next .next _ O h₂ _ _ (.inr rfl) (p v) (fun _ z => z) (fun _ z => .inl z) F3 (ChZ.and F F1 (fun _ z => z) (fun _ z => .inl z) (ChZ.of_ext F k₁) c3) trivial
theorem dict1 {A : Around} {s : Shared} {E : Value → Shared → Prop} {k : Str} {j : Int} {kd kd' : Nat} {p1 p2 : Pos} {Q : Value → Shared → Prop}
    (q : ∀ di h' tk t, di = s.heap.objs.size → s.heap.get? di = none → Ext s.heap h' → h'.DictOf (PySem.strKind prog w) di [(k, .int j t)] → Q (.ref di) { s with heap := h', toks := tk }) :
    wpAny (model prog w) A (eval (.Dict [some (.Constant (.str k) kd p1)] [.Constant (.int j) kd' p2] pos) env) Q E s := by
  refine wpAny_Dict_pairs (knd := PySem.strKind prog w) (pairs := [(eval (.Constant (.str k) kd p1) env, do let x ← eval (.Constant (.int j) kd' p2) env; standAt pos; pure x)]) rfl (by simp) (by simp) ?_
  unfold evalPairs
  refine wpAny_bind (wpAny_Constant_str (wpAny_bind (wpAny_holding (wpAny_bind (wpAny_Constant_int (wpAny_bind (wpAny_standAt (wpAny_pure ?_))))))))
  refine wpAny_bind (wpAny_holding (evalPairs_nil (wpAny_pure ?_)))
  refine ⟨[(k, .int j _)], ⟨PySem.strKind_is prog w k _, rfl, trivial⟩, Heap.DictOf.new _, fun h' hd hs => q _ _ _ _ rfl (get_size_none _) (fun b o e => ?_) hd⟩
  exact (hs.2 b (fun z => by subst z; rw [get_size_none] at e; cases e)).trans (Heap.get?_push_of_some _ e)
structure EDict (prog : Program) (w : World) (B : Heap) (env : Env) (e : Expr) (k : Str) (j : Nat) : Prop where
  run : ∀ (A : Around) (s : Shared) (Q : Value → Shared → Prop) (E : Value → Shared → Prop), Ext B s.heap → (∀ di h' tk t, (di == sysModules) = false → s.heap.get? di = none → Ext s.heap h' → h'.DictOf (PySem.strKind prog w) di [(k, .int (j : Nat) t)] → Q (.ref di) { s with heap := h', toks := tk }) → wpAny (model prog w) A (eval e env) Q E s
theorem old_fresh (C : Cx w B mg mb) {h : Heap} (k : Ext B h) {di : Addr} (hd : di = h.objs.size) : (di == sysModules) = false := by
  obtain ⟨o, e⟩ : ∃ o, B.get? 94 = some o := ⟨_, C.K 94 _ rfl⟩
  have h1 := Heap.lt_size (k _ _ e)
  rw [beq_eq_false_iff_ne, hd]
  show h.objs.size ≠ 1
  intro e2
  rw [e2] at h1
  exact absurd h1 (by decide)
theorem EDict.one (C : Cx w B mg mb) {k : Str} {j : Nat} {kd kd' : Nat} {p1 p2 : Pos} : EDict prog w B env (.Dict [some (.Constant (.str k) kd p1)] [.Constant (.int (j : Nat)) kd' p2] pos) k j := ⟨fun A s Q E k q => dict1 fun di h' tk t he => q di h' tk t (old_fresh C k he)⟩
theorem GF.attrDict {k : Str} {j : Nat} {xtD : Addr → Heap → Prop} (C : Cx w B mg mb) (he : EDict prog w B env e k j) (hy : (y, Slot.r (.hp (SelfG x gs))) ∈ st.loc) (hZ : Z dx)
    (ht : takerIn (KH w) 199 name = some none)
    (hl : ∀ h, st.ext h → h.get? x = some (instObj 199 dx) ∧ ∃ od, h.get? dx = some od ∧ (lookIn name od).isSome = true ∧ putFits w name od ∧ ∀ di t h', (di == sysModules) = false → ¬ Z di → (∃ t', h'.DictOf (PySem.strKind prog w) di [(k, .int (j : Nat) t')]) → h'.get? dx = some (putO w name t (.ref di) od) → (∀ c o, c ≠ dx → Z c → h.get? c = some o → h'.get? c = some o) → xtD di h')
    (hs : ∀ di, ¬ Z di → ∀ (h h' : Heap), xtD di h → (∀ c o, addZ Z di c → h.get? c = some o → h'.get? c = some o) → xtD di h') (p : ∀ di, ¬ Z di → P (addZ Z di) .next { st with ext := xtD di })
    (hd : (y == ("__debug__" : Str)) = false := by decide +kernel) (hsw : swapsWith e (some (.Attribute (.Name y py) name pa)) pos.line env = pure false := by rfl) :
    GF prog w B D n env Z st (exec (.Assign [.Attribute (.Name y py) name pa] e pos) env) P := by
  refine ⟨fun A s X₀ O Q E R hdj F q => ?_⟩
  obtain ⟨m, cm, f⟩ := F.inF
  refine plainObj_wpAny_Assign_Attribute (he.run A s _ E f.ok.base fun di h₁ t₁ t hsy hdi k₁ hD => ?_) hsw
  obtain ⟨u, b, yu⟩ := f.slots _ hy
  obtain ⟨_, rfl, _⟩ := id yu
  refine wpAny_Name ((b.ln f).ld _ _ _ _ _ k₁ ?_) hd
  have nz : ¬ Z di := fun z => by
    obtain ⟨o, e⟩ := f.ok.live di (.inl (F.foot di z))
    rw [hdi] at e; cases e
  have hld : ∃ o, h₁.get? di = some o := let ⟨o, _, _, e, _⟩ := hD; ⟨o, e⟩
  obtain ⟨hx, od, hdx, hlk, hfit, hfin⟩ := hl h₁ (F.grow k₁).inF.choose_spec.choose_spec.ext
  have F1 := F.new k₁ hdi hld
  obtain ⟨m1, cm1, f1⟩ := F1.inF
  have X' : (KH w).In h₁ := C.K.keeps (f1.ok.base)
  have hne : di ≠ dx := fun e => nz (e ▸ hZ)
  refine setAttr_ig (s := { s with heap := h₁, toks := t₁ }) X' hx hdx ht hlk (es := fun t => (hfit (.ref di) t).choose) (nn := fun t => (hfit (.ref di) t).choose_spec.choose) (fun t => (hfit (.ref di) t).choose_spec.choose_spec.1) (fun t => (hfit (.ref di) t).choose_spec.choose_spec.2) fun h₂ tk t2 hdx₂ hs₂ => ?_
  have hx2 : xtD di h₂ := hfin di t2 h₂ hsy nz ⟨t, hD.sameBut hs₂ hne⟩ hdx₂ fun c o hc _ e => (hs₂.2 c hc).trans e
  obtain ⟨F3, c3⟩ := F1.zturn (h' := h₂) (xt' := xtD di) (fun d o nd e => (hs₂.2 d (fun z => nd (z ▸ .inl hZ))).trans e) (fun d z => by
    by_cases hda : d = dx
    · subst hda; exact ⟨_, hdx₂⟩
    · obtain ⟨o, e⟩ := f1.ok.live d (.inl (F1.foot d z))
      exact ⟨o, (hs₂.2 d hda).trans e⟩) hx2 (hs di nz)
  have zn : ∀ c, addZ Z di c → Z c ∨ s.heap.get? c = none := fun c z => z.imp id fun e => (by rw [show c = di from e]; exact hdi)
  exact q (addZ Z di) .next .next _ O h₂ _ _ (.inr rfl) (p di nz) (fun _ z => .inl z) zn F3 (ChZ.and F F1 (fun _ z => .inl z) zn (ChZ.of_ext F k₁) c3) trivial
end
end Mine
end
section
open PySem PySem.W PyProof.Rows PySem.Calls
namespace Mine
noncomputable def g0 : Str → Option Nat := fun k => if k = "<string>" then some 1 else none
noncomputable def ext0 (x dx : Addr) : Heap → Prop := fun h => h.get? x = some (instObj 199 dx) ∧ h.get? dx = some emptyDict
noncomputable def Z0 (x dx : Addr) : Addr → Prop := fun a => a = x ∨ a = dx
noncomputable def initG (prog : Program) (w : World) (x dx : Addr) (mods dirs : List Str) (Z' : Addr → Prop) (xt' : Heap → Prop) (r : Res) (gs : List (Value × Res)) : Prop :=
  ∃ i : Ig, i.x = x ∧ i.dx = dx ∧ Z' = IgZ i ∧ xt' = IgExt prog w i g0 1 ∧ gs = igs prog w i mods dirs ∧ r = .d .none
noncomputable def InitOk (prog : Program) (w : World) (B : Heap) (n : Nat) (mods dirs dirs' : List Str) : Prop := ∀ x dx : Addr, x ≠ dx → OPG prog w B True n (Z0 x dx) (ext0 x dx) (.ref 189) [.hp (SelfG x []), .d (txts mods), .d (txts dirs)] (initG prog w x dx mods dirs')
section
variable {prog : Program} {w : World} {B : Heap} {mg mb : Str → Option Value} {D : Prop} {n m : Nat} {env : Env} {nu nuV : List (Str × Res)} {Z X₀ : Addr → Prop} {st : St} {e e1 e2 : Expr} {y name : Str} {py pos ps pa ap : Pos} {i : Ig} {g : Str → Option Nat} {r : Res} {v : Value} {rs rs' : List Res} {P : (Addr → Prop) → Fl → St → Prop} {mods dirs dirs' : List Str} {k : Str} {O : Str → Option Addr} {h h' : Heap}
theorem igCall {A : Around} {s : Shared} {X : Addr → Prop} {vs : List Value} {Q : Value → Shared → Prop} {E : Value → Shared → Prop} (C : Cx w B mg mb) (hi : InitOk prog w B n mods dirs dirs') (R : Room (n + 1) A) (O : OkH B s.heap X) (y : RVs s.heap X vs [.d (txts mods), .d (txts dirs)])
    (q : ∀ (i : Ig) h' tk' dr', (∀ a, IgZ i a → s.heap.get? a = none ∧ ∃ o, h'.get? a = some o) → Ext s.heap h' → IgExt prog w i g0 1 h' → (∀ p ∈ igs prog w i mods dirs', RV h' (fun a => X a ∨ IgZ i a) p.1 p.2) → Q (.ref i.x) { s with heap := h', toks := tk', drawn := dr' }) :
    wpAny (model prog w) A (call (.ref 199) vs) Q E s := by
  obtain ⟨hh, gg, d, t, os⟩ := s
  have X' : (KH w).In hh := C.K.keeps O.base
  refine wpAny_call (make_core (makes_of X' (ig_makes w)) (looks_findIn X' (ig_init w)) (fun self => bind_fn X' self (ig_initT w)) (.inl rfl) ?_)
  have n1 : hh.get? hh.objs.size = none := get_size_none hh
  have n2 : (hh.push emptyDict).get? (hh.objs.size + 1) = none := by have := get_size_none (hh.push emptyDict); rwa [Heap.size_push] at this
  have n3 : hh.get? (hh.objs.size + 1) = none := by
    cases e : hh.get? (hh.objs.size + 1) with
    | none => rfl
    | some o => rw [Heap.get?_push_of_some _ e] at n2; cases n2
  have g1 : ((hh.push emptyDict).push (instObj 199 hh.objs.size)).get? hh.objs.size = some emptyDict := Heap.get?_push_of_some _ (Heap.get?_push_size _ rfl)
  have g2 : ((hh.push emptyDict).push (instObj 199 hh.objs.size)).get? (hh.objs.size + 1) = some (instObj 199 hh.objs.size) := by
    have : ((hh.push emptyDict).push (instObj 199 hh.objs.size)).get? (hh.push emptyDict).objs.size = some (instObj 199 hh.objs.size) := Heap.get?_push_size _ rfl
    rwa [Heap.size_push] at this
  have kk : Ext hh ((hh.push emptyDict).push (instObj 199 hh.objs.size)) := fun b o e => Heap.get?_push_of_some _ (Heap.get?_push_of_some _ e)
  generalize hh.objs.size = dx at *
  generalize hxx : dx + 1 = x at *
  have hne : x ≠ dx := by rw [← hxx]; exact Nat.succ_ne_self dx
  generalize (hh.push emptyDict).push (instObj 199 dx) = h₁ at *
  dsimp only at O y q ⊢
  have nX : ∀ a, Z0 x dx a → hh.get? a = none := fun a z => by rcases z with rfl | rfl <;> assumption
  have nB : ∀ a, Z0 x dx a → B.get? a = none := fun a z => by
    cases gb : B.get? a with
    | none => rfl
    | some o => have := O.base a o gb; rw [nX a z] at this; cases this
  refine (hi x dx hne).run _ ⟨h₁, gg, d, t, os⟩ (fun a => X a ∨ Z0 x dx a) _ _ (R.make 199 vs) ⟨O.base.trans kk, fun a z => ?_, fun a z => z.elim (O.off a) (nB a)⟩ (fun a z => .inr z) ⟨g2, g1⟩ (fun h h' x k => ⟨k _ _ (.inl rfl) x.1, k _ _ (.inr rfl) x.2⟩) (.cons ⟨SelfG.stab _ _, rfl, fun p hp => nomatch hp⟩ (y.up fun b o nb e => ⟨kk b o e, fun z => z.elim nb fun z => by rw [nX b z] at e; cases e⟩)) fun Z' xt' r gs v h' tk' dr' _ hG zs zn kp lv hx' hst hv hgs => ?_
  · rcases z with z | z | z
    · obtain ⟨o, e⟩ := O.live a z; exact ⟨o, kk a o e⟩
    · rw [z]; exact ⟨_, g2⟩
    · rw [z]; exact ⟨_, g1⟩
  · obtain ⟨i, rfl, rfl, rfl, rfl, rfl, rfl⟩ := hG
    cases hv
    refine ⟨rfl, q i h' tk' dr' (fun a z => ⟨?_, lv a z⟩) (fun b o e => kp b o (fun z => by rw [nX b z] at e; cases e) (kk b o e)) hx' fun p hp => RV.less (hgs p hp) fun a z => z.imp .inl id⟩
    rcases zn a z with z | z
    · exact nX a z
    · cases gg2 : hh.get? a with
      | none => rfl
      | some o => have z : h₁.get? a = none := z; rw [kk a o gg2] at z; cases z
theorem ig_keep (w : World) : keepIn (KH w) (.ref 199) = true := by kernel_rfl
theorem GF.makeIg {locI : Ig → List (Str × Slot)} {fp cp : Pos} (C : Cx w B mg mb) (hi : InitOk prog w B n mods dirs dirs') (hf : EV prog w B (n + 1) env (keepN st.loc) (.Name "_Ignore" fp) (.v (.ref 199))) (he : EVs prog w B (n + 1) env (keepN st.loc) [e1, e2] [.d (txts mods), .d (txts dirs)]) (hes : noStar [e1, e2] = true) (hk : Sto env y)
    (up : ∀ i, Upd st.loc y (.r (.hp (SelfG i.x (igs prog w i mods dirs')))) (locI i)) (p : ∀ i, (∀ a, IgZ i a → ¬ Z a) → P (fun a => Z a ∨ IgZ i a) .next ⟨locI i, fun h => st.ext h ∧ IgExt prog w i g0 1 h⟩)
    (hsw : swapsWith (.Call (.Name "_Ignore" fp) [e1, e2] [] cp) (some (.Name y py)) pos.line env = pure false := by rfl) :
    GF prog w B True (n + 1) env Z st (exec (.Assign [.Name y py] (.Call (.Name "_Ignore" fp) [e1, e2] [] cp) pos) env) P := by
  refine ⟨fun A s X₀ O Q E R hdj F q => ?_⟩
  obtain ⟨m, cm, f⟩ := F.inF
  refine wpAny_Assign_Name (Call_ (hf.run A s _ _ E R f.ok f.keepNm fun u h₁ t₁ k₁ y₁ => ?_)) hsw
  cases y₁
  have f₁ := f.grow k₁
  refine W.callWith_of (P := (KH w).In) (by rw [List.any_nil, Bool.or_false]; exact any_starEach (noStar_all hes)) (keeps_K (ig_keep w)) (evalArgs_of he (noStar_all hes) A { s with heap := h₁, toks := t₁ } _ _ E R f₁.ok (f.keepNm.ext k₁) fun vs h₂ t₂ k₂ y₂ => ⟨C.K.keeps ((f₁.ok.ext k₂).base), ?_⟩)
  have f₂ := f₁.grow k₂
  refine igCall C hi R f₂.ok y₂ fun i h₃ t₃ dr₃ hnew k₃ hx₃ hgs => ?_
  have kk := (k₁.trans k₂).trans k₃
  have nw : ∀ a, IgZ i a → s.heap.get? a = none := fun a z => by
    cases gg : s.heap.get? a with
    | none => rfl
    | some o => have := (hnew a z).1; rw [(k₁.trans k₂) a o gg] at this; cases this
  have nz : ∀ a, IgZ i a → ¬ Z a := fun a z y => by
    obtain ⟨o, e⟩ := f.ok.live a (.inl (F.foot a y))
    rw [nw a z] at e; cases e
  have F1 : InZ B env Z (orS X₀ fun a => Z a ∨ IgZ i a) st O h₃ := F.addX kk (fun c z => by
    rcases z with z | z | z
    · exact .inl (.inl z)
    · exact .inl (.inr z)
    · exact .inr ⟨nw c z, (hnew c z).2⟩) fun c z => z.imp id .inl
  have F2 : InZ B env (fun a => Z a ∨ IgZ i a) (orS X₀ fun a => Z a ∨ IgZ i a) { st with ext := fun h => st.ext h ∧ IgExt prog w i g0 1 h } O h₃ :=
    F1.refoot (fun c z => .inr z) ⟨F1.inF.choose_spec.choose_spec.ext, hx₃⟩ fun h h' x k => ⟨F.stab _ _ x.1 fun a o z => k a o (.inl z), x.2.at fun a o z => k a o (.inr z)⟩
  obtain ⟨m2, cm2, f2⟩ := F2.inF
  refine f2.store (s := { s with heap := h₃, toks := t₃, drawn := dr₃ }) hk (r := .hp (SelfG i.x (igs prog w i mods dirs'))) ⟨SelfG.stab _ _, rfl, fun p hp => RV.less (hgs p hp) fun a z => ?_⟩ (up i) fun h' m' cm' tk f' c => ?_
  · rcases z with (z | z | z) | z
    · exact .inl (.inl (.inl z))
    · exact .inl (.inl (.inr z))
    · exact .inr z
    · exact .inl (.inr z)
  have F3 : InZ B env (fun a => Z a ∨ IgZ i a) (orS X₀ fun a => Z a ∨ IgZ i a) ⟨locI i, fun h => st.ext h ∧ IgExt prog w i g0 1 h⟩ O h' := ⟨F2.foot, F2.stab, m', cm', f'⟩
  have zn : ∀ c, Z c ∨ IgZ i c → Z c ∨ s.heap.get? c = none := fun c z => z.imp id (nw c)
  exact q _ .next .next _ O h' tk _ (.inl trivial) (p i nz) (fun _ z => .inl z) zn F3 (ChZ.and F F2 (fun _ z => .inl z) zn (ChZ.of_ext F kk) (c.toZ F2)) trivial
end
end Mine
end
section
open PySem PySem.W PyProof.Rows PySem.Calls
set_option maxHeartbeats 8000000
namespace Mine
noncomputable def fileD : Option Str → PyData
  | none => .none
  | some f => .str f
noncomputable def restS (dirs : List Str) : Option Str → Bool
  | none => true
  | some f => dirs.any fun d => Txt.startswith f (d ++ "/")
noncomputable def coversS (mods dirs : List Str) (file : Option Str) (k : Str) : Bool := decide (k ∈ mods) || mods.any (fun x => Txt.startswith k (x ++ ".")) || restS dirs file
noncomputable def namesS (g : Str → Option Nat) (mods dirs : List Str) (file : Option Str) (k : Str) : Nat := match g k with
  | some j => j
  | none => if coversS mods dirs file k then 1 else 0
noncomputable def memoS (g : Str → Option Nat) (mods dirs : List Str) (file : Option Str) (k : Str) : Str → Option Nat := match g k with
  | some _ => g
  | none => memoPut g k (if coversS mods dirs file k then 1 else 0)
section
variable {prog : Program} {w : World} {B : Heap} {mg mb : Str → Option Value} {n : Nat} {env : Env} {nu : List (Str × Res)} {pos : Pos} {D : Prop} {P : (Addr → Prop) → Fl → St → Prop} {l : List (Str × Slot)} {i : Ig} {mods dirs : List Str} {g : Str → Option Nat} {m : Nat} {k : Str}
theorem gl_sep (C : Cx w B mg mb) (hg : env.globals = mainGlobals) (hk : env.kindOf "sep" = some .globalImplicit) (hf : env.scope.kind = .function) : EV prog w B n env nu (.Name "sep" pos) (.d (.str "/")) :=
  EV.globD (X₀ := fun _ => False) (hg ▸ C.g) (mg_of C.K C.g rfl) (.str _ _) hk hf (by decide +kernel)
theorem names_put (C : Cx w B mg mb) {j : Nat} {p1 p2 p3 p4 p5 p6 p7 p8 : Pos} {kd kd' : Nat} (hself : (("self" : Str), Slot.r (.hp (SelfG i.x (igs prog w i mods dirs)))) ∈ l) (hmn : (("modulename" : Str), Slot.r (.d (.str k))) ∈ l) (hm : m ≤ 1000)
    (p : P (IgZ i) (.ret (.d (.int (j : Nat)))) ⟨l, IgExt prog w i (memoPut g k j) (m + 1)⟩)
    (hsw : swapsWith (.Constant (.int (j : Nat)) kd p5) (some (.Subscript (.Attribute (.Name "self" p1) "_ignore" p2) (.Name "modulename" p3) p4)) p6.line env = pure false := by rfl) :
    GF prog w B D n env (IgZ i) ⟨l, IgExt prog w i g m⟩ (execs [.Assign [.Subscript (.Attribute (.Name "self" p1) "_ignore" p2) (.Name "modulename" p3) p4] (.Constant (.int (j : Nat)) kd p5) p6, .Return (some (.Constant (.int (j : Nat)) kd' p7)) p8] env) P := by
  apply GF.cons
  refine GF.memoSet (nuV := [("self", .hp (IgV prog w i mods dirs g m)), ("modulename", .d (.str k))]) (View.ig (fun _ z => z) (fun _ h => h) hself (View.put View.nil hmn)) EV.cint (EV.ig_ignore C (EV.name (.head _))) (EV.name (.tail _ (.head _))) (.inr (.inr rfl)) hm
    (fun h hx h' hs hM => IgExt.put hx hs hM) (fun h h' x k => x.at k) ?_ hsw
  apply GF.cons
  exact GF.retV View.nil EV.cint p
noncomputable def namesG (prog : Program) (w : World) (i : Ig) (mods dirs : List Str) (g : Str → Option Nat) (m : Nat) (file : Option Str) (k : Str) (Z' : Addr → Prop) (xt' : Heap → Prop) (r : Res) (gs : List (Value × Res)) : Prop :=
  Z' = IgZ i ∧ gs = [] ∧ r = .d (.int (namesS g mods dirs file k : Nat)) ∧ ∃ m', m' ≤ m + 1 ∧ xt' = IgExt prog w i (memoS g mods dirs file k) m'
noncomputable def namesBase (prog : Program) (w : World) (i : Ig) (mods dirs : List Str) (file : Option Str) (k : Str) : List (Str × Slot) := [("self", .r (.hp (SelfG i.x (igs prog w i mods dirs)))), ("filename", .r (.d (fileD file))), ("modulename", .r (.d (.str k)))]
theorem names_ok (C : Cx w B mg mb) (i : Ig) (mods dirs : List Str) (g : Str → Option Nat) (m : Nat) (file : Option Str) (k : Str) (hm : m ≤ 1000) (hmods : ∀ x ∈ mods, x.length ≤ 2000000) (hdirs : ∀ x ∈ dirs, x.length ≤ 2000000) :
    OPG prog w B True 1 (IgZ i) (IgExt prog w i g m) (.ref 196) [.hp (SelfG i.x (igs prog w i mods dirs)), .d (fileD file), .d (.str k)] (namesG prog w i mods dirs g m file k) := by
  refine OPG.fun (xs := ["self", "filename", "modulename"]) C 196 ⟨_, rfl, rfl⟩ rfl (by decide +kernel) rfl rfl (fun s vs _ hv => BindsTo.of_eq (by obtain ⟨v0, v1, v2, rfl⟩ := lenV3 hv; rfl)) rfl (by decide +kernel) (by decide +kernel) (by decide +kernel) fun L => ?_
  simp only [slotsOf, List.zip_cons_cons, List.zip_nil_left, List.map_cons, List.map_nil]
  have V : View (callEnvC (fdIn 196) L 196) (IgZ i) ⟨namesBase prog w i mods dirs file k, IgExt prog w i g m⟩ [("self", .hp (IgV prog w i mods dirs g m)), ("modulename", .d (.str k))] :=
    View.ig (fun _ z => z) (fun _ h => h) (.head _) (View.put View.nil (.tail _ (.tail _ (.head _))))
  have fin : ∀ (Z' : Addr → Prop) (j : Nat) (l : List (Str × Slot)), g k = none → (if coversS mods dirs file k then 1 else 0) = j → GivesG (namesG prog w i mods dirs g m file k) (IgZ i) (.ret (.d (.int (j : Nat)))) ⟨l, IgExt prog w i (memoPut g k j) (m + 1)⟩ := by
    intro Z' j l hg hj
    exact ⟨_, [], ⟨rfl, rfl, rfl, m + 1, Nat.le_refl _, by unfold memoS; rw [hg, hj]⟩, by unfold namesS; rw [hg]; dsimp only; rw [hj]; exact Gives.ret _ _, .inl rfl⟩
  apply GF.cons; apply GF.iteV (b := (g k).isSome) V
  case ht => exact TV.cmp (EV.name (.tail _ (.head _))) (EV.ig_ignore C (EV.name (.head _))) OP.inMemo rfl
  case h1 =>
    intro hb
    obtain ⟨j, hj⟩ := Option.isSome_iff_exists.mp hb
    apply GF.cons; apply GF.retV V
    case he => exact EV.item (EV.ig_ignore C (EV.name (.head _))) (EV.name (.tail _ (.head _))) (OP.getMemo hj) HasItems.memo rfl
    exact ⟨_, [], ⟨rfl, rfl, rfl, m, Nat.le_succ _, by unfold memoS; rw [hj]⟩, by unfold namesS; rw [hj]; exact Gives.ret _ _, .inl rfl⟩
  case h2 =>
    intro hb
    have hg : g k = none := by simpa using hb
    apply GF.nil
    apply GF.cons; apply GF.iteV (b := decide (k ∈ mods)) V
    case ht => exact TV.cmp (EV.name (.tail _ (.head _))) (EV.ig_mods C (EV.name (.head _))) OP.inSet rfl
    case h1 =>
      intro hb
      exact names_put C (j := 1) (.head _) (.tail _ (.tail _ (.head _))) hm (fin (IgZ i) 1 _ hg (by unfold coversS; rw [hb]; rfl))
    case h2 =>
      intro hb1
      apply GF.nil
      apply GF.cons; apply GF.forZ (ITZ.setG V (EV.ig_modsV C (EV.name (.head _))) (.head _) (.tail _ (.head _)))
      rintro rs ⟨L', rfl, hL⟩
      refine ⟨fun ix Z st => Z = IgZ i ∧ st.ext = IgExt prog w i g m ∧ (namesBase prog w i mods dirs file k).Sublist st.loc ∧ ∀ x ∈ L'.take ix, Txt.startswith k (x ++ ".") = false, ⟨rfl, rfl, List.Sublist.refl _, by simp⟩, ?_, ?_⟩
      · rintro ix r Z ⟨l, xt⟩ hr ⟨rfl, rfl, hs, hno⟩
        obtain ⟨x, hx, rfl⟩ := map_at hr
        have hxl : x.length ≤ 2000000 := hmods x ((hL x).mp (List.mem_of_getElem? hx))
        unfold namesBase at hs
        apply turnG_
        case a =>
          apply AS.weaken hs
          apply AS.nameL (.inl rfl)
          o_facts U
        apply GF.cons; apply GF.iteV (b := Txt.startswith k (x ++ ".")) (nuV := [("modulename", .d (.str k)), ("mod", .d (.str x))])
        case V =>
          apply View.put
          · apply View.put View.nil
            o_facts M
          · o_facts M
        case ht =>
          o_facts C
          o_facts S; all_goals try first | assumption | decide | exact IntMulOk.of_right (by decide +kernel) | (intro _; exact rfl) | (simp only [lens] at *; omega) | simp [sizeLine_eq] <;> omega
        case h1 =>
          intro hb2
          apply names_put C (j := 1)
          case hself => o_facts M
          case hmn => o_facts M
          case hm => exact hm
          case p =>
            refine fin (IgZ i) 1 _ hg ?_
            have : mods.any (fun x => Txt.startswith k (x ++ ".")) = true := List.any_eq_true.mpr ⟨x, (hL x).mp (List.mem_of_getElem? hx), hb2⟩
            unfold coversS; rw [this, Bool.or_true, Bool.true_or]; rfl
        case h2 =>
          intro hb2
          apply GF.nil
          apply GF.nil
          refine ⟨rfl, rfl, ?_, fun y hy => ?_⟩
          · unfold namesBase; o_facts L
          · rw [List.take_add_one, hx] at hy
            rcases List.mem_append.mp hy with hy | hy
            · exact hno y hy
            · rw [List.mem_singleton.mp hy]; exact hb2
      · rintro Z ⟨l, xt⟩ ⟨rfl, rfl, hs, hno⟩
        have hb2 : mods.any (fun x => Txt.startswith k (x ++ ".")) = false := by
          rw [List.any_eq_false]
          intro x hx
          rw [hno x (by rw [List.length_map, List.length_map, List.take_length]; exact (hL x).mpr hx)]
          exact Bool.noConfusion
        apply GF.nil
        apply GF.weaken hs
        have cov : coversS mods dirs file k = restS dirs file := by
          unfold coversS; rw [hb1, hb2]; rfl
        cases file with
        | none =>
          apply GF.cons; apply GF.iteV (b := true) (nuV := [("filename", .d .none)])
          case V => exact View.put View.nil (.tail _ (.head _))
          case ht => exact TV.cmp (EV.name (.head _)) EV.cnone OP.isNone_none rfl
          case h1 =>
            intro _
            exact names_put C (j := 1) (.head _) (.tail _ (.tail _ (.head _))) hm (fin (IgZ i) 1 _ hg (by rw [cov]; rfl))
          case h2 => exact fun h => nomatch h
        | some f =>
          apply GF.cons; apply GF.iteV (b := false) (nuV := [("filename", .d (.str f))])
          case V => exact View.put View.nil (.tail _ (.head _))
          case ht => exact TV.cmp (EV.name (.head _)) EV.cnone OP.isNone_str rfl
          case h1 => exact fun h => nomatch h
          case h2 =>
            intro _
            apply GF.nil
            apply GF.cons; apply GF.forZ (ITZ.listG V (EV.ig_dirsV C (EV.name (.head _))) (.head _) (.head _))
            rintro rs rfl
            refine ⟨fun ix Z st => Z = IgZ i ∧ st.ext = IgExt prog w i g m ∧ (namesBase prog w i mods dirs (some f) k).Sublist st.loc ∧ ∀ x ∈ dirs.take ix, Txt.startswith f (x ++ "/") = false, ⟨rfl, rfl, List.Sublist.refl _, by simp⟩, ?_, ?_⟩
            · rintro ix r Z ⟨l, xt⟩ hr ⟨rfl, rfl, hs, hno⟩
              obtain ⟨x, hx, rfl⟩ := map_at hr
              have hxl : x.length ≤ 2000000 := hdirs x (List.mem_of_getElem? hx)
              unfold namesBase at hs
              apply turnG_
              case a =>
                apply AS.weaken hs
                apply AS.nameL (.inl rfl)
                o_facts U
              apply GF.cons; apply GF.iteV (b := Txt.startswith f (x ++ "/")) (nuV := [("filename", .d (.str f)), ("d", .d (.str x))])
              case V =>
                apply View.put
                · apply View.put View.nil
                  o_facts M
                · exact .tail _ (.head _)
              case ht =>
                o_facts C
                o_facts S; all_goals try first | assumption | decide | exact IntMulOk.of_right (by decide +kernel) | (intro _; exact rfl) | (simp only [lens] at *; omega) | simp [sizeLine_eq] <;> omega
              case h1 =>
                intro hb3
                apply names_put C (j := 1)
                case hself => o_facts M
                case hmn => o_facts M
                case hm => exact hm
                case p =>
                  refine fin (IgZ i) 1 _ hg ?_
                  have : (dirs.any fun d => Txt.startswith f (d ++ "/")) = true := List.any_eq_true.mpr ⟨x, List.mem_of_getElem? hx, hb3⟩
                  rw [cov, show restS dirs (some f) = true from this]; rfl
              case h2 =>
                intro hb3
                apply GF.nil
                apply GF.nil
                refine ⟨rfl, rfl, ?_, fun y hy => ?_⟩
                · unfold namesBase; o_facts L
                · rw [List.take_add_one, hx] at hy
                  rcases List.mem_append.mp hy with hy | hy
                  · exact hno y hy
                  · rw [List.mem_singleton.mp hy]; exact hb3
            · rintro Z ⟨l, xt⟩ ⟨rfl, rfl, hs, hno⟩
              have hb3 : (dirs.any fun d => Txt.startswith f (d ++ "/")) = false := by
                rw [List.any_eq_false]
                intro x hx
                rw [hno x (by rw [List.length_map, List.length_map, List.take_length]; exact hx)]
                exact Bool.noConfusion
              apply GF.nil
              apply GF.weaken hs
              exact names_put C (j := 0) (.head _) (.tail _ (.tail _ (.head _))) hm (fin (IgZ i) 0 _ hg (by rw [cov, show restS dirs (some f) = false from hb3]; rfl))
end
end Mine
end
section
open PySem PySem.W PyProof.Rows PySem.Calls
namespace Mine
structure GE (prog : Program) (w : World) (B : Heap) (D : Prop) (n : Nat) (env : Env) (Z : Addr → Prop) (st : St) (e : Expr) (P : Res → (Heap → Prop) → Prop) : Prop where
  run : ∀ (A : Around) (s : Shared) (X₀ : Addr → Prop) (O : Str → Option Addr) (Q : Value → Shared → Prop) (E : Value → Shared → Prop), Room n A → (∀ a, Z a → ¬ X₀ a) → InZ B env Z (orS X₀ Z) st O s.heap →
    (∀ r xt' v h' tk' dr', (D ∨ dr' = s.drawn) → P r xt' → InZ B env Z (orS X₀ Z) { st with ext := xt' } O h' → ChZ env Z O s.heap O h' → RV h' (fun _ => False) v r → Q v { s with heap := h', toks := tk', drawn := dr' }) → wpAny (model prog w) A (eval e env) Q E s
theorem fn_keep (w : World) : keepIn (KH w) (.ref 196) = true := by kernel_rfl
section
variable {prog : Program} {w : World} {B : Heap} {mg mb : Str → Option Value} {D : Prop} {n m : Nat} {env : Env} {Z : Addr → Prop} {st : St} {e e1 e2 : Expr} {x y : Str} {py pos ap cp px : Pos} {i : Ig} {g : Str → Option Nat} {r : Res} {mods dirs : List Str} {k : Str} {file : Option Str} {P P1 : Res → (Heap → Prop) → Prop}
theorem GE.names {pl : Sem Bool} {xtM : Nat → Heap → Prop} (C : Cx w B mg mb) (hn : OPG prog w B D n (IgZ i) (IgExt prog w i g m) (.ref 196) [.hp (SelfG i.x (igs prog w i mods dirs)), .d (fileD file), .d (.str k)] (namesG prog w i mods dirs g m file k))
    (hy : (y, Slot.r (.hp (SelfG i.x (igs prog w i mods dirs)))) ∈ st.loc) (hz : ∀ a, IgZ i a → Z a) (hx : ∀ h, st.ext h → IgExt prog w i g m h) (h1 : EV prog w B n env (keepN st.loc) e1 (.d (fileD file))) (h2 : EV prog w B n env (keepN st.loc) e2 (.d (.str k))) (hes : noStar [e1, e2] = true)
    (hxt : ∀ m' h h', m' ≤ m + 1 → st.ext h → (∀ b o, ¬ IgZ i b → h.get? b = some o → h'.get? b = some o) → IgExt prog w i (memoS g mods dirs file k) m' h' → xtM m' h')
    (hs : ∀ m' (h h' : Heap), m' ≤ m + 1 → xtM m' h → (∀ c o, Z c → h.get? c = some o → h'.get? c = some o) → xtM m' h') (p : ∀ m', m' ≤ m + 1 → P (.d (.int (namesS g mods dirs file k : Nat))) (xtM m'))
    (hd : (y == ("__debug__" : Str)) = false := by decide +kernel)
    (he : eval (.Call (.Attribute (.Name y py) "names" ap) [e1, e2] [] pos) env = (do
      let ov ← eval (.Name y py) env
      standAt ap.atName
      let (f, first) ← holding [ov] (getMethod ov "names" pl)
      callWith pos f first (backTo pos (starEach [e1, e2] env)) (backToKw pos (keywordEach [] env)))) :
    GE prog w B D n env Z st (.Call (.Attribute (.Name y py) "names" ap) [e1, e2] [] pos) P := by
  refine ⟨fun A s X₀ O Q E R hdj F q => ?_⟩
  obtain ⟨m1, cm1, f⟩ := F.inF
  refine methodCall_KW ?_ he
  obtain ⟨u, b, yu⟩ := f.slots _ hy
  obtain ⟨_, rfl, _⟩ := id yu
  refine wpAny_Name ((b.ln f).ld _ _ _ _ _ (Ext.refl _) ?_) hd
  obtain ⟨hne, g1, ⟨t1, t2, t3, g2⟩, g3⟩ := hx _ f.ext
  have X' : (KH w).In s.heap := C.K.keeps f.ok.base
  have I : InstAt s.heap i.x (instObj 199 i.dx) 199 (some (igO3 w t1 t2 t3 i.vm i.vd (.ref i.di))) := ⟨g1, rfl, rfl, g2⟩
  refine method_fn X' I (ig_ga w) (ig_gt w) (ig_nm w) (ig_nmT w) (by unfold shadowIn; dsimp only; rw [ig_names]; rfl) ?_
  refine W.callWith_of (P := (KH w).In) (by rw [show backToKw pos (keywordEach [] env) = [] from rfl, List.any_nil, Bool.or_false]; exact any_starEach (noStar_all hes)) (keeps_K (fn_keep w)) (evalArgs_of (.cons h1 (.cons h2 .nil)) (noStar_all hes) A s _ _ E R f.ok f.keepNm fun vs h₂ t₂ k₂ y₂ => ⟨C.K.keeps ((f.ok.ext k₂).base), ?_⟩)
  have f₂ := f.grow k₂
  have F₂ := F.grow k₂
  refine wpAny_call (hn.run A { s with heap := h₂, toks := t₂ } (Av (orS X₀ Z) env O) _ (.ref i.x :: vs) R f₂.ok (fun a z => .inl (.inr (hz a z))) (hx _ f₂.ext) (fun h h' x k => x.at k) (.cons (yu.ext k₂) y₂) fun Z' xt' r gs v h₃ t₃ dr₃ hdr hG zs zn kp lv hx₃ hst hv hgs => ?_)
  obtain ⟨rfl, rfl, rfl, m', hm', rfl⟩ := hG
  obtain ⟨F3, c3⟩ := F₂.zturn (h' := h₃) (xt' := xtM m') (fun d o nd e => kp d o (fun z => nd (hz d z)) e) (fun d z => by
    by_cases hda : IgZ i d
    · exact lv d hda
    · obtain ⟨o, e⟩ := f₂.ok.live d (.inl (F₂.foot d z))
      exact ⟨o, kp d o hda e⟩) (hxt m' h₂ h₃ hm' f₂.ext kp hx₃) (fun h h' => hs m' h h' hm')
  exact q _ (xtM m') v h₃ t₃ dr₃ hdr (p m' hm') F3 (ChZ.and F F₂ (fun _ z => z) (fun _ z => .inl z) (ChZ.of_ext F k₂) c3) (Scal.int.any hv)
theorem GE.repr (C : Cx w B mg mb) (hf : EV prog w B n env (keepN st.loc) (.Name "repr" py) (.v (.builtin "repr"))) (h : GE prog w B D n env Z st e P1) (hp : ∀ r xt, P1 r xt → ∃ j : Nat, j ≤ 1 ∧ r = .d (.int (j : Nat)) ∧ P (.d (.str (Str.ofString (toString ((j : Nat) : Int))))) xt) (hs : isStarred e = false) :
    GE prog w B D n env Z st (.Call (.Name "repr" py) [e] [] pos) P := by
  refine ⟨fun A s X₀ O Q E R hdj F q => ?_⟩
  obtain ⟨m1, cm1, f⟩ := F.inF
  refine Call_ (hf.run A s _ _ E R f.ok f.keepNm fun u h₁ t₁ k₁ y₁ => ?_)
  cases y₁
  have F₁ := F.grow k₁
  rw [show backTo pos (starEach [e] env) = [(false, eval e env)] from by rw [star1 hs]; rfl]
  refine callWith_builtin1 (h.run A { s with heap := h₁, toks := t₁ } X₀ O _ E R hdj F₁ fun r xt' v h₂ t₂ dr₂ hdr p F₂ c₂ y => ?_)
  obtain ⟨j, hj, rfl, p2⟩ := hp _ _ p
  cases y
  refine PySem.P.repr_of_int (by
    have : j = 0 ∨ j = 1 := by omega
    rcases this with rfl | rfl <;> decide) ?_
  exact q _ xt' _ h₂ _ dr₂ hdr p2 F₂ (ChZ.and F F₁ (fun _ z => z) (fun _ z => .inl z) (ChZ.of_ext F k₁) c₂) (Rd.str _ _)
theorem GE.add (h1 : GE prog w B D n env Z st e1 P1) (h2 : ∀ r1 xt1, P1 r1 xt1 → ∃ a : Str, a.length ≤ 100 ∧ r1 = .d (.str a) ∧ GE prog w B D n env Z { st with ext := xt1 } e2 (fun r2 xt2 => ∃ b : Str, b.length ≤ 100 ∧ r2 = .d (.str b) ∧ P (.d (.str (a ++ b))) xt2)) :
    GE prog w B D n env Z st (.BinOp e1 .Add e2 pos) P := by
  refine ⟨fun A s X₀ O Q E R hdj F q => ?_⟩
  refine wpAny_BinOp (h1.run A s X₀ O _ E R hdj F fun r1 xt1 v1 h₁ t₁ dr₁ hdr₁ p1 F₁ c₁ y₁ => ?_)
  obtain ⟨a, ha, rfl, h2⟩ := h2 _ _ p1
  refine h2.run A { s with heap := h₁, toks := t₁, drawn := dr₁ } X₀ O _ E R hdj F₁ fun r2 xt2 v2 h₂ t₂ dr₂ hdr₂ p2 F₂ c₂ y₂ => ?_
  obtain ⟨b, hb, rfl, p⟩ := p2
  have y₁' : RV h₂ (fun _ => False) v1 (.d (.str a)) := Scal.str.any y₁
  obtain ⟨m2, cm2, f₂⟩ := F₂.inF
  refine (OP.sadd (by rw [sizeLine_eq]; omega)).run A { s with heap := h₂, toks := t₂, drawn := dr₂ } (fun _ => False) Q E [v1, v2] R (f₂.ok.sub fun _ z => z.elim) (.cons y₁' (.cons y₂ .nil)) fun v h₃ t₃ k₃ y₃ => ?_
  exact q _ xt2 v h₃ t₃ dr₂ (hdr₂.elim .inl fun e => hdr₁.imp id fun e' => e.trans e') p (F₂.grow k₃) (ChZ.and F F₂ (fun _ z => z) (fun _ z => .inl z) (ChZ.and F F₁ (fun _ z => z) (fun _ z => .inl z) c₁ c₂) (ChZ.of_ext F₂ k₃)) y₃
theorem GF.appendGE {ds : List PyData} {PF : (Addr → Prop) → Fl → St → Prop} {locD : Str → List (Str × Slot)} (hx : (x, Slot.own ds) ∈ st.loc) (he : GE prog w B D n env Z st e P) (up : ∀ t, Upd st.loc x (.own (ds ++ [.str t])) (locD t)) (hl : ds.length ≤ sizeLine)
    (p : ∀ r xt', P r xt' → ∃ t, r = .d (.str t) ∧ PF Z .next ⟨locD t, xt'⟩)
    (hd : (x == ("__debug__" : Str)) = false := by decide +kernel) (hs : isStarred e = false := by rfl) (hline : (ap.endLine == cp.line) = true := by rfl) (hi : interactive env = false := by rfl) (hw : swapsWith (.Call (.Attribute (.Name x px) "append" ap) [e] [] cp) none pos.line env = pure false := by rfl) :
    GF prog w B D n env Z st (exec (.Expr (.Call (.Attribute (.Name x px) "append" ap) [e] [] cp) pos) env) PF := by
  refine ⟨fun A s X₀ O Q E R hdj F q => ?_⟩
  obtain ⟨m, cm, f⟩ := F.inF
  obtain ⟨v, b, a, vs, rfl, ho, hp, hr⟩ := f.slots _ hx
  refine wpAny_Expr_any (wpAny_Call_append (base_of rfl _) (by rw [star1 hs]; rfl) hline (by rw [star1 hs]; rfl) ?_) hi hw
  refine wpAny_Name ((b.ln f).ld _ _ _ _ _ (Ext.refl _) ⟨a, _, rfl, let ⟨n, g⟩ := hp; ⟨_, n, g, rfl, rfl, rfl⟩, ?_⟩) hd
  refine he.run A s X₀ O _ E R hdj F fun r xt' v h₁ t₁ dr₁ hdr p1 F₁ c₁ y₁ => ?_
  obtain ⟨t, rfl, pf⟩ := p _ _ p1
  obtain ⟨m1, cm1, f₁⟩ := F₁.inF
  obtain ⟨v', b', a', vs', rfl, ho', hp', hr'⟩ := f₁.slots _ hx
  have ho2 : O x = some a' := ho'
  rw [ho] at ho2
  cases ho2
  refine wpAny_list_append_plain (s := { s with heap := h₁, toks := t₁, drawn := dr₁ }) hp' (fun h₂ hp₂ hs₂ => ?_) (by simpa [hr'.length] using hl)
  have e1 : vs'.toArray.push v = (vs' ++ [v]).toArray := by simp
  rw [e1] at hp₂
  have y₂ : Rd h₁ (Av (orS X₀ Z) env O) v (.str t) := Scal.str _ _ _ _ y₁
  have hr₁ : RdAll h₁ (Av (orS X₀ Z) env O) (vs' ++ [v]) (ds ++ [.str t]) := hr'.snoc y₂
  obtain ⟨F₂, c₂⟩ := F₁.ownTurn hx ho hs₂ hp₂ (hr₁.up fun b o n e => ⟨(hs₂.2 b fun z => n (z ▸ .inr (.inr ⟨x, ho⟩))).trans e, n⟩) (up t)
  exact q Z .next .next _ O h₂ _ _ hdr pf (fun _ z => z) (fun _ z => .inl z) F₂ (ChZ.and F F₁ (fun _ z => z) (fun _ z => .inl z) c₁ (c₂.toZ F₁)) trivial
end
end Mine
end
section
open PySem PySem.W PyProof.Rows PySem.Calls
set_option maxRecDepth 100000
namespace Mine
theorem RdAll.rep {h : Heap} {X : Addr → Prop} {vs : List Value} {ds : List PyData} (x : RdAll h X vs ds) : ∀ k : Nat, RdAll h X (List.replicate k vs).flatten (List.replicate k ds).flatten
  | 0 => .nil
  | k + 1 => by
    rw [List.replicate_succ, List.replicate_succ, List.flatten_cons, List.flatten_cons]
    exact x.append (RdAll.rep x k)
section
variable {prog : Program} {w : World} {A : Around} {E : Value → Shared → Prop} {s : Shared}
theorem mul_plain {l : Addr} {items : Array Value} {k : Nat} {x : Int} {u : Tok} {Q : Value → Shared → Prop} (hl : s.heap.get? l = some { cls := .type "list", dict := none, data := .seq items k, slots := #[] }) (hlo : -(2 ^ 63 : Int) ≤ x) (hhi : x < 2 ^ 63) (hsz : items.size * x.toNat ≤ 2 ^ 24)
    (h : Q (.ref s.heap.objs.size) { s with heap := s.heap.push { cls := .type "list", data := .seq (List.foldl (fun x1 x2 => x1 ++ x2) #[] (List.replicate (if items.isEmpty = true then 0 else x.toNat) items)) } }) :
    wpAny (model prog w) A (binaryOp .Mult (.ref l) (.int x u)) Q E s :=
  wpAny_binaryOp_repeat_ref (T := "list") (U := "int") (by decide) ⟨_, hl, rfl⟩ (fun s' => typeIs_int s' x u) noFill_list_mul PySem.F.fills_int_mul PySem.F.slot_int_rmul repeat_list PySem.F.slot_int_index.lookup
    (call_meets PySem.F.slot_int_rmul (typeIs_int s x u) PySem.F.entry_int_rmul (PySem.F.args_int_rmul_2 _ _) (int___rmul___int_list x u l items k)
      ⟨hl, rfl, ⟨_, hl, rfl⟩, call_meets PySem.F.slot_list_mul ⟨_, hl, rfl⟩ PySem.F.entry_list_mul (PySem.F.args_list_mul_2 _ _)
        (AutoListH.list___mul___list_int_3 l items k x u (by simp [Builtin.List.listFitsIndex]; omega) (by omega) (by simp [Builtin.List.listTooLong, sizeLine]; omega))
        ⟨hl, h⟩⟩)
end
section
variable {prog : Program} {w : World} {B : Heap} {n : Nat} {ds : List PyData}
theorem OP.lrep {k : Nat} (hs : ds.length * k ≤ 1000) (hk : k ≤ 1000) : OP prog w B n (bin .Mult) [.d (.list ds), .d (.int (k : Nat))] (.d (.list (List.replicate k ds).flatten)) :=
  OP.of2 fun A s X Q E u v R O y z q => by
    obtain ⟨l, vs, rfl, nx, ⟨m, hl⟩, ra⟩ := Rd.list_invP y
    cases z
    rename_i t
    have hlen := ra.length
    refine mul_plain hl (by omega) (by omega) (by rw [List.size_toArray, hlen, Int.toNat_natCast]; exact Nat.le_trans hs (by decide)) ?_
    rw [listMul_foldl_if, Int.toNat_natCast]
    have k₁ := Ext.push s.heap { cls := Value.type "list", data := Data.seq (List.replicate k vs).flatten.toArray }
    exact q _ _ _ k₁ (Rd.of_list O.freshSize (IsList.push_new _ _) ((ra.rep k).ext k₁))
end
end Mine
end
section
open PySem PySem.W PyProof.Rows PySem.Calls
namespace Mine
structure EVD (prog : Program) (w : World) (B : Heap) (D : Prop) (n : Nat) (env : Env) (nu : List (Str × Res)) (e : Expr) (r : Res) : Prop where
  run : ∀ (A : Around) (s : Shared) (X : Addr → Prop) (Q : Value → Shared → Prop) (E : Value → Shared → Prop), Room n A → OkH B s.heap X → Nm env s.heap X nu →
    (∀ v h' tk' dr', (D ∨ dr' = s.drawn) → Ext s.heap h' → RV h' X v r → Q v { s with heap := h', toks := tk', drawn := dr' }) → wpAny (model prog w) A (eval e env) Q E s
section
variable {prog : Program} {w : World} {B : Heap} {D : Prop} {n m : Nat} {env : Env} {nu : List (Str × Res)} {Z : Addr → Prop} {st : St} {e l r o : Expr} {a b c : Res} {pos p ps : Pos} {body orelse : List Stmt} {P : (Addr → Prop) → Fl → St → Prop} {ds : List PyData}
theorem OPD.room {f : List Value → Sem Value} {rs : List Res} (h : OPD prog w B D n f rs a) (hk : n ≤ m) : OPD prog w B D m f rs a := ⟨fun A s X Q E vs R => h.run A s X Q E vs (R.le hk)⟩
theorem EVD.call {f : Str} {fp : Pos} {fv : Value} {es : List Expr} {rs : List Res} (hf : EV prog w B n env nu (.Name f fp) (.v fv)) (hk : Callee B fv) (h : EVs prog w B n env nu es rs) (ho : OPD prog w B D n (fun vs => call fv vs) rs c)
    (he : noStar es = true) : EVD prog w B D n env nu (.Call (.Name f fp) es [] pos) c := by
  refine ⟨fun A s X Q E R O N q => ?_⟩
  refine Call_ (hf.run A s X _ E R O N fun u h₁ t₁ k₁ y₁ => ?_)
  cases y₁
  refine callWith_any hk h (noStar_all he) A _ X _ E R (O.ext k₁) (N.ext k₁) fun vs h₂ t₂ k₂ y₂ => ?_
  exact ho.run A { s with heap := h₂, toks := t₂ } X Q E vs R ((O.ext k₁).ext k₂) y₂ fun v h₃ t₃ dr hdr k₃ y₃ => q v h₃ t₃ dr hdr ((k₁.trans k₂).trans k₃) y₃
theorem GF.iteCmpD {op : CmpOp} {t : Bool} (hl : EVD prog w B D n env (keepN st.loc) l a) (hr : EV prog w B n env (keepN st.loc) r b) (ho : OP prog w B n (Mine.cmp op) [a, b] (.d (.bool t))) (hm : behindInMarks op r = false)
    (h1 : t = true → GF prog w B D n env Z st (execs body env) P) (h2 : t = false → GF prog w B D n env Z st (execs orelse env) P) : GF prog w B D n env Z st (exec (.If (.Compare l [op] [r] ps) body orelse pos) env) P := by
  refine ⟨fun A s X₀ O Q E R hd F q => ?_⟩
  obtain ⟨m, cm, f⟩ := F.inF
  refine wpAny_If (wpAny_isTrue_Compare1 (hl.run A s _ _ E R f.ok f.keepNm fun u h₁ t₁ dr₁ hdr₁ k₁ y₁ => ?_) hm)
  refine hr.run A { s with heap := h₁, toks := t₁, drawn := dr₁ } _ _ E R (f.ok.ext k₁) (f.keepNm.ext k₁) fun v h₂ t₂ k₂ y₂ => ?_
  refine ho.run A { s with heap := h₂, toks := t₂, drawn := dr₁ } _ _ E [u, v] R ((f.ok.ext k₁).ext k₂) (.cons (y₁.ext k₂) (.cons y₂ .nil)) fun z h₃ t₃ k₃ y₃ => ?_
  cases y₃
  have kk := (k₁.trans k₂).trans k₃
  have F' := F.grow kk
  refine wpAny_truthy_bool ?_
  have q' : ∀ Z' fl fw st' O' h'' tk'' dr'', (D ∨ dr'' = dr₁) → P Z' fl st' → (∀ a, Z a → Z' a) → (∀ a, Z' a → Z a ∨ h₃.get? a = none) → InZ B env Z' (orS X₀ Z') st' O' h'' → ChZ env Z O h₃ O' h'' → FlOk h'' X₀ fl fw → Q fw { s with heap := h'', toks := tk'', drawn := dr'' } := fun Z' fl fw st' O' h'' tk'' dr'' hdr p zs zn F'' c y => by
    refine q Z' fl fw st' O' h'' tk'' dr'' (hdr.elim .inl fun e => hdr₁.imp id fun e' => e.trans e') p zs (fun a z => (zn a z).imp id fun e => ?_) F'' (ChZ.and F F' (fun _ z => z) (fun _ z => .inl z) (ChZ.of_ext F kk) c) y
    cases g : s.heap.get? a with
    | none => rfl
    | some o => rw [kk a o g] at e; cases e
  cases t with
  | true => exact (h1 rfl).run A { s with heap := h₃, toks := t₃, drawn := dr₁ } X₀ O Q E R hd F' q'
  | false => exact (h2 rfl).run A { s with heap := h₃, toks := t₃, drawn := dr₁ } X₀ O Q E R hd F' q'
theorem HasItems.lo {ds : List PyData} : HasItems (.lo ds) := fun h X u y => by
  obtain ⟨l, vs, rfl, nx, hl, ra⟩ := y
  exact ⟨"list", _, fun s e => by subst e; exact hl.typeIs, slot_list_getitem.lookup⟩
theorem EV.lsliceLo {hi : Expr} {k : Int} (ho : EV prog w B n env nu o (.lo ds)) (hu : EV prog w B n env nu hi (.d (.int k))) (h0 : 0 ≤ k) (hs : ds.length ≤ sizeLine) :
    EV prog w B n env nu (.Subscript o (.Slice none (some hi) none p) pos) (.d (.list (ds.take k.toNat))) := by
  refine EV.sliceWith (l := none) (u := some k) ho EP.none (EP.some hu) HasItems.lo fun A s X Q E v t t' R O y q => ?_
  obtain ⟨a, vs, rfl, nx, hl, ra⟩ := y
  refine wpAny_getItem_list_slice (lo := none) (hi := some k) (st := Option.none) (hl.push _) (Heap.IsSliceOf.new ..) (isPart_of _ _) (isPart_of _ _) .none (by simp) ?_ (by simpa [ra.length] using hs)
  have e := slicePick_upto' vs.toArray k.toNat
  rw [Int.toNat_of_nonneg h0] at e
  rw [show slicePick vs.toArray none (some k) none = (vs.take k.toNat).toArray from by simpa using e]
  have k2 : Ext s.heap ((s.heap.push { cls := .type "slice", data := .fields #[partValue ((none : Option Int).map fun i => (i, t)), partValue ((some k).map fun i => (i, t')), .none] }).push { cls := .type "list", data := .seq (vs.take k.toNat).toArray }) := (Ext.push _ _).pushR _
  exact q _ _ _ k2 (Rd.of_list (O.ext (Ext.push _ _)).freshSize (IsList.push_new _ _) ((ra.take k.toNat).ext k2))
end
end Mine
end
section
open PySem PySem.W PyProof.Rows PySem.Calls
set_option maxHeartbeats 8000000
namespace Mine
noncomputable def normD (d : Str) : Str := shelf (normS d)
section
variable {prog : Program} {w : World} {B : Heap} {mg mb : Str → Option Value} {n : Nat} {env : Env} {nu : List (Str × Res)} {pos : Pos}
theorem fits0 : putFits w "_mods" emptyDict := fun v t => ⟨_, _, rfl, by simp⟩
theorem fits1 (t1 : Nat) (vm : Value) : putFits w "_dirs" (igO1 w t1 vm) := fun v t => ⟨_, _, rfl, by simp⟩
theorem fits2 (t1 t2 : Nat) (vm vd : Value) : putFits w "_ignore" (igO2 w t1 t2 vm vd) := fun v t => ⟨_, _, rfl, by simp⟩
noncomputable def ext1 (w : World) (x dx : Addr) (vm : Value) : Heap → Prop := fun h => h.get? x = some (instObj 199 dx) ∧ ∃ t1, h.get? dx = some (igO1 w t1 vm)
noncomputable def ext2 (w : World) (x dx : Addr) (vm vd : Value) : Heap → Prop := fun h => h.get? x = some (instObj 199 dx) ∧ ∃ t1 t2, h.get? dx = some (igO2 w t1 t2 vm vd)
theorem init_ok (C : Cx w B mg mb) (mods dirs : List Str) (hm : mods.length ≤ 1000) (hd : dirs.length ≤ 1000) (hdir : ∀ d ∈ dirs, d.length ≤ 1000 ∧ Rooted d) : InitOk prog w B 5 mods dirs (dirs.map normD) := by
  intro x dx hne
  refine OPG.fun (xs := ["self", "modules", "dirs"]) C 189 ⟨_, rfl, rfl⟩ rfl (by decide +kernel) rfl rfl (fun s vs X hv => by obtain ⟨v0, v1, v2, rfl⟩ := lenV3 hv; exact binds_K X rfl rfl rfl rfl rfl) rfl (by decide +kernel) (by decide +kernel) (by decide +kernel) fun L => ?_
  simp only [slotsOf, List.zip_cons_cons, List.zip_nil_left, List.map_cons, List.map_nil]
  apply GF.cons; apply GF.attrSet (x := x) (dx := dx) (gs := []) (r := .hp (SetP prog w mods)) (xtV := ext1 w x dx) C
  case he =>
    apply EV.ifexp (t := mods.isEmpty)
    case h =>
      apply TV.eq
      case h =>
        o_facts C
        o_facts S; all_goals try first | assumption | decide | exact IntMulOk.of_right (by decide +kernel) | (intro _; exact rfl) | (simp only [lens] at *; omega) | simp [sizeLine_eq] <;> omega
      cases mods <;> rfl
    case ha =>
      intro hb
      have : mods = [] := List.isEmpty_iff.mp hb
      subst this
      apply EV.call (rs := [])
      case ho => exact OP.set0
      case hf => o_facts C
      case hk => exact .type _
      case h => exact .nil
      case he => rfl
    case hb =>
      intro hb
      apply EV.call (rs := [.d (txts mods)])
      case ho => exact OP.setL hm
      case hf => o_facts C
      case hk => exact .type _
      case h => o_facts C
      case he => rfl
  case hy => o_facts M
  case up => intro v; o_facts U
  case hZ => exact .inr rfl
  case ht => exact ig_t1 w
  case hl => exact fun h hx => ⟨hx.1, emptyDict, hx.2, ig0, fits0, fun v t h' hd hs => ⟨(hs.2 x hne).trans hx.1, t, hd⟩⟩
  case hs => exact fun v h h' hx k => ⟨k _ _ (.inl rfl) hx.1, let ⟨t, e⟩ := hx.2; ⟨t, k _ _ (.inr rfl) e⟩⟩
  case p =>
    intro vm
    apply GF.cons; apply GF.attrSet (x := x) (dx := dx) (gs := [(vm, .hp (SetP prog w mods))]) (r := .d (txts (dirs.map normD))) (xtV := ext2 w x dx vm) C
    case he =>
      apply EV.ifexp (t := dirs.isEmpty)
      case h =>
        apply TV.eq
        case h =>
          o_facts C
          o_facts S; all_goals try first | assumption | decide | exact IntMulOk.of_right (by decide +kernel) | (intro _; exact rfl) | (simp only [lens] at *; omega) | simp [sizeLine_eq] <;> omega
        cases dirs <;> rfl
      case ha =>
        intro hb
        have : dirs = [] := List.isEmpty_iff.mp hb
        subst this
        o_facts C
        exact EVds.nil
      case hb =>
        intro hb
        apply EV.eq
        case h =>
          apply EV.listcomp (L₀ := dirs) (ρ := fun d => .d (.str d)) (f := fun d => some (.str (normD d))) (nuC := [])
          case it =>
            apply IT.eq'
            case h =>
              apply IT.list
              o_facts C
            exact List.map_map
          case C => exact CompOk.of [] .nil rfl rfl (by decide +kernel) (by decide +kernel) .nil (by decide +kernel) (by first | exact .inl rfl | exact .inr rfl)
          case hsz => rw [sizeLine_eq]; omega
          case body =>
            intro d hd cs' L'
            refine ⟨TVs.nil rfl, fun e he => ?_⟩
            cases he
            apply EV.call (rs := [.d (.str d)])
            case ho => exact normpathP_ok C d (hdir d hd).2
            case hf => o_facts C
            case hk => o_facts C
            case h => o_facts C
            case he => rfl
        show Res.d (.list _) = Res.d (.list ((dirs.map normD).map .str))
        rw [List.map_map, List.filterMap_eq_map']
        rfl
    case hy => o_facts M
    case up => intro v; o_facts U
    case hZ => exact .inr rfl
    case ht => exact ig_t2 w
    case hl => exact fun h hx => ⟨hx.1, let ⟨t, e⟩ := hx.2; ⟨_, e, ig1 .., fits1 _ _, fun v t' h' hd hs => ⟨(hs.2 x hne).trans hx.1, t, t', hd⟩⟩⟩
    case hs => exact fun v h h' hx k => ⟨k _ _ (.inl rfl) hx.1, let ⟨t, t', e⟩ := hx.2; ⟨t, t', k _ _ (.inr rfl) e⟩⟩
    case p =>
      intro vd
      apply GF.cons; apply GF.attrDict (x := x) (dx := dx) (gs := igs prog w ⟨x, dx, 0, vm, vd⟩ mods (dirs.map normD)) (k := "<string>") (j := 1) (xtD := fun di => IgExt prog w ⟨x, dx, di, vm, vd⟩ g0 1) C
      case he => exact EDict.one C
      case hy => exact .head _
      case hZ => exact .inr rfl
      case ht => exact ig_t3 w
      case hl =>
        rintro h ⟨h1, t1, t2, h2⟩
        refine ⟨h1, _, h2, ig2 .., fits2 _ _ _ _, fun di t h' hsy nz hD hd k => ⟨⟨fun e => nz (.inl e.symm), fun e => nz (.inr e.symm)⟩, k x _ hne (.inl rfl) h1, ⟨t1, t2, t, hd⟩, hsy, ?_⟩⟩
        obtain ⟨t', hD⟩ := hD
        refine ⟨_, hD, fun k => ?_, Nat.le_refl _⟩
        unfold g0
        by_cases hk : k = "<string>"
        · subst hk; rw [if_pos rfl]; exact ⟨t', by simp [valueAt]⟩
        · rw [if_neg hk]
          have : ¬ ("<string>" : Str) = k := fun e => hk e.symm
          simp [valueAt, this]
      case hs => exact fun di nz h h' hx k => hx.at fun a o z => k a o (by rcases z with z | z | z; exact .inl (.inl z); exact .inl (.inr z); exact .inr z)
      case p =>
        intro di nz
        apply GF.nil
        exact ⟨.d .none, igs prog w ⟨x, dx, di, vm, vd⟩ mods (dirs.map normD), ⟨⟨x, dx, di, vm, vd⟩, rfl, rfl, funext fun a => propext or_assoc, rfl, rfl, rfl⟩, fun _ _ => Rd.none, .inr ⟨"self", x, .head _⟩⟩
end
end Mine
end
section
open PySem PySem.W PyProof.Rows PySem.Calls
set_option maxHeartbeats 8000000
namespace Mine
noncomputable def reprD (j : Nat) : Str := Str.ofString (toString ((j : Nat) : Int))
noncomputable def dotsOf (rows : List Row) (n : Nat) : Str := Str.join "." ((rows[n]?.map (·.ws)).getD [])
structure Ask where
  mods1 : List Str
  dirs1 : List Str
  mods2 : List Str
  dirs2 : List Str
noncomputable abbrev Memo := Str → Option Nat
noncomputable def toldStep (a : Ask) (s : List Str × Memo × Memo) (p : Option Str × Str) : List Str × Memo × Memo :=
  (s.1 ++ [reprD (namesS s.2.1 a.mods1 a.dirs1 p.1 p.2) ++ reprD (namesS s.2.2 a.mods2 a.dirs2 p.1 p.2)], memoS s.2.1 a.mods1 a.dirs1 p.1 p.2, memoS s.2.2 a.mods2 a.dirs2 p.1 p.2)
noncomputable def askOf (rows : List Row) (plains : List Str) (handed : List Nat) : Ask where
  mods1 := handed.map (dotsOf rows)
  dirs1 := ([("/ab" : Str)] : List Str).map normD
  mods2 := ["ab"]
  dirs2 := (handed.map fun n => ((plains[n]?).getD ("" : Str) ++ ("/." : Str) : Str)).map normD
noncomputable def toldFiles (plains : List Str) : List (Option Str) := plains.map some ++ List.replicate plains.length none
noncomputable def toldItems (rows : List Row) (plains : List Str) : List (Option Str × Str) := (toldFiles plains).zipIdx.map fun p => (p.1, dotsOf rows (p.2 % rows.length))
noncomputable def toldS (rows : List Row) (plains : List Str) (handed : List Nat) : List Str := ((toldItems rows plains).foldl (toldStep (askOf rows plains handed)) ([], g0, g0)).1
noncomputable def Small (g : Memo) : Prop := ∀ k j, g k = some j → j ≤ 1
theorem namesS_le {g : Memo} (h : Small g) (mods dirs : List Str) (file : Option Str) (k : Str) : namesS g mods dirs file k ≤ 1 := by
  unfold namesS
  split
  · rename_i j e; exact h _ _ e
  · split <;> omega
theorem Small.memo {g : Memo} (h : Small g) (mods dirs : List Str) (file : Option Str) (k : Str) : Small (memoS g mods dirs file k) := by
  unfold memoS
  split
  · exact h
  · intro k' j e
    unfold memoPut at e
    split at e
    · cases e; split <;> omega
    · exact h _ _ e
theorem Small.g0 : Small g0 := fun k j e => by
  unfold Mine.g0 at e
  split at e <;> cases e
  exact Nat.le_refl _
theorem reprD_len {j : Nat} (h : j ≤ 1) : (reprD j).length ≤ 100 := by
  have : j = 0 ∨ j = 1 := by omega
  rcases this with rfl | rfl <;> decide +kernel
section
variable {prog : Program} {w : World} {B : Heap} {mg mb : Str → Option Value} {n k : Nat} {env : Env} {nu : List (Str × Res)} {pos : Pos} {D : Prop}
theorem rooted_ab : Rooted "/ab" := ⟨by decide +kernel, by decide +kernel, by decide +kernel⟩
theorem OPG.room {Z : Addr → Prop} {xt : Heap → Prop} {f : Value} {rs : List Res} {G : (Addr → Prop) → (Heap → Prop) → Res → List (Value × Res) → Prop} (h : OPG prog w B D n Z xt f rs G) (hk : n ≤ k) : OPG prog w B D k Z xt f rs G := ⟨fun A s X R vs r => h.run A s X R vs (r.le hk)⟩
theorem files_eq (plains : List Str) : plains.map PyData.str ++ (List.replicate plains.length [PyData.none]).flatten = (toldFiles plains).map fileD := by
  unfold toldFiles
  rw [List.map_append, List.map_map, List.map_replicate, List.flatten_replicate_singleton]
  rfl
theorem told_items_get {rows : List Row} {plains : List Str} {t : Nat} {r : Res} (h : (((plains.map PyData.str) ++ (List.replicate plains.length [PyData.none]).flatten).map Res.d)[t]? = some r) : ∃ file, (toldItems rows plains)[t]? = some (file, dotsOf rows (t % rows.length)) ∧ r = .d (fileD file) := by
  rw [files_eq, List.map_map, List.getElem?_map, Option.map_eq_some_iff] at h
  obtain ⟨file, hf, rfl⟩ := h
  refine ⟨file, ?_, rfl⟩
  unfold toldItems
  rw [List.getElem?_map, List.getElem?_zipIdx, hf]
  simp
noncomputable def extT (prog : Program) (w : World) (i1 i2 : Ig) (g1 : Memo) (m1 : Nat) (g2 : Memo) (m2 : Nat) : Heap → Prop := fun h => (True ∧ IgExt prog w i1 g1 m1 h) ∧ IgExt prog w i2 g2 m2 h
noncomputable def ZT (i1 i2 : Ig) : Addr → Prop := fun a => (False ∨ IgZ i1 a) ∨ IgZ i2 a
theorem extT.stab {i1 i2 : Ig} {g1 g2 : Memo} {m1 m2 : Nat} (h h' : Heap) (x : extT prog w i1 i2 g1 m1 g2 m2 h) (k : ∀ c o, ZT i1 i2 c → h.get? c = some o → h'.get? c = some o) : extT prog w i1 i2 g1 m1 g2 m2 h' :=
  ⟨⟨trivial, x.1.2.at fun a o z => k a o (.inl (.inr z))⟩, x.2.at fun a o z => k a o (.inr z)⟩
noncomputable def toldBase (prog : Program) (w : World) (rows : List Row) (plains : List Str) (a : Ask) (i1 i2 : Ig) (acc : List Str) : List (Str × Slot) :=
  [("rows", .r (.d (rowsD rows))), ("plains", .r (.d (txts plains))), ("modules", .r (.hp (SelfG i1.x (igs prog w i1 a.mods1 a.dirs1)))), ("folders", .r (.hp (SelfG i2.x (igs prog w i2 a.mods2 a.dirs2)))), ("told", .own (acc.map .str))]
theorem told_ok (C : Cx w B mg mb) (rows : List Row) (plains : List Str) (handed : List Nat) (hN : rows.length = plains.length) (h0 : 0 < rows.length) (h1 : rows.length ≤ 100) (hh : ∀ n ∈ handed, n < rows.length) (hl : handed.length ≤ 1000)
    (hw : ∀ r ∈ rows, r.ws.length ≤ 100 ∧ ∀ x ∈ r.ws, x.length ≤ 10) (hp : ∀ p ∈ plains, p.length ≤ 900 ∧ Rooted (p ++ "/.")) (hd1 : ∀ x ∈ (askOf rows plains handed).dirs1, x.length ≤ 2000000) (hd2 : ∀ x ∈ (askOf rows plains handed).dirs2, x.length ≤ 2000000) :
    OPD prog w B True 7 (fun vs => call (.ref 293) vs) [.d (rowsD rows), .d (txts plains), .d (nums handed)] (.d (txts (toldS rows plains handed))) := by
  refine OPD.fun (xs := ["rows", "plains", "handed"]) C 293 ⟨_, rfl, rfl⟩ rfl (by decide +kernel) rfl rfl (fun vs hv => by obtain ⟨v0, v1, v2, rfl⟩ := lenV3 hv; rfl) rfl (by decide +kernel) (by decide +kernel) (by decide +kernel) fun L => ?_
  simp only [slotsOf, List.zip_cons_cons, List.zip_nil_left, List.map_cons, List.map_nil]
  have hat : ∀ n, n < rows.length → ∃ r, rows[n]? = some r ∧ r ∈ rows ∧ dotsOf rows n = Str.join "." r.ws := fun n hn =>
    ⟨rows[n], List.getElem?_eq_getElem hn, List.getElem_mem hn, by unfold dotsOf; rw [List.getElem?_eq_getElem hn]; rfl⟩
  have hjo : ∀ r ∈ rows, JoinOk "." r.ws = true := fun r hr => joinOk_short (fun x hx => Nat.le_trans ((hw r hr).2 x hx) (by decide)) (Nat.le_trans (hw r hr).1 (by decide)) (by decide)
  apply GF.cons; apply GF.makeIg (mods := (askOf rows plains handed).mods1) (dirs := ["/ab"]) (dirs' := (askOf rows plains handed).dirs1) C
  case hi => exact init_ok C (handed.map (dotsOf rows)) [("/ab" : Str)] (by rw [List.length_map]; exact hl) (by decide) (fun d hd => by rw [List.mem_singleton.mp hd]; exact ⟨by decide, rooted_ab⟩)
  case hf => o_facts C
  case hes => rfl
  case hk => exact .inl rfl
  case up => intro i; o_facts U
  case he =>
    apply EVs.cons
    · apply EV.eq
      case h =>
        apply EV.listcomp (L₀ := handed) (ρ := fun n => .d (.int (n : Nat))) (f := fun n => some (.str (dotsOf rows n))) (nuC := [("rows", .d (rowsD rows))])
        case it =>
          apply IT.eq'
          case h =>
            apply IT.list
            o_facts C
          exact List.map_map
        case C => exact CompOk.of ["rows"] (.cons rfl .nil) rfl rfl (by decide +kernel) (by decide +kernel) (.cons rfl rfl .nil) (by decide +kernel) (by first | exact .inl rfl | exact .inr rfl)
        case hsz => rw [sizeLine_eq]; omega
        case body =>
          intro n hn cs' L'
          refine ⟨TVs.nil rfl, fun e he => ?_⟩
          cases he
          obtain ⟨r, hr, hrm, hd⟩ := hat n (hh n hn)
          have hx : (rows.map rowD)[((n : Nat) : Int).toNat]? = some (rowD r) := by rw [Int.toNat_natCast, List.getElem?_map, hr]; rfl
          have hjr := hjo r hrm
          have hn2 := hh n hn
          apply EV.eq
          case h =>
            o_facts C
            all_goals (first | exact hx | exact hjr | exact rfl | exact HasItems.list | exact Nat.zero_le _ | decide | omega)
          rw [hd]
      show Res.d (.list _) = Res.d (.list ((handed.map (dotsOf rows)).map .str))
      rw [List.map_map, List.filterMap_eq_map']
      rfl
    · exact EVs.cons (EV.listD (.cons EV.cstr .nil) rfl (by decide +kernel)) .nil
  case p =>
    intro i1 nz1
    apply GF.cons; apply GF.makeIg (mods := (askOf rows plains handed).mods2) (dirs := handed.map fun n => ((plains[n]?).getD ("" : Str) ++ ("/." : Str) : Str)) (dirs' := (askOf rows plains handed).dirs2) C
    case hi =>
      refine init_ok C [("ab" : Str)] _ (by decide) (by rw [List.length_map]; exact hl) (fun d hd => ?_)
      obtain ⟨n, hn, rfl⟩ := List.mem_map.mp hd
      have hn2 : n < plains.length := hN ▸ hh n hn
      rw [List.getElem?_eq_getElem hn2, Option.getD_some]
      have := hp _ (List.getElem_mem hn2)
      exact ⟨this.2.len, this.2⟩
    case hf => o_facts C
    case hes => rfl
    case hk => exact .inl rfl
    case up => intro i; o_facts U
    case he =>
      apply EVs.cons (EV.listD (ds := [.str "ab"]) (.cons EV.cstr .nil) rfl (by decide +kernel))
      refine EVs.cons ?_ .nil
      apply EV.eq
      case h =>
        apply EV.listcomp (L₀ := handed) (ρ := fun n => .d (.int (n : Nat))) (f := fun n => some (.str ((plains[n]?).getD ("" : Str) ++ ("/." : Str)))) (nuC := [("plains", .d (txts plains))])
        case it =>
          apply IT.eq'
          case h =>
            apply IT.list
            o_facts C
          exact List.map_map
        case C => exact CompOk.of ["plains"] (.cons rfl .nil) rfl rfl (by decide +kernel) (by decide +kernel) (.cons rfl rfl .nil) (by decide +kernel) (by first | exact .inl rfl | exact .inr rfl)
        case hsz => rw [sizeLine_eq]; omega
        case body =>
          intro n hn cs' L'
          refine ⟨TVs.nil rfl, fun e he => ?_⟩
          cases he
          have hn2 : n < plains.length := hN ▸ hh n hn
          have hpl := (hp _ (List.getElem_mem hn2)).1
          have hg : plains[n]? = some plains[n] := List.getElem?_eq_getElem hn2
          generalize plains[n] = p at hpl hg
          have hx : (plains.map PyData.str)[((n : Nat) : Int).toNat]? = some (.str p) := by rw [Int.toNat_natCast, List.getElem?_map, hg]; rfl
          apply EV.eq
          case h =>
            o_facts C
            all_goals (first | exact hx | exact rfl | exact HasItems.list | exact Nat.zero_le _ | decide | (simp only [sizeLine_eq, len_slashdot] at *; omega) | omega)
          rw [hg, Option.getD_some]
      show Res.d (.list _) = Res.d (.list ((handed.map fun n => ((plains[n]?).getD ("" : Str) ++ ("/." : Str) : Str)).map .str))
      rw [List.map_map, List.filterMap_eq_map']
      rfl
    case p =>
      intro i2 nz2
      apply GF.consS; apply SF.ownL
      case hk => exact .inl rfl
      case up => o_facts U
      have hdis : ∀ a, IgZ i1 a → ¬ IgZ i2 a := fun a h1 h2 => nz2 a h2 (.inr h1)
      apply GF.cons; apply GF.for (fun t Z st => Z = ZT i1 i2 ∧ ∃ acc g1 g2 m1 m2, ((toldItems rows plains).take t).foldl (toldStep (askOf rows plains handed)) ([], g0, g0) = (acc, g1, g2) ∧ acc.length = t ∧ m1 ≤ t + 1 ∧ m2 ≤ t + 1 ∧ Small g1 ∧ Small g2 ∧ st.ext = extT prog w i1 i2 g1 m1 g2 m2 ∧ (toldBase prog w rows plains (askOf rows plains handed) i1 i2 acc).Sublist st.loc)
      case it =>
        apply IT.list
        apply EV.binop (a := .d (txts plains)) (b := .d (.list (List.replicate plains.length [PyData.none]).flatten))
        case hl => o_facts C
        case hr =>
          apply EV.binop (a := .d (.list [.none])) (b := .d (.int (plains.length : Nat)))
          case hl => exact EV.listD (.cons EV.cnone .nil) rfl (by decide +kernel)
          case hr =>
            apply EV.eq
            case h =>
              o_facts C
              o_facts S; all_goals try first | assumption | decide | exact IntMulOk.of_right (by decide +kernel) | (intro _; exact rfl) | (simp only [lens] at *; omega) | simp [sizeLine_eq] <;> omega
            rw [List.length_map]
          case ho => exact OP.lrep (by rw [List.length_singleton]; omega) (by omega)
        case ho =>
          apply OP.ladd
          rw [List.length_map, List.length_flatten, sizeLine_eq]
          simp
          omega
      case h0 =>
        refine ⟨rfl, [], g0, g0, 1, 1, rfl, rfl, Nat.le_refl _, Nat.le_refl _, Small.g0, Small.g0, rfl, ?_⟩
        unfold toldBase
        rw [List.map_nil]
        o_facts L
      case turn =>
        rintro t r Z ⟨l, xt⟩ hr ⟨rfl, acc, g1, g2, m1, m2, HH⟩
        have hf := HH.1
        have hal := HH.2.1
        have hm1 := HH.2.2.1
        have hm2 := HH.2.2.2.1
        have s1 := HH.2.2.2.2.1
        have s2 := HH.2.2.2.2.2.1
        have hxt := HH.2.2.2.2.2.2.1
        have hs := HH.2.2.2.2.2.2.2
        clear HH
        cases hxt
        obtain ⟨file, hit, rfl⟩ := told_items_get hr
        have htl : t < 1000 := by
          have h := (List.getElem?_eq_some_iff.mp hit).1
          simp only [toldItems, toldFiles, List.length_map, List.length_zipIdx, List.length_append, List.length_replicate] at h
          omega
        have hfn : ((toldItems rows plains).take (t + 1)).foldl (toldStep (askOf rows plains handed)) ([], g0, g0) = toldStep (askOf rows plains handed) (acc, g1, g2) (file, dotsOf rows (t % rows.length)) := by
          rw [foldl_at hit, hf]
        obtain ⟨row, hrow, hrm, hdots⟩ := hat (t % rows.length) (Nat.mod_lt _ h0)
        have hjr := hjo row hrm
        generalize dotsOf rows (t % rows.length) = dots at *
        unfold toldBase at hs
        apply turnG_
        case a =>
          apply AS.weaken hs
          apply AS.nameL (.inl rfl)
          o_facts U
        have hix : (rows.map rowD)[((((acc.map PyData.str).length : Nat) : Int).fmod (((rows.map rowD).length : Nat) : Int)).toNat]? = some (rowD row) := by
          rw [fmod_nat, Int.toNat_natCast, List.length_map, List.length_map, hal, List.getElem?_map, hrow]; rfl
        have hir : (((rows.map rowD).length : Nat) : Int) ≠ 0 := by rw [List.length_map]; omega
        have hi0 : (0 : Int) ≤ (((acc.map PyData.str).length : Nat) : Int).fmod (((rows.map rowD).length : Nat) : Int) := by rw [fmod_nat]; exact Int.natCast_nonneg _
        have hi1 : (((acc.map PyData.str).length : Nat) : Int).fmod (((rows.map rowD).length : Nat) : Int) < 2 ^ 63 := by
          rw [fmod_nat, List.length_map, List.length_map, hal]
          have := Nat.mod_lt t h0
          omega
        apply GF.consS; apply SF.assignBL (r := .d (.str dots))
        case hk => exact .inl rfl
        case hr => exact Scal.str
        case he =>
          apply EV.eq
          case h =>
            o_facts C
            all_goals (try (first | exact hix | exact hi0 | exact hi1 | exact hir | exact hjr | exact rfl | exact HasItems.list | decide))
            all_goals (rw [List.length_map, sizeLine_eq]; omega)
          rw [hdots]
        case up => o_facts U
        have hm1l : ∀ x ∈ (askOf rows plains handed).mods1, x.length ≤ 2000000 := fun x hx => by
          obtain ⟨n, hn, rfl⟩ := List.mem_map.mp hx
          obtain ⟨r, _, hrm, hd⟩ := hat n (hh n hn)
          rw [hd]
          exact Nat.le_trans (join_short (fun x hx => Nat.le_trans ((hw r hrm).2 x hx) (by decide)) (Nat.le_trans (hw r hrm).1 (by decide)) (by decide)) (by decide)
        have hm2l : ∀ x ∈ (askOf rows plains handed).mods2, x.length ≤ 2000000 := fun x hx => by
          rw [List.mem_singleton.mp hx]; decide
        have V1 : ∀ h, extT prog w i1 i2 g1 m1 g2 m2 h → IgExt prog w i1 g1 m1 h := fun h x => x.1.2
        generalize hA : askOf rows plains handed = a at *
        apply GF.cons; apply GF.appendGE (P := fun r xt' => ∃ m1' m2', m1' ≤ t + 1 + 1 ∧ m2' ≤ t + 1 + 1 ∧ r = .d (.str (reprD (namesS g1 a.mods1 a.dirs1 file dots) ++ reprD (namesS g2 a.mods2 a.dirs2 file dots))) ∧ xt' = extT prog w i1 i2 (memoS g1 a.mods1 a.dirs1 file dots) m1' (memoS g2 a.mods2 a.dirs2 file dots) m2')
        case hx => o_facts M
        case up => intro t; o_facts U
        case hl => rw [List.length_map, hal, sizeLine_eq]; omega
        case he =>
          apply GE.add (P1 := fun r xt' => ∃ m1', m1' ≤ t + 1 + 1 ∧ r = .d (.str (reprD (namesS g1 a.mods1 a.dirs1 file dots))) ∧ xt' = extT prog w i1 i2 (memoS g1 a.mods1 a.dirs1 file dots) m1' g2 m2)
          case h1 =>
            apply GE.repr C (P1 := fun r xt' => ∃ m1', m1' ≤ t + 1 + 1 ∧ r = .d (.int (namesS g1 a.mods1 a.dirs1 file dots : Nat)) ∧ xt' = extT prog w i1 i2 (memoS g1 a.mods1 a.dirs1 file dots) m1' g2 m2)
            case hf => o_facts C
            case hs => rfl
            case hp => rintro r xt ⟨m', h1, rfl, rfl⟩; exact ⟨_, namesS_le s1 _ _ _ _, rfl, m', h1, rfl, rfl⟩
            case h =>
              apply GE.names (i := i1) (g := g1) (m := m1) (mods := a.mods1) (dirs := a.dirs1) (file := file) (k := dots) (xtM := fun m' => extT prog w i1 i2 (memoS g1 a.mods1 a.dirs1 file dots) m' g2 m2) C
              case hn => exact OPG.room (names_ok C i1 a.mods1 a.dirs1 g1 m1 file dots (by omega) hm1l hd1) (by decide)
              case hy => o_facts M
              case hz => exact fun a z => .inl (.inr z)
              case hx => exact V1
              case h1 => o_facts C
              case h2 => o_facts C
              case hes => rfl
              case hxt => exact fun m' h h' _ x k y => ⟨⟨trivial, y⟩, x.2.at fun b o z => k b o fun z1 => hdis b z1 z⟩
              case hs => exact fun m' h h' _ x k => x.stab h h' k
              case p => exact fun m' h => ⟨m', by omega, rfl, rfl⟩
              case he => rfl
          case h2 =>
            rintro r xt ⟨m1', hm1', rfl, rfl⟩
            refine ⟨_, reprD_len (namesS_le s1 _ _ _ _), rfl, ?_⟩
            apply GE.repr C (P1 := fun r xt' => ∃ m2', m2' ≤ t + 1 + 1 ∧ r = .d (.int (namesS g2 a.mods2 a.dirs2 file dots : Nat)) ∧ xt' = extT prog w i1 i2 (memoS g1 a.mods1 a.dirs1 file dots) m1' (memoS g2 a.mods2 a.dirs2 file dots) m2')
            case hf => o_facts C
            case hs => rfl
            case hp => rintro r xt ⟨m', h1, rfl, rfl⟩; exact ⟨_, namesS_le s2 _ _ _ _, rfl, _, reprD_len (namesS_le s2 _ _ _ _), rfl, m1', m', hm1', h1, rfl, rfl⟩
            case h =>
              apply GE.names (i := i2) (g := g2) (m := m2) (mods := a.mods2) (dirs := a.dirs2) (file := file) (k := dots) (xtM := fun m' => extT prog w i1 i2 (memoS g1 a.mods1 a.dirs1 file dots) m1' (memoS g2 a.mods2 a.dirs2 file dots) m') C
              case hn => exact OPG.room (names_ok C i2 a.mods2 a.dirs2 g2 m2 file dots (by omega) hm2l hd2) (by decide)
              case hy => o_facts M
              case hz => exact fun a z => .inr z
              case hx => exact fun h x => x.2
              case h1 => o_facts C
              case h2 => o_facts C
              case hes => rfl
              case hxt => exact fun m' h h' _ x k y => ⟨⟨trivial, x.1.2.at fun b o z => k b o fun z2 => hdis b z z2⟩, y⟩
              case hs => exact fun m' h h' _ x k => x.stab h h' k
              case p => exact fun m' h => ⟨m', by omega, rfl, rfl⟩
              case he => rfl
        case p =>
          rintro r xt ⟨m1', m2', h1, h2, rfl, rfl⟩
          refine ⟨_, rfl, ?_⟩
          apply GF.nil
          refine ⟨rfl, acc ++ [reprD (namesS g1 a.mods1 a.dirs1 file dots) ++ reprD (namesS g2 a.mods2 a.dirs2 file dots)], _, _, m1', m2', hfn, by rw [List.length_append, hal]; rfl, h1, h2, s1.memo _ _ _ _, s2.memo _ _ _ _, rfl, ?_⟩
          unfold toldBase
          rw [List.map_append, List.map_cons, List.map_nil]
          o_facts L
      case fin =>
        rintro Z ⟨l, xt⟩ ⟨rfl, acc, g1, g2, m1, m2, HH⟩
        have hf := HH.1
        have hal := HH.2.1
        have hm1 := HH.2.2.1
        have hm2 := HH.2.2.2.1
        have s1 := HH.2.2.2.2.1
        have s2 := HH.2.2.2.2.2.1
        have hxt := HH.2.2.2.2.2.2.1
        have hs := HH.2.2.2.2.2.2.2
        clear HH
        cases hxt
        apply GF.nil
        apply GF.weaken hs
        unfold toldBase
        apply GF.consS; apply SF.ret
        case he => o_facts C
        have e : toldS rows plains handed = acc := by
          unfold toldS
          rw [List.take_of_length_le (by simp [toldItems, toldFiles])] at hf
          rw [hf]
        rw [e]
        exact Gives.ret _ _
end
end Mine
end
section
open PySem PySem.W PyProof.Rows PySem.Calls
set_option maxRecDepth 100000
namespace Mine
theorem slot_map_init : PySem.Slot "map" "__init__" "object.__init__" :=
  .of (owner := "object") (n := "__init__") (by rw [typeLookup_type, builtinLookup_eq_fast]; kernel_rfl) (by decide +kernel) (by decide +kernel) (by decide +kernel) (by first | exact .inl (by decide +kernel) | exact .inr (by decide +kernel)) (by rw [isSubtype_type]; kernel_rfl)
theorem slot_map_iter : PySem.Slot "map" "__iter__" "map.__iter__" :=
  .of (owner := "map") (n := "__iter__") (by rw [typeLookup_type, builtinLookup_eq_fast]; kernel_rfl) (by decide +kernel) (by decide +kernel) (by decide +kernel) (by first | exact .inl (by decide +kernel) | exact .inr (by decide +kernel)) (by rw [isSubtype_type]; kernel_rfl)
theorem slot_map_next : PySem.Slot "map" "__next__" "map.__next__" :=
  .of (owner := "map") (n := "__next__") (by rw [typeLookup_type, builtinLookup_eq_fast]; kernel_rfl) (by decide +kernel) (by decide +kernel) (by decide +kernel) (by first | exact .inl (by decide +kernel) | exact .inr (by decide +kernel)) (by rw [isSubtype_type]; kernel_rfl)
theorem mro_map : mroOf (.type "map") = pure [.type "map", .type "object"] := by rw [mroOf_type]; kernel_rfl
theorem lookup_map_new : typeLookup (.type "map") "__new__" = pure (some (.builtin "map.__new__")) := by rw [typeLookup_type, builtinLookup_eq_fast]; kernel_rfl
theorem called_map : TypeCalled "map" "map.__new__" "object.__init__" :=
  ⟨by decide +kernel, by decide +kernel, ⟨_, _, mro_map⟩, madeBy_type mro_map lookup_map_new (by decide +kernel), by decide +kernel, by rw [isSubtype_type]; kernel_rfl, slot_map_init⟩
theorem typeCall_map_2 (a b : Value) : checkTypeCall "map" ⟨[a, b], []⟩ = pure () := by kernel_rfl
theorem newCall_map_2 (a b : Value) : checkBuiltinCall "map.__new__" ⟨[.type "map", a, b], []⟩ = pure () := by kernel_rfl
theorem entry_map_new : entryFor table "map.__new__" = some Builtin.«map.__new__» := entryFor_of_tree (by kernel_rfl)
theorem entry_map_next : entryFor table "map.__next__" = some Builtin.«map.__next__» := entryFor_of_tree (by kernel_rfl)
theorem entry_map_iter : entryFor table "map.__iter__" = some Builtin.«dict_keyiterator.__iter__» :=
  entryFor_alias (id' := "dict_keyiterator.__iter__") (by kernel_rfl) (by first | rfl | decide +kernel | (unfold String.splitOn; simp +decide [String.splitOnAux])) (by decide +kernel) (by kernel_rfl)
theorem owner_map : Manifest.owners.lookup (String.ofList ['p', 'a', 'm'].reverse) = some Manifest.sig_map := by kernel_rfl
theorem args_map_next (a : Value) : argsOk "map.__next__" ⟨[a], []⟩ := by
  unfold argsOk; rw [signature?_of (id := "map.__next__") (n := ['_', '_', 't', 'x', 'e', 'n', '_', '_']) (o := ['p', 'a', 'm']) (by kernel_rfl) owner_map]; kernel_rfl
theorem args_map_iter (a : Value) : argsOk "map.__iter__" ⟨[a], []⟩ := by
  unfold argsOk; rw [signature?_of (id := "map.__iter__") (n := ['_', '_', 'r', 'e', 't', 'i', '_', '_']) (o := ['p', 'a', 'm']) (by kernel_rfl) owner_map]; kernel_rfl
theorem sub_map : isSubtype (.type "map") (.type "map") = pure true := by rw [isSubtype_type]; kernel_rfl
theorem map_no_len : typeLookup (.type "map") "__len__" = pure none := by rw [typeLookup_type, builtinLookup_eq_fast]; kernel_rfl
theorem map_no_hint : typeLookup (.type "map") "__length_hint__" = pure none := by rw [typeLookup_type, builtinLookup_eq_fast]; kernel_rfl
noncomputable abbrev IsMap (h : Heap) (I T : Addr) (f : Value) : Prop := h.get? I = some { cls := .type "map", data := .fields #[.ref T, f] }
noncomputable def mapH1 (h : Heap) (l : Addr) : Heap := h.push { cls := .type "list_iterator", data := .fields #[.ref l, .int 0 0] }
noncomputable def mapH2 (h : Heap) (l : Addr) : Heap := (mapH1 h l).push { cls := .type "tuple", data := .seq #[.ref h.objs.size] }
noncomputable def mapH3 (h : Heap) (l : Addr) (f : Value) : Heap := (mapH2 h l).push { cls := .type "map", data := .fields #[.ref (mapH1 h l).objs.size, f] }
theorem meets_map_new (l : Addr) (f : Value) (xs : Array Value) :
    Meets (Builtin.«map.__new__» ⟨[.type "map", f, .ref l], []⟩) (fun _ R s => s.heap.IsList l xs ∧ R (.ok (.ret (.ref (mapH2 s.heap l).objs.size))) { s with heap := mapH3 s.heap l f }) :=
  .of_wp fun prog w A R s h => by
    obtain ⟨hp, g, d, tk, os⟩ := s; obtain ⟨hl, h⟩ := h
    have hsub := sub_map
    have hL : Heap.IsList (Shared.heap ⟨hp, g, d, tk, os⟩) l xs := hl
    wp_walk using wpAny_pyIter_list hL
    exact ⟨_, rfl, h⟩
theorem call_map {prog : Program} {w : World} {A : Around} {E : Value → Shared → Prop} {s : Shared} {l : Addr} {f : Value} {xs : Array Value} {Q : Value → Shared → Prop} (hl : s.heap.IsList l xs)
    (h : ∀ h', IsMap h' (s.heap.objs.size + 2) (s.heap.objs.size + 1) f → h'.get? (s.heap.objs.size + 1) = some { cls := .type "tuple", data := .seq #[.ref s.heap.objs.size] } → h'.IsListIter s.heap.objs.size l 0 → Ext s.heap h' → h'.objs.size = s.heap.objs.size + 3 → Q (.ref (s.heap.objs.size + 2)) { s with heap := h' }) :
    wpAny (model prog w) A (call (.type "map") [f, .ref l]) Q E s := by
  refine callType_new called_map (by decide) (typeCall_map_2 _ _) (newCall_map_2 _ _) (fun obj => F.args_object_init_3 obj _ _) entry_map_new (meets_map_new l f xs) ⟨hl, ?_⟩
  have z1 : (mapH1 s.heap l).objs.size = s.heap.objs.size + 1 := Heap.size_push ..
  have z2 : (mapH2 s.heap l).objs.size = s.heap.objs.size + 2 := by rw [mapH2, Heap.size_push, z1]
  have z3 : (mapH3 s.heap l f).objs.size = s.heap.objs.size + 3 := by rw [mapH3, Heap.size_push, z2]
  have g3 : (mapH3 s.heap l f).get? (mapH2 s.heap l).objs.size = some _ := Heap.get?_push_size _ rfl
  have g2 : (mapH3 s.heap l f).get? (mapH1 s.heap l).objs.size = some _ := Heap.get?_push_of_some _ (Heap.get?_push_size _ rfl)
  have g1 : (mapH3 s.heap l f).get? s.heap.objs.size = some _ := Heap.get?_push_of_some _ (Heap.get?_push_of_some _ (Heap.get?_push_size _ rfl))
  rw [z2, z1] at g3
  rw [z1] at g2
  show _ ∧ _
  rw [z2]
  exact ⟨⟨_, g3, rfl⟩, h _ g3 g2 ⟨_, g1, rfl, rfl⟩ (((Ext.push _ _).pushR _).pushR _) z3⟩
end Mine
end
section
open PySem PySem.W PyProof.Rows PySem.Calls
set_option maxRecDepth 100000
namespace Mine
theorem Room.near {n : Nat} {A A' : Around} (R : Room (n + 1) A) (h1 : A'.handled = A.handled) (h2 : A'.guards = A.guards) (hd : A'.depth ≤ A.depth + 4) (hu : A'.units ≤ A.units + 100) : Room n A' :=
  ⟨h1.trans R.1, h2.trans R.2, Nat.le_trans (Nat.add_le_add_right hd (4 * n)) (room_up (b := 0) (Nat.le_refl 4) R.3), Nat.le_trans (Nat.add_le_add_right (Nat.add_le_add_right hu (100 * n)) 500) (room_up (Nat.le_refl 100) R.4)⟩
section
variable {prog : Program} {w : World} {A : Around} {E : Value → Shared → Prop} {s : Shared}
theorem map_next {I T it l : Addr} {f x : Value} {i : Nat} {items : Array Value} {Q : Option Value → Shared → Prop} (hM : IsMap s.heap I T f) (hT : s.heap.get? T = some { cls := .type "tuple", data := .seq #[.ref it] }) (hit : s.heap.IsListIter it l i) (hl : s.heap.IsList l items) (hx : items[i]? = some x) (hne : I ≠ it)
    (hcall : ∀ h₁ E', h₁.IsListIter it l (i + 1) → Heap.SameBut it s.heap h₁ → wpAny (model prog w) A.in1 (call f [x]) (fun v s₂ => Q (some v) s₂) E' { s with heap := h₁ }) : wpAny (model prog w) A (pyNext (.ref I)) Q E s := by
  have hTy : s.TypeIs (.ref I) "map" := ⟨_, hM, rfl⟩
  unfold pyNext
  refine wpAny_bind (wpAny_attempt (wpAny_callSpecial?_slot (name := Str.ofString "__next__") hTy slot_map_next (wpAny_call_entry slot_map_next hTy entry_map_next ?_ (args_map_next _))))
  show wpAny _ _ (field (.ref I) 0 >>= _) _ _ s
  refine wpAny_bind (wpAny_field hM rfl (x := .ref T) rfl ?_)
  refine wpAny_bind (wpAny_seqItems hT rfl ?_)
  refine wpAny_bind ?_
  simp only [List.forIn_toArray, List.forIn_cons, List.forIn_nil]
  refine wpAny_bind (wpAny_bind (wpAny_holding ?_))
  refine wpAny_nextOf_list_item hit hl hx fun h₁ hit₁ hs₁ => ?_
  refine wpAny_pure (wpAny_pure ?_)
  refine wpAny_bind (wpAny_field (hs₁.extBut _ _ hne hM) rfl (x := f) rfl ?_)
  refine wpAny_bind (wpAny_holding ?_)
  refine wpAny_mono (hcall h₁ _ hit₁ hs₁) (fun v s₂ hq => ?_) fun _ _ e => e
  exact wpAny_bind (wpAny_letGo (wpAny_pure ⟨_, rfl, wpAny_pure hq⟩))
theorem map_end {I T it l : Addr} {f : Value} {i : Nat} {items : Array Value} {Q : Option Value → Shared → Prop} (hh : A.handled = none) (hM : IsMap s.heap I T f) (hT : s.heap.get? T = some { cls := .type "tuple", data := .seq #[.ref it] }) (hit : s.heap.IsListIter it l i) (hl : s.heap.IsList l items) (hx : items[i]? = none)
    (hQ : ∀ h', Heap.ExtBut it s.heap h' → Q none { s with heap := h' }) : wpAny (model prog w) A (pyNext (.ref I)) Q E s := by
  have hTy : s.TypeIs (.ref I) "map" := ⟨_, hM, rfl⟩
  unfold pyNext
  refine wpAny_bind (wpAny_attempt (wpAny_callSpecial?_slot (name := Str.ofString "__next__") hTy slot_map_next (wpAny_call_entry slot_map_next hTy entry_map_next ?_ (args_map_next _))))
  show wpAny _ _ (field (.ref I) 0 >>= _) _ _ s
  refine wpAny_bind (wpAny_field hM rfl (x := .ref T) rfl ?_)
  refine wpAny_bind (wpAny_seqItems hT rfl ?_)
  refine wpAny_bind ?_
  simp only [List.forIn_toArray, List.forIn_cons, List.forIn_nil]
  refine wpAny_bind (wpAny_bind (wpAny_holding ?_))
  refine wpAny_nextOf_list_end hh hit hl hx fun h' e he ⟨o, ho, hc⟩ => ?_
  exact wpAny_bind (wpAny_isInstance (T := "StopIteration") (b := true) ⟨o, ho, hc⟩ isSubtype_stop (wpAny_pure (hQ _ he)))
theorem map_self {I T : Addr} {f : Value} {Q : Value → Shared → Prop} (hM : IsMap s.heap I T f) (h : Q (.ref I) s) : wpAny (model prog w) A (pyIter (.ref I)) Q E s := by
  have hTy : s.TypeIs (.ref I) "map" := ⟨_, hM, rfl⟩
  refine wpAny_pyIter_slot hTy slot_map_iter (wpAny_call_entry slot_map_iter hTy entry_map_iter ?_ (args_map_iter _))
  show wpAny _ _ (ret (.ref I)) _ _ s
  exact wpAny_pure ⟨_, rfl, "map", _, hTy, slot_map_next.lookup, h⟩
theorem ext_loop {R : Result → Shared → Prop} {S I : Addr} {res : Value} (J : Nat → Heap → Prop) (K : Heap → Prop) (P : Nat → Value → Prop) (n : Nat) (hn : n ≤ sizeLine) (keepS : ∀ i h h', J i h → Heap.SameBut S h h' → J i h')
    (item : ∀ (i : Nat) (s : Shared) (Q : Option Value → Shared → Prop) (E : Value → Shared → Prop), i < n → J i s.heap → (∀ v h' tk, P i v → J (i + 1) h' → (∀ o, s.heap.get? S = some o → h'.get? S = some o) → Q (some v) { s with heap := h', toks := tk }) → wpAny (model prog w) A.in1 (pyNext (.ref I)) Q E s)
    (done : ∀ (s : Shared) (Q : Option Value → Shared → Prop) (E : Value → Shared → Prop), J n s.heap → (∀ h' tk, K h' → (∀ o, s.heap.get? S = some o → h'.get? S = some o) → Q none { s with heap := h', toks := tk }) → wpAny (model prog w) A.in1 (pyNext (.ref I)) Q E s) :
    ∀ (k i : Nat) (s : Shared) (acc : Array Value) (c : Nat), n - i = k → i ≤ n → J i s.heap → s.heap.get? S = some { cls := .type "list", dict := none, data := .seq acc c, slots := #[] } → ItemsOf P acc i →
    (∀ h' tk acc' c', K h' → h'.get? S = some { cls := .type "list", dict := none, data := .seq acc' c', slots := #[] } → ItemsOf P acc' n → R (.ok (.ret res)) { s with heap := h', toks := tk }) →
    codeAny (model prog w) A (.builtin "list.extend.loop" ⟨[.ref S, .ref I, res], []⟩) R s := by
  intro k
  induction k with
  | zero =>
    intro i s acc c hk hi hJ hS hacc hR
    obtain rfl : i = n := by omega
    refine codeAny_builtin F.entry_extend_loop ?_
    rw [Around.under_plainId F.plain_extend_loop _]
    show wpAny _ A.in1 (pyNext (.ref I) >>= _) _ _ s
    exact wpAny_bind (done s _ _ hJ fun h' tk hJ' hk' => wpAny_pure (hR h' tk acc c hJ' (hk' _ hS) hacc))
  | succ k ih =>
    intro i s acc c hk hi hJ hS hacc hR
    refine codeAny_builtin F.entry_extend_loop ?_
    rw [Around.under_plainId F.plain_extend_loop _]
    show wpAny _ A.in1 (pyNext (.ref I) >>= _) _ _ s
    refine wpAny_bind (item i s _ _ (by omega) hJ fun v h' tk hP hJ' hk' => ?_)
    have hS' := hk' _ hS
    show wpAny _ A.in1 (updateSeq S (·.push v) >>= _) _ _ _
    refine wpAny_bind (wpAny_updateSeq hS' rfl (wpAny_pure ⟨plainId_quiet F.plain_extend_loop _, ih (i + 1) _ (acc.push v) _ (by omega) (by omega) (keepS _ _ _ hJ' (Heap.SameBut.update ..)) (Heap.get?_update_self _ hS' rfl) (hacc.push hP) fun h'' tk'' acc' c' hJ'' hS'' hacc' => ?_⟩) (by rw [hacc.1]; omega) (by show (acc.push v).size ≤ sizeLine + 1; rw [Array.size_push, hacc.1]; omega))
    exact hR h'' tk'' acc' c' hJ'' hS'' hacc'
theorem collect_map {I T : Addr} {f : Value} {Q : List Value → Shared → Prop} (J : Nat → Heap → Prop) (K : Heap → Prop) (P : Nat → Value → Prop) (n : Nat) (hn : n ≤ sizeLine) (hM : IsMap s.heap I T f)
    (keepS : ∀ i h h', J i h → Heap.SameBut s.heap.objs.size h h' → J i h') (h0 : ∀ h', Ext s.heap h' → J 0 h')
    (item : ∀ (i : Nat) (s' : Shared) (Q : Option Value → Shared → Prop) (E : Value → Shared → Prop), i < n → J i s'.heap → (∀ v h' tk, P i v → J (i + 1) h' → (∀ o, s'.heap.get? s.heap.objs.size = some o → h'.get? s.heap.objs.size = some o) → Q (some v) { s' with heap := h', toks := tk }) → wpAny (model prog w) A.in1 (pyNext (.ref I)) Q E s')
    (done : ∀ (s' : Shared) (Q : Option Value → Shared → Prop) (E : Value → Shared → Prop), J n s'.heap → (∀ h' tk, K h' → (∀ o, s'.heap.get? s.heap.objs.size = some o → h'.get? s.heap.objs.size = some o) → Q none { s' with heap := h', toks := tk }) → wpAny (model prog w) A.in1 (pyNext (.ref I)) Q E s')
    (hQ : ∀ h' tk acc, K h' → ItemsOf P acc n → Q acc.toList { s with heap := h', toks := tk }) : wpAny (model prog w) A (collect (.ref I)) Q E s := by
  have hSI : s.heap.objs.size ≠ I := fun e => Nat.lt_irrefl _ (e ▸ Heap.lt_size hM)
  unfold collect
  refine wpAny_bind (wpAny_runValue (codeAny_builtin F.entry_proto_collect ?_))
  rw [Around.under_plainId F.plain_proto_collect _]
  show wpAny _ A.in1 (newList [] >>= fun l => again (.builtin "list.__iadd__" ⟨[l, .ref I], []⟩)) _ _ s
  refine wpAny_bind (wpAny_newObj_type ?_)
  refine wpAny_pure ⟨plainId_quiet F.plain_list_iadd _, codeAny_builtin F.entry_list_iadd ?_⟩
  rw [Around.under_plainId F.plain_list_iadd _]
  have hM₁ : IsMap (s.heap.push { cls := .type "list", data := .seq ([] : List Value).toArray }) I T f := Heap.get?_push_of_some _ hM
  have hTy : Shared.TypeIs { s with heap := s.heap.push { cls := .type "list", data := .seq ([] : List Value).toArray } } (.ref I) "map" := ⟨_, hM₁, rfl⟩
  show wpAny _ A.in1 (Builtin.List.listExtendWith (.ref s.heap.objs.size) (.ref I) (.ref s.heap.objs.size)) _ _ _
  unfold Builtin.List.listExtendWith
  refine wpAny_bind (wpAny_typeOf hTy ?_)
  have h1 : Builtin.List.listSameRef (.ref s.heap.objs.size) (.ref I) = false := by simp [Builtin.List.listSameRef, hSI]
  have h2 : (Value.type "map" == Value.type "list") = false := by decide
  have h3 : (Value.type "map" == Value.type "tuple") = false := by decide
  simp only [h1, h2, h3, Bool.or_false, Bool.false_eq_true, if_false]
  refine wpAny_bind (map_self hM₁ ?_)
  refine wpAny_bind (wpAny_holding ?_)
  unfold Builtin.List.listLengthHint
  refine wpAny_bind (wpAny_specialOf hTy map_no_len ?_)
  show wpAny _ A.in1 (specialOf (Value.ref I) (Str.ofString "__length_hint__") >>= _) _ _ _
  refine wpAny_bind (wpAny_specialOf hTy map_no_hint ?_)
  refine wpAny_pure ?_
  show wpAny _ A.in1 (rule "list.extend.makes-room" >>= fun _ => Builtin.List.listTouch (.ref s.heap.objs.size) >>= fun _ => again (.builtin "list.extend.loop" ⟨[.ref s.heap.objs.size, .ref I, .ref s.heap.objs.size], []⟩)) _ _ _
  refine wpAny_bind (wpAny_rule ?_)
  have hS₁ : (s.heap.push { cls := .type "list", data := .seq ([] : List Value).toArray }).get? s.heap.objs.size = some { cls := .type "list", data := .seq ([] : List Value).toArray } := Heap.get?_push_size _ rfl
  refine wpAny_bind ?_
  show wpAny _ A.in1 (updateSeq s.heap.objs.size (·.push .none) >>= fun _ => updateSeq s.heap.objs.size (·.pop)) _ _ _
  refine wpAny_bind (wpAny_updateSeq hS₁ rfl ?_)
  have hS₂ := Heap.get?_update_self (Obj.mapSeq (·.push Value.none)) hS₁ rfl
  refine wpAny_updateSeq hS₂ rfl ?_
  have hS₃ := Heap.get?_update_self (Obj.mapSeq (·.pop)) hS₂ rfl
  have k3 : Ext s.heap (((s.heap.push { cls := .type "list", data := .seq ([] : List Value).toArray }).update s.heap.objs.size (Obj.mapSeq (·.push Value.none))).update s.heap.objs.size (Obj.mapSeq (·.pop))) := fun b o e => by
    have hb : s.heap.objs.size ≠ b := Nat.ne_of_gt (Heap.lt_size e)
    exact (Heap.get?_update_other _ _ hb).trans ((Heap.get?_update_other _ _ hb).trans (Heap.get?_push_of_some _ e))
  refine wpAny_pure ⟨plainId_quiet F.plain_extend_loop _, ext_loop J K P n hn keepS item done n 0 _ _ _ rfl (Nat.zero_le _) (h0 _ k3) hS₃ (ItemsOf.nil P) fun h' tk acc' c' hJ' hS' hacc => ?_⟩
  show wpAny _ A (load s.heap.objs.size >>= _) _ _ _
  exact wpAny_bind (wpAny_load hS' (wpAny_pure (hQ h' tk acc' hJ' hacc)))
end
end Mine
end
section
open PySem PySem.W PyProof.Rows PySem.Calls
set_option maxRecDepth 100000
namespace Mine
section
variable {prog : Program} {w : World} {A : Around} {E : Value → Shared → Prop} {s : Shared}
theorem call_tuple_map {I T : Addr} {f : Value} {Q : Value → Shared → Prop} (J : Nat → Heap → Prop) (K : Heap → Prop) (P : Nat → Value → Prop) (n : Nat) (hn : n ≤ sizeLine) (hM : IsMap s.heap I T f)
    (keepS : ∀ i h h', J i h → Heap.SameBut s.heap.objs.size h h' → J i h') (h0 : ∀ h', Ext s.heap h' → J 0 h')
    (item : ∀ (i : Nat) (s' : Shared) (Q : Option Value → Shared → Prop) (E : Value → Shared → Prop), i < n → J i s'.heap → (∀ v h' tk, P i v → J (i + 1) h' → (∀ o, s'.heap.get? s.heap.objs.size = some o → h'.get? s.heap.objs.size = some o) → Q (some v) { s' with heap := h', toks := tk }) → wpAny (model prog w) A.in1.in1.in1 (pyNext (.ref I)) Q E s')
    (done : ∀ (s' : Shared) (Q : Option Value → Shared → Prop) (E : Value → Shared → Prop), J n s'.heap → (∀ h' tk, K h' → (∀ o, s'.heap.get? s.heap.objs.size = some o → h'.get? s.heap.objs.size = some o) → Q none { s' with heap := h', toks := tk }) → wpAny (model prog w) A.in1.in1.in1 (pyNext (.ref I)) Q E s')
    (hQ : ∀ h' tk acc, K h' → ItemsOf P acc n → Q (.ref h'.objs.size) { s with heap := h'.push { cls := .type "tuple", data := .seq acc }, toks := tk }) : wpAny (model prog w) A (call (.type "tuple") [.ref I]) Q E s := by
  have hTI : s.TypeIs (.ref I) "map" := ⟨_, hM, rfl⟩
  refine callType_codes (Q₁ := fun obj s₁ => s₁.TypeIs obj "tuple" ∧ Q obj s₁) F.called_tuple (F.typeCall_tuple_1 _) F.entry_object_init ?_ fun obj s₁ h₁ => ?_
  · refine codeAny_of_tree ?_
    show wpAny _ _ (do checkBuiltinCall "tuple.__new__" ⟨[.type "tuple", .ref I], []⟩; again (.builtin "tuple.__new__" ⟨[.type "tuple", .ref I], []⟩)) _ _ s
    refine wpAny_bind (wpAny_of_eq (F.newCall_tuple_1 _) (wpAny_pure ⟨plainId_quiet F.plain_tuple_new _, codeAny_builtin F.entry_tuple_new ?_⟩))
    rw [Around.under_plainId F.plain_tuple_new _]
    have hsub := sub_tuple_self
    have hinit := init_tuple_lookup
    have hmh := madeHere_tuple
    wp_walk using wpAny_typeOf hTI, collect_map J K P n hn hM keepS h0 item done
    intro h' tk acc hJ hacc
    show wpAny _ _ (Builtin.Tuple.tupleExact acc.toList.toArray >>= fun v => ret v) _ _ _
    unfold Builtin.Tuple.tupleExact
    refine wpAny_bind (wpAny_newObj_type ?_ (by show acc.toList.toArray.size ≤ sizeLine; simp only [Array.toArray_toList]; rw [hacc.1]; exact hn))
    refine wpAny_pure ?_
    have e : acc.toList.toArray = acc := by simp
    rw [e]
    exact ⟨⟨_, Heap.get?_push_size _ rfl, rfl⟩, hQ h' tk acc hJ hacc⟩
  · exact ⟨h₁.1, F.args_object_init_2 obj _, object_init_meets F.called_tuple.init.lookup F.called_tuple.made (by decide) prog w A.in1 _ s₁ ⟨h₁.1, rfl, h₁.2⟩⟩
end
theorem strs_of {h : Heap} {X : Addr → Prop} : ∀ (l : List Value) (xs : List Str), l.length = xs.length → (∀ (j : Nat) (v : Value), l[j]? = some v → ∃ x t, xs[j]? = some x ∧ v = Value.str x t) → RdAll h X l (xs.map .str)
  | [], [], _, _ => .nil
  | v :: l, x :: xs, hl, hp => by
    obtain ⟨y, t, h1, rfl⟩ := hp 0 v rfl
    cases h1
    exact .cons (.str _ _) (strs_of l xs (by simpa using hl) fun j u hj => hp (j + 1) u (by simpa using hj))
section
variable {prog : Program} {w : World} {B : Heap} {n m : Nat} {env : Env} {nu : List (Str × Res)}
theorem EV.tupleMap {xs : List Str} {fv : Value} {f1 f2 : Str} {ef ea : Expr} {p1 p2 p3 p4 : Pos} (hT : EV prog w B n env nu (.Name f1 p1) (.v (.type "tuple"))) (hM : EV prog w B n env nu (.Name f2 p2) (.v (.type "map"))) (hf : EV prog w B n env nu ef (.v fv)) (ha : EV prog w B n env nu ea (.d (.list (xs.map .str))))
    (ho : ∀ x, OP prog w B m (fun vs => PySem.call fv vs) [.d (.str x)] (.d (.str x))) (hm : m + 1 ≤ n) (hl : xs.length ≤ sizeLine) (hs : noStar [ef, ea] = true) :
    EV prog w B n env nu (.Call (.Name f1 p1) [.Call (.Name f2 p2) [ef, ea] [] p3] [] p4) (.d (.tuple (xs.map .str))) := by
  refine ⟨fun A s X Q E R O N q => ?_⟩
  refine Call_ (hT.run A s X _ E R O N fun u h₁ t₁ k₁ y₁ => ?_)
  cases y₁
  have O₁ := O.ext k₁
  have hstar : starEach [Expr.Call (.Name f2 p2) [ef, ea] [] p3] env = [(false, eval (Expr.Call (.Name f2 p2) [ef, ea] [] p3) env)] := rfl
  have ha1 : ∀ e ∈ [Expr.Call (.Name f2 p2) [ef, ea] [] p3], isStarred e = false := fun e he => by rw [List.mem_singleton.mp he]; rfl
  refine PyProof.Rows.callWith_type (any_starEach ha1) ?_
  suffices h2 : wpAny (model prog w) A (spliced (backTo p4 (starEach [Expr.Call (.Name f2 p2) [ef, ea] [] p3] env))) (fun vs s' => wpAny (model prog w) A (PySem.call (.type "tuple") vs) Q E s') E { s with heap := h₁, toks := t₁ } by
    rw [hstar] at h2 ⊢; exact evalArgs_plain h2
  refine args_cons ?_ hstar
  refine Call_ (hM.run A _ X _ E R O₁ (N.ext k₁) fun u h₂ t₂ k₂ y₂ => ?_)
  cases y₂
  refine callWith_any (.type "map") (.cons hf (.cons ha .nil)) (noStar_all hs) A _ X _ E R (O₁.ext k₂) ((N.ext k₁).ext k₂) fun vs h₃ t₃ k₃ y₃ => ?_
  cases y₃ with
  | cons ya y₃ => cases y₃ with
    | cons yb y₃ =>
      cases y₃
      cases ya
      obtain ⟨l, us, rfl, nx, hL, ra⟩ := Rd.list_inv yb
      have O₃ := (O₁.ext k₂).ext k₃
      refine call_map hL fun h₄ gM gT gI k₄ sz => args_nil ?_
      have hll := ra.length
      have lt : ∀ {b o}, h₃.get? b = some o → b < h₃.objs.size := fun e => Heap.lt_size e
      have hM4 : IsMap h₄ (h₃.objs.size + 2) (h₃.objs.size + 1) fv := gM
      refine call_tuple_map (fun i h => IsMap h (h₃.objs.size + 2) (h₃.objs.size + 1) fv ∧ h.get? (h₃.objs.size + 1) = some { cls := .type "tuple", data := .seq #[.ref h₃.objs.size] } ∧ h.IsListIter h₃.objs.size l i ∧ h.IsList l us.toArray ∧ Ext h₃ h)
        (fun h => Ext h₃ h) (fun i v => ∃ x t, xs[i]? = some x ∧ v = Value.str x t) xs.length hl hM4 (fun i h h' hJ hs => ?_) (fun h' k => ⟨k _ _ gM, k _ _ gT, (Heap.IsListIter.at gI fun o e => k _ o e), IsList.ext hL (k₄.trans k), k₄.trans k⟩) (fun i s' Q' E' hi hJ hq => ?_) (fun s' Q' E' hJ hq => ?_) fun h' tk acc hJ hacc => ?_
      · have up : ∀ b o, b < h₄.objs.size → h.get? b = some o → h'.get? b = some o := fun b o hb e => (hs.2 b (Nat.ne_of_lt hb)).trans e
        have sz3 : h₄.objs.size = h₃.objs.size + 3 := sz
        obtain ⟨j1, j2, j3, j4, j5⟩ := hJ
        refine ⟨up _ _ (by rw [sz3]; exact Nat.lt_succ_self _) j1, up _ _ (by rw [sz3]; exact Nat.lt_add_of_pos_right (n := h₃.objs.size + 1) (k := 2) (by decide)) j2, j3.at fun o e => up _ o (by rw [sz3]; exact Nat.lt_add_of_pos_right (by decide)) e, j4.at fun o e => up _ o ?_ e, fun b o e => up b o (by rw [sz3]; exact Nat.lt_of_lt_of_le (lt e) (Nat.le_add_right _ _)) (j5 b o e)⟩
        obtain ⟨o', e', _⟩ := hL
        rw [sz3]; exact Nat.lt_of_lt_of_le (lt e') (Nat.le_add_right _ _)
      · obtain ⟨j1, j2, j3, j4, j5⟩ := hJ
        obtain ⟨u, hu, ru⟩ := ra.get (ds := xs.map .str) (d := .str xs[i]) (k := i) (by rw [List.getElem?_map, List.getElem?_eq_getElem hi]; rfl)
        cases ru
        rename_i t
        refine map_next j1 j2 j3 j4 (x := .str xs[i] t) (by simpa using hu) (Nat.ne_of_gt (Nat.lt_add_of_pos_right (by decide))) fun h₅ E'' j3' hs₅ => ?_
        have k5 : Ext h₃ h₅ := fun b o e => (hs₅.2 b (Nat.ne_of_lt (lt e))).trans (j5 b o e)
        refine ((ho xs[i]).run _ { s' with heap := h₅ } X _ E'' [.str xs[i] t] ((R.le hm).near rfl rfl ?_ ?_) (O₃.ext k5) (.cons (.str _ _) .nil) fun v h₆ t₆ k₆ y₆ => ?_)
        · show A.depth ≤ A.depth + 4; omega
        · show A.units + 1 + 1 + 1 + 1 ≤ A.units + 100; omega
        cases y₆
        refine hq _ h₆ t₆ ⟨_, _, List.getElem?_eq_getElem hi, rfl⟩ ⟨k₆ _ _ (hs₅.extBut _ _ (Nat.ne_of_gt (Nat.lt_add_of_pos_right (by decide))) j1), k₆ _ _ (hs₅.extBut _ _ (Nat.ne_of_gt (Nat.lt_add_of_pos_right (by decide))) j2), (Heap.IsListIter.at j3' fun o e => k₆ _ o e), IsList.ext (j4.extBut hs₅.extBut ?_) k₆, k5.trans k₆⟩ fun o e => k₆ _ _ ((hs₅.2 _ (Nat.ne_of_gt ?_)).trans e)
        · obtain ⟨o', e', _⟩ := hL
          exact Nat.ne_of_lt (lt e')
        · show h₃.objs.size < h₄.objs.size
          have sz3 : h₄.objs.size = h₃.objs.size + 3 := sz
          rw [sz3]; exact Nat.lt_add_of_pos_right (by decide)
      · obtain ⟨j1, j2, j3, j4, j5⟩ := hJ
        refine map_end R.handled j1 j2 j3 j4 (by simp at hll; simp; omega) fun h' he => hq h' s'.toks (fun b o e => he b o (Nat.ne_of_lt (lt e)) (j5 b o e)) fun o e => he _ o (Nat.ne_of_gt ?_) e
        show h₃.objs.size < h₄.objs.size
        have sz3 : h₄.objs.size = h₃.objs.size + 3 := sz
        rw [sz3]; exact Nat.lt_add_of_pos_right (by decide)
      · have K : Ext s.heap h' := ((k₁.trans k₂).trans k₃).trans hJ
        refine q _ _ tk (K.pushR _) (Rd.of_tuple (vs := acc.toList) (O.ext K).freshSize ⟨0, by rw [Array.toArray_toList]; exact Heap.get?_push_size _ rfl⟩ (strs_of _ _ (by simpa using hacc.1) fun j v hj => hacc.2 j v (by simpa using hj)))
end
end Mine
end
section
open PySem PySem.W PyProof.Rows PySem.Calls
set_option maxHeartbeats 8000000
namespace Mine
section
variable {prog : Program} {w : World} {B : Heap} {mg mb : Str → Option Value} {n : Nat} {rs : List Res} {r : Res} {xs : List Str}
structure PlainP (p : Str) (A : List Str) : Prop where
  len : p.length ≤ 1000
  cuts : Txt.split p "/" = ("" : Str) :: A
  root : Txt.startswith p "/" = true
  words : ∀ x ∈ A, x.length ≠ 0 ∧ x ≠ "." ∧ x.length ≤ 1000
  few : A.length ≤ 1000
noncomputable def keepW (c : Str) : Option PyData := if c.length = 0 ∨ c = "." then none else some (.str c)
theorem keepW_words {A : List Str} (h : ∀ x ∈ A, x.length ≠ 0 ∧ x ≠ "." ∧ x.length ≤ 1000) : A.filterMap keepW = A.map .str := by
  induction A with
  | nil => rfl
  | cons x A ih =>
    have hx := h x (.head _)
    have e : keepW x = some (.str x) := by unfold keepW; rw [if_neg (by simp [hx.1, hx.2.1])]
    rw [List.filterMap_cons_some e, ih fun y hy => h y (.tail _ hy), List.map_cons]
theorem keepW_cuts {p : Str} {A : List Str} (h : PlainP p A) : (Txt.split p "/").filterMap keepW = A.map .str := by
  rw [h.cuts, List.filterMap_cons_none (by unfold keepW; rw [if_pos (.inl (by decide +kernel))]), keepW_words h.words]
theorem sharedS_mem : ∀ (a b : List Str) (x : Str), x ∈ sharedS a b → x ∈ a
  | [], _, _, h => by simp [sharedS] at h
  | _ :: _, [], _, h => by simp [sharedS] at h
  | x :: a, y :: b, z, h => by
    unfold sharedS at h
    split at h
    · rcases List.mem_cons.mp h with h | h
      · rw [h]; exact .head _
      · exact .tail _ (sharedS_mem a b z h)
    · cases h
theorem sharedS_len : ∀ (a b : List Str), (sharedS a b).length ≤ a.length
  | [], _ => by simp [sharedS]
  | _ :: _, [] => by simp [sharedS]
  | x :: a, y :: b => by
    have := sharedS_len a b
    unfold sharedS
    split <;> simp <;> omega
noncomputable def cpBase (pa pb : Str) (A1 A2 s1 s2 : List Str) : List (Str × Slot) := [("paths", .r (.d (.tuple ([pa, pb].map .str)))), ("sep", .r (.d (.str "/"))), ("curdir", .r (.d (.str "."))), ("split_paths", .r (.d (.list [txts A1, txts A2]))), ("isabs", .r (.d (.bool true))), ("s1", .r (.d (txts s1))), ("s2", .r (.d (txts s2))), ("common", .r (.d (txts s1)))]
noncomputable def cpEnd (c : List Str) : List (Str × Slot) := [("sep", .r (.d (.str "/"))), ("isabs", .r (.d (.bool true))), ("common", .r (.d (txts c)))]
theorem commonpath_ok (C : Cx w B mg mb) (pa pb : Str) (A1 A2 : List Str) (ha : PlainP pa A1) (hb : PlainP pb A2) (s1 s2 : List Str) (h1 : s1 = if ltW A2 A1 = true then A2 else A1) (h2 : s2 = if ltW A1 A2 = true then A2 else A1)
    (safe : ∀ i, i < s1.length → s1.take i = s2.take i → i < s2.length) :
    OP prog w B 3 (fun vs => call (.ref 134) vs) [.d (txts [pa, pb])] (.d (.str ("/" ++ Str.join "/" (sharedS s1 s2)))) := by
  refine OP.fun (xs := ["paths"]) C 134 ⟨_, rfl, rfl⟩ rfl (by decide +kernel) rfl rfl (fun vs hv => by obtain ⟨v0, rfl⟩ := lenV1 hv; rfl) rfl (by decide +kernel) (by decide +kernel) (by decide +kernel) fun L => ?_
  simp only [slotsOf, List.zip_cons_cons, List.zip_nil_left, List.map_cons, List.map_nil]
  apply SF.cons; apply SF.assignL (r := .d (.tuple ([pa, pb].map .str)))
  case hk => exact .inl rfl
  case he =>
    apply EV.tupleMap
    case hT => o_facts C
    case hM => o_facts C
    case hf => o_facts C
    case ha => o_facts C
    case ho => exact fun x => fspath_ok C x
    case hm => decide
    case hl => simp [sizeLine_eq]
    case hs => rfl
  case up => o_facts U
  apply SF.cons; apply SF.ite (b := false)
  case h1 => exact fun h => nomatch h
  case ht =>
    apply TV.eq
    case h =>
      o_facts C
      o_facts S; all_goals try first | assumption | decide | exact IntMulOk.of_right (by decide +kernel) | (intro _; exact rfl) | (simp only [lens] at *; omega) | simp [sizeLine_eq] <;> omega
    rfl
  intro _
  (repeat (apply SF.nil))
  apply SF.cons; apply SF.ite (b := false)
  case h1 => exact fun h => nomatch h
  case ht =>
    apply TV.eq
    case h =>
      o_facts C
      o_facts S; all_goals try first | assumption | decide | exact IntMulOk.of_right (by decide +kernel) | (intro _; exact rfl) | (simp only [lens] at *; omega) | simp [sizeLine_eq] <;> omega
    rfl
  intro _
  apply SF.cons; apply SF.assignL
  case hk => exact .inr ⟨rfl, _, rfl⟩
  case hs => rfl
  case he =>
    o_facts C
    o_facts S; all_goals try first | assumption | decide | exact IntMulOk.of_right (by decide +kernel) | (intro _; exact rfl) | (simp only [lens] at *; omega) | simp [sizeLine_eq] <;> omega
  case up => o_facts U
  apply SF.cons; apply SF.assignL
  case hk => exact .inr ⟨rfl, _, rfl⟩
  case hs => rfl
  case he =>
    o_facts C
    o_facts S; all_goals try first | assumption | decide | exact IntMulOk.of_right (by decide +kernel) | (intro _; exact rfl) | (simp only [lens] at *; omega) | simp [sizeLine_eq] <;> omega
  case up => o_facts U
  (repeat (apply SF.nil))
  apply SF.cons; apply SF.try
  apply SF.cons; apply SF.assignComp (L₀ := [pa, pb]) (ρ := fun p => .d (.str p)) (f := fun p => some (txts (Txt.split p "/"))) (nuC := [("sep", .d (.str "/"))])
  case it =>
    apply IT.eq'
    case h =>
      apply IT.tuple
      o_facts C
    rfl
  case C => exact CompOk.of ["sep"] (.cons rfl .nil) rfl rfl (by decide +kernel) (by decide +kernel) (.cons rfl rfl .nil) (by decide +kernel) (by first | exact .inl rfl | exact .inr rfl)
  case hsz => simp [sizeLine_eq]
  case hk => exact .inl rfl
  case body =>
    intro p hp cs L'
    refine ⟨TVs.nil rfl, fun d hd => ?_⟩
    cases hd
    have hpl : p.length ≤ 1000 := by
      simp only [List.mem_cons, List.not_mem_nil, or_false] at hp
      rcases hp with rfl | rfl
      · exact ha.len
      · exact hb.len
    o_facts C
    o_facts S; all_goals try first | assumption | decide | exact IntMulOk.of_right (by decide +kernel) | (intro _; exact rfl) | (simp only [lens] at *; omega) | simp [sizeLine_eq] <;> omega
  case up => o_facts U
  apply SF.cons; apply SF.try
  apply SF.cons; apply SF.assignTupleL
  case he =>
    apply EV.setcompTrue (L₀ := [pa, pb]) (ρ := fun p => .d (.str p)) (nuC := [("sep", .d (.str "/"))])
    case it =>
      apply IT.eq'
      case h =>
        apply IT.tuple
        o_facts C
      rfl
    case C => exact CompOk.of ["sep"] (.cons rfl .nil) rfl rfl (by decide +kernel) (by decide +kernel) (.cons rfl rfl .nil) (by decide +kernel) (by first | exact .inl rfl | exact .inr rfl)
    case hne => exact fun h => nomatch h
    case body =>
      intro p hp cs L'
      have hpl : Txt.startswith p "/" = true := by
        simp only [List.mem_cons, List.not_mem_nil, or_false] at hp
        rcases hp with rfl | rfl
        · exact ha.root
        · exact hb.root
      apply EV.eq
      case h =>
        o_facts C
        o_facts S; all_goals try first | assumption | decide | exact IntMulOk.of_right (by decide +kernel) | (intro _; exact rfl) | (simp only [lens] at *; omega) | simp [sizeLine_eq] <;> omega
      rw [hpl]
    case hsz => simp
  case hs => rfl
  case hw => rfl
  case a =>
    apply AS.oneTrueL
    case up => o_facts U
    case hk => exact .inl rfl
  (repeat (apply SF.nil))
  have hm : ∀ p ∈ [pa, pb], ∃ A, (p = pa ∨ p = pb) ∧ PlainP p A := by
    intro p hp
    simp only [List.mem_cons, List.not_mem_nil, or_false] at hp
    rcases hp with rfl | rfl
    · exact ⟨A1, .inl rfl, ha⟩
    · exact ⟨A2, .inr rfl, hb⟩
  apply SF.cons; apply SF.assignComp (L₀ := [pa, pb]) (ρ := fun p => .d (txts (Txt.split p "/"))) (f := fun p => some (.list ((Txt.split p "/").filterMap keepW))) (nuC := [("curdir", .d (.str "."))])
  case it =>
    apply IT.eq'
    case h =>
      apply IT.list
      o_facts C
    rfl
  case C => exact CompOk.of ["curdir"] (.cons rfl .nil) rfl rfl (by decide +kernel) (by decide +kernel) (.cons rfl rfl .nil) (by decide +kernel) (by first | exact .inl rfl | exact .inr rfl)
  case hsz => simp [sizeLine_eq]
  case hk => exact .inl rfl
  case body =>
    intro p hp cs L'
    obtain ⟨A, _, hp⟩ := hm p hp
    refine ⟨TVs.nil rfl, fun d hd => ?_⟩
    cases hd
    apply EV.listcomp (L₀ := Txt.split p "/") (ρ := fun c => .d (.str c)) (f := keepW) (nuC := [("curdir", .d (.str "."))])
    case it =>
      apply IT.eq'
      case h =>
        apply IT.list
        o_facts C
      exact List.map_map
    case C => exact CompOk.of ["curdir"] (.cons rfl .nil) rfl rfl (by decide +kernel) (by decide +kernel) (.cons rfl rfl .nil) (by decide +kernel) (by first | exact .inl rfl | exact .inr rfl)
    case hsz => rw [hp.cuts, sizeLine_eq]; have := hp.few; simp only [List.length_cons]; omega
    case body =>
      intro c hc cs L'
      have hcl : c.length ≤ sizeLine := by
        rw [hp.cuts] at hc
        rw [sizeLine_eq]
        rcases List.mem_cons.mp hc with rfl | hc
        · decide
        · have := (hp.words c hc).2.2; omega
      refine ⟨?_, fun d hd => ?_⟩
      · apply TVs.one
        case h =>
          o_facts C
          o_facts S; all_goals try first | assumption | decide | exact IntMulOk.of_right (by decide +kernel) | (intro _; exact rfl) | (simp only [lens] at *; omega) | simp [sizeLine_eq] <;> omega
        unfold keepW
        by_cases h1 : c.length = 0 <;> by_cases h2 : c = "." <;> simp [h1, h2]
      · have : d = .str c := by
          unfold keepW at hd
          split at hd
          · cases hd
          · exact (Option.some.inj hd).symm
        subst this
        o_facts C
  case up => o_facts U
  rw [show ([pa, pb].filterMap fun p => some (PyData.list ((Txt.split p "/").filterMap keepW))) = [txts A1, txts A2] by simp only [List.filterMap_cons, List.filterMap_nil, keepW_cuts ha, keepW_cuts hb]]
  apply SF.cons; apply SF.assignL
  case hk => exact .inl rfl
  case hs => rfl
  case he =>
    o_facts C
    o_facts S; all_goals try first | assumption | decide | exact IntMulOk.of_right (by decide +kernel) | (intro _; exact rfl) | (simp only [lens] at *; omega) | simp [sizeLine_eq] <;> omega
  case up => o_facts U
  apply SF.cons; apply SF.assignL
  case hk => exact .inl rfl
  case hs => rfl
  case he =>
    o_facts C
    o_facts S; all_goals try first | assumption | decide | exact IntMulOk.of_right (by decide +kernel) | (intro _; exact rfl) | (simp only [lens] at *; omega) | simp [sizeLine_eq] <;> omega
  case up => o_facts U
  rw [← h1, ← h2]
  have hl1 : s1.length ≤ 1000 := by rw [h1]; split <;> first | exact ha.few | exact hb.few
  have hl2 : s2.length ≤ 1000 := by rw [h2]; split <;> first | exact ha.few | exact hb.few
  apply SF.cons; apply SF.assignL
  case hk => exact .inl rfl
  case hs => rfl
  case he =>
    o_facts C
    o_facts S; all_goals try first | assumption | decide | exact IntMulOk.of_right (by decide +kernel) | (intro _; exact rfl) | (simp only [lens] at *; omega) | simp [sizeLine_eq] <;> omega
  case up => o_facts U
  refine SF.seq (fun st => st.ext = (fun _ => True) ∧ (cpEnd (sharedS s1 s2)).Sublist st.loc) ?_ ?_
  · apply SF.forG (fun i l => i ≤ s1.length ∧ i ≤ s2.length ∧ s1.take i = s2.take i ∧ l = cpBase pa pb A1 A2 s1 s2)
    case it =>
      apply IT.call
      o_facts C
    case hZ => exact fun _ h => h
    case h0 => exact ⟨Nat.zero_le _, Nat.zero_le _, by simp, rfl⟩
    case turn =>
      rintro i r l hr ⟨i1, i2, he, rfl⟩
      obtain ⟨d, hd, rfl⟩ := counted_get hr
      rw [List.getElem?_map] at hd
      obtain ⟨x, hx, rfl⟩ := Option.map_eq_some_iff.mp hd
      have hlt := (List.getElem?_eq_some_iff.mp hx).1
      have hlt2 := safe i hlt he
      have hix : s1.length ≤ sizeLine := by rw [sizeLine_eq]; omega
      have hy : s2[i]? = some s2[i] := List.getElem?_eq_getElem hlt2
      generalize s2[i] = y at hy
      have hxd : (s1.map PyData.str)[((i : Nat) : Int).toNat]? = some (.str x) := by rw [Int.toNat_natCast, List.getElem?_map, hx]; rfl
      have hyd : (s2.map PyData.str)[((i : Nat) : Int).toNat]? = some (.str y) := by rw [Int.toNat_natCast, List.getElem?_map, hy]; rfl
      unfold cpBase
      apply turn_
      case a =>
        apply AS.tupleL (xs := [("i", _), ("c", _)]) (ds := [_, _])
        focus
          apply Upds.cons
          focus o_facts U
          apply Upds.cons
          focus o_facts U
          exact Upds.nil
        focus
          intro p hp
          simp only [List.mem_cons, List.not_mem_nil, or_false] at hp
          rcases hp with rfl | rfl <;> (first | exact .inl rfl | exact .inr ⟨rfl, _, rfl⟩)
      apply SF.cons; apply SF.ite
      case ht =>
        o_facts C
        all_goals (first | exact hyd | exact HasItems.list | exact Nat.zero_le _ | exact rfl | decide | omega)
      case h1 =>
        intro hb
        have hb : x ≠ y := by simpa using hb
        apply SF.cons; apply SF.assignL (r := .d (txts (s1.take i)))
        case hk => exact .inl rfl
        case he =>
          apply EV.eq
          case h =>
            apply EV.lsliceTo
            o_facts C
            all_goals (first | exact Int.natCast_nonneg _ | (rw [List.length_map]; exact hix))
          rw [Int.toNat_natCast, ← List.map_take]
        case up => o_facts U
        apply SF.cons; apply SF.brk
        refine ⟨rfl, ?_⟩
        rw [sharedS_at s1 s2 i he (.inr (.inr ?_)) i1 i2]
        · unfold cpEnd
          o_facts L
        · rw [hx, hy]; simpa using hb
      case h2 =>
        intro hb
        have hb : x = y := by simpa using hb
        subst hb
        (repeat (apply SF.nil))
        refine ⟨rfl, cpBase pa pb A1 A2 s1 s2, ?_, hlt, hlt2, ?_, rfl⟩
        · unfold cpBase
          o_facts L
        · rw [List.take_add_one, List.take_add_one, hx, hy, he]
    case fin =>
      rintro l ⟨i1, i2, he, rfl⟩
      simp only [counted_length, List.length_map] at i1 i2 he
      unfold cpBase
      (repeat (apply SF.nil))
      refine ⟨rfl, ?_⟩
      rw [sharedS_at s1 s2 _ he (.inl (by simp)) i1 i2, List.take_length]
      unfold cpEnd
      o_facts L
  · have hw : ∀ x ∈ sharedS s1 s2, x.length ≤ 1000 := by
      intro x hx
      have hx := sharedS_mem _ _ _ hx
      rw [h1] at hx
      split at hx
      · exact (hb.words x hx).2.2
      · exact (ha.words x hx).2.2
    have hn : (sharedS s1 s2).length ≤ 1002 := Nat.le_trans (sharedS_len s1 s2) (by omega)
    have hj : JoinOk "/" (sharedS s1 s2) = true := joinOk_short hw hn (by decide)
    have hjl := join_short hw hn (sep := "/") (by decide)
    rintro st ⟨hx, hs⟩
    apply SF.weaken hs
    rw [hx]
    unfold cpEnd
    apply SF.cons; apply SF.assignL
    case hk => exact .inl rfl
    case hs => rfl
    case he =>
      apply EV.ifexp (t := true)
      case h =>
        o_facts C
        o_facts S; all_goals try first | assumption | decide | exact IntMulOk.of_right (by decide +kernel) | (intro _; exact rfl) | (simp only [lens] at *; omega) | simp [sizeLine_eq] <;> omega
      case ha =>
        intro _
        o_facts C
      case hb => exact fun h => nomatch h
    case up => o_facts U
    apply SF.cons; apply SF.ret
    case he =>
      o_facts C
      all_goals (first | exact hj | exact rfl | (rw [sizeLine_eq, len_slash]; omega))
    refine Gives.eq (st := ⟨[], fun _ => True⟩) ?_
    rfl
end
end Mine
end
section
open PySem PySem.W PyProof.Rows PySem.Calls
set_option maxHeartbeats 8000000
namespace Mine
noncomputable def flipS (m k : Nat) : Nat := if m / 2 ^ k % 2 = 0 then m + 2 ^ k else m - 2 ^ k
noncomputable def restOf (v : Nat) : Nat := v % 8 + v / 128 % 64 * 8
noncomputable def rowsStep (rows : List Row) (i : Int) : List Row :=
  let p := way (restOf i.natAbs)
  let rows1 := if p.1 ∈ rows.map (·.ws) then rows else rows ++ [⟨p.1, 16895, p.2⟩]
  rows1.map fun r => if r.ws = p.1 then ⟨r.ws, flipS r.mode (i.natAbs / 8 % 16), p.2⟩ else r
noncomputable def rowsS (l : List Int) : List Row := l.foldl rowsStep []
theorem restOf_lt (v : Nat) : restOf v < 8 ^ 4 := by unfold restOf; omega
theorem oks_append {a b : List Str} (ha : Oks a) (hb : Oks b) : Oks (a ++ b) := fun x hx => (List.mem_append.mp hx).elim (ha x) (hb x)
theorem figW_ok (k : Nat) : Oks (figWOf k) := by
  by_cases h : k < 8
  · rcases lt8 h with rfl | rfl | rfl | rfl | rfl | rfl | rfl | rfl <;> (unfold Oks; decide +kernel)
  · have : figWOf k = [] := by
      unfold figWOf
      rw [List.getElem?_eq_none (by show figW.length ≤ k; have : figW.length = 8 := by decide +kernel
                                    omega)]
      rfl
    rw [this]; exact fun _ h => nomatch h
theorem wayGo_ok : ∀ (k r : Nat) (ws : List Str) (sp : Str), Oks ws → Oks (wayGo k r ws sp).1
  | 0, _, _, _, h => h
  | k + 1, r, ws, sp, h => by
    unfold wayGo
    split
    · exact h
    · exact wayGo_ok k _ _ _ (oks_append h (figW_ok _))
theorem way_oks (r : Nat) : Oks (way r).1 := wayGo_ok 4 r _ _ (by unfold Oks; decide +kernel)
section
variable {prog : Program} {w : World} {B : Heap} {mg mb : Str → Option Value} {n : Nat} {rs : List Res} {r : Res} {xs : List Str}
noncomputable def rowsBase (is : List Int) (a : Addr) (cs : List RC) : List (Str × Slot) := [("numbers", .r (.hp (ghostP (is.map .int) cs))), ("rows", .r (.v (.ref a)))]
noncomputable def RInv (is : List Int) (i : Nat) (Z : Addr → Prop) (st : St) : Prop := ∃ a cs, st.ext = CExt a cs ∧ (rowsBase is a cs).Sublist st.loc ∧ CZ Z a cs ∧ cs.map (·.row) = rowsS (is.take i) ∧ cs.length ≤ i ∧ (cs.map (·.row.ws)).Nodup ∧ ∀ c ∈ cs, Oks c.row.ws
noncomputable def rowsL3 (is : List Int) (a : Addr) (cs : List RC) (j : Int) (ws : List Str) (sp : Str) : List (Str × Slot) := [("numbers", .r (.hp (ghostP (is.map .int) cs))), ("rows", .r (.v (.ref a))), ("number", .r (.d (.int j))), ("value", .r (.d (.int (j.natAbs : Nat)))), ("words", .r (.d (txts ws))), ("spelled", .r (.d (.str sp)))]
noncomputable def rowsMid (is : List Int) (a : Addr) (j : Int) (ws : List Str) (sp : Str) (i : Nat) (rows1 : List Row) (Z : Addr → Prop) (st : St) : Prop := ∃ cs, st.ext = CExt a cs ∧ (rowsL3 is a cs j ws sp).Sublist st.loc ∧ CZ Z a cs ∧ cs.map (·.row) = rows1 ∧ cs.length ≤ i + 1 ∧ (cs.map (·.row.ws)).Nodup ∧ (∀ c ∈ cs, Oks c.row.ws) ∧ ws ∈ cs.map (·.row.ws)
theorem ghost_of {env : Env} {h : Heap} {X : Addr → Prop} {nu : List (Str × Res)} {ds : List PyData} {cs : List RC} {x : Str} (hN : Nm env h X nu) (hx : (x, Res.hp (ghostP ds cs)) ∈ nu) : ∀ c ∈ cs, Rd h X c.w (txts c.row.ws) := by
  obtain ⟨v, _, y, _⟩ := hN _ hx
  exact y.2.2
theorem rows_ok (C : Cx w B mg mb) (is : List Int) (hn : is.length ≤ 1000) (hbig : ∀ i ∈ is, True) : OP prog w B 4 (fun vs => call (.ref 262) vs) [.d (.list (is.map .int))] (.d (rowsD (rowsS is))) := by
  apply OPD.toP
  refine OPD.fun (xs := ["numbers"]) C 262 ⟨_, rfl, rfl⟩ rfl (by decide +kernel) rfl rfl (fun vs hv => by obtain ⟨v0, rfl⟩ := lenV1 hv; rfl) rfl (by decide +kernel) (by decide +kernel) (by decide +kernel) fun L => ?_
  simp only [slotsOf, List.zip_cons_cons, List.zip_nil_left, List.map_cons, List.map_nil]
  apply GF.cons
  apply GF.newZ (xtA := fun a => CExt a [])
  case hk => exact .inl rfl
  case up => intro a; o_facts U
  case hl => exact fun a h h' _ _ hp _ => ⟨hp, fun c hc => nomatch hc⟩
  case hs => exact fun a h h' x k => ⟨Heap.PlainList.at x.1 fun o e => k a o (.inr rfl) e, fun c hc => nomatch hc⟩
  case p =>
    intro a nz
    apply GF.relax (x := "numbers") (r' := .hp (ghostP (is.map .int) []))
    case hx => o_facts M
    case hi => exact fun h X u y => ⟨ghostP.stab _ _, y, fun c hc => nomatch hc⟩
    case up => o_facts U
    apply GF.cons; apply GF.for (RInv is)
    case it =>
      apply IT.seqOf (rs := (is.map PyData.int).map .d) (a := .hp (ghostP (is.map .int) []))
      case he => exact EV.name (.head _)
      case hl =>
        intro h X u y
        obtain ⟨b, vs, rfl, nx, hl, ra⟩ := Rd.list_inv y.2.1
        exact ⟨b, vs, rfl, nx, hl, ra.rvs⟩
    case h0 => exact ⟨a, [], rfl, List.Sublist.refl _, ⟨fun c => ⟨fun z => z.elim (fun z => z.elim) .inl, fun z => z.elim .inr fun ⟨q, hq, _⟩ => nomatch hq⟩, by simp⟩, rfl, Nat.le_refl _, by simp, fun c hc => nomatch hc⟩
    case turn =>
      rintro i r Z ⟨l, xt⟩ hr ⟨a, cs, rfl, HH⟩
      have hs := HH.1
      have hZ := HH.2.1
      have hrows := HH.2.2.1
      have hlen := HH.2.2.2.1
      have hnd := HH.2.2.2.2.1
      have hok := HH.2.2.2.2.2
      clear HH
      obtain ⟨j, hj, rfl⟩ := map_at hr
      have hi : i < 1000 := by have := (List.getElem?_eq_some_iff.mp hj).1; omega
      have hlt := restOf_lt j.natAbs
      have hwo := way_oks (restOf j.natAbs)
      have hstep : rowsS (is.take (i + 1)) = rowsStep (rowsS (is.take i)) j := foldl_at (f := rowsStep) hj
      rw [← hrows] at hstep
      unfold rowsStep at hstep
      unfold rowsBase at hs
      apply turnG_
      case a =>
        apply AS.weaken hs
        apply AS.nameL (.inl rfl)
        o_facts U
      apply GF.consS; apply SF.assignL (r := .d (.int (j.natAbs : Nat)))
      case hk => exact .inl rfl
      case he =>
        apply EV.eq
        case h =>
          o_facts C
        congr 2; split <;> omega
      case up => o_facts U
      apply GF.consS; apply SF.assignTupleL
      case hs => rfl
      case hw => rfl
      case he =>
        apply EV.call (rs := [.d (.int ((restOf j.natAbs : Nat) : Int))])
        case hf => o_facts C
        case hk => o_facts C
        case he => o_facts C
        case h =>
          apply EVs.cons _ EVs.nil
          apply EV.eq
          case h =>
            o_facts C
            o_facts S; all_goals try first | assumption | decide | exact IntMulOk.of_right (by decide +kernel) | (intro _; exact rfl) | (simp only [lens] at *; omega) | simp [sizeLine_eq] <;> omega
          rw [show (8 : Int) = ((8 : Nat) : Int) from rfl, show (128 : Int) = ((128 : Nat) : Int) from rfl, show (64 : Int) = ((64 : Nat) : Int) from rfl, fmod_nat, fdiv_nat, fmod_nat]
          unfold restOf
          congr 2
        case ho => o_facts C
      case a =>
        apply AS.tupleL (xs := [("words", _), ("spelled", _)]) (ds := [_, _])
        focus
          apply Upds.cons
          focus o_facts U
          apply Upds.cons
          focus o_facts U
          exact Upds.nil
        focus
          intro p hp
          simp only [List.mem_cons, List.not_mem_nil, or_false] at hp
          rcases hp with rfl | rfl <;> (first | exact .inl rfl | exact .inr ⟨rfl, _, rfl⟩)
      generalize way (restOf j.natAbs) = p at *
      obtain ⟨ws, sp⟩ := p
      dsimp only at *
      generalize hr1 : (if ws ∈ (cs.map (·.row)).map (·.ws) then cs.map (·.row) else cs.map (·.row) ++ [⟨ws, 16895, sp⟩]) = rows1 at *
      apply GF.seq (rowsMid is a j ws sp i rows1)
      case a =>
        apply GF.iteV (b := decide (ws ∉ cs.map (·.row.ws))) (nuV := [("rows", .d (rowsD (cs.map (·.row)))), ("words", .d (txts ws))])
        case V =>
          apply View.cons (r₀ := .v (.ref a))
          case V =>
            apply View.put View.nil
            o_facts M
          case hx => o_facts M
          case hi =>
            rintro h X hX hx hN _ rfl
            have := VD.rd (CExt.vd hZ hX hx (ghost_of hN (.head _)))
            show Rd _ _ _ (.list ((cs.map (·.row)).map rowD))
            rw [List.map_map]
            exact this
        case ht =>
          apply TV.eq
          case h =>
            apply TV.cmp (a := .d (txts ws)) (b := .d (txtss (cs.map (·.row.ws))))
            case hl => o_facts C
            case hr =>
              apply EV.eq
              case h =>
                apply EV.listcomp (L₀ := cs) (ρ := fun c => .d (rowD c.row)) (f := fun c => some (txts c.row.ws)) (nuC := [])
                case it =>
                  apply IT.eq'
                  case h =>
                    apply IT.list
                    o_facts C
                  rw [List.map_map, List.map_map]; rfl
                case C => exact CompOk.of [] .nil rfl rfl (by decide +kernel) (by decide +kernel) .nil (by decide +kernel) (by first | exact .inl rfl | exact .inr rfl)
                case hsz => rw [sizeLine_eq]; omega
                case body =>
                  intro c hc cs' L'
                  refine ⟨TVs.nil rfl, fun d hd => ?_⟩
                  cases hd
                  o_facts C
                  o_facts S; all_goals try first | assumption | decide | exact IntMulOk.of_right (by decide +kernel) | (intro _; exact rfl) | (simp only [lens] at *; omega) | simp [sizeLine_eq] <;> omega
              show Res.d (.list _) = Res.d (.list ((cs.map (·.row.ws)).map txts))
              rw [List.map_map, List.filterMap_eq_map']
              rfl
            case ho => exact OP.notin (lay_txtss (fun x hx => by obtain ⟨c, hc, rfl⟩ := List.mem_map.mp hx; exact hok c hc)).1 (by simp only [PyData.canLay0, (lay_strs hwo).1]) (by simp only [PyData.depth, (lay_strs hwo).2]; omega)
            case hm => rfl
          rw [in_txtss]
          by_cases h : ws ∈ cs.map (·.row.ws) <;> simp [h]
        case h1 =>
          intro hb
          have hb : ws ∉ cs.map (·.row.ws) := by simpa using hb
          have hr2 : rows1 = cs.map (·.row) ++ [⟨ws, 16895, sp⟩] := by rw [← hr1, if_neg (by rw [List.map_map]; exact hb)]
          apply GF.known (x := "words") (d := txts ws)
          case hx => o_facts M
          case up => intro u; o_facts U
          intro u
          apply GF.cons
          apply GF.appendNew (a := a) (rs := [.v u, .d (.int 16895), .d (.str sp)]) (xtB := fun b => CExt a (cs ++ [⟨b, u, ⟨ws, 16895, sp⟩⟩]))
          case hx => o_facts M
          case hZ => exact (hZ.1 a).mpr (.inl rfl)
          case he =>
            apply EVs.cons
            · apply EV.sub (a := .vd u (txts ws))
              · o_facts C
              · exact fun _ _ _ y => y.1
            · o_facts C
          case hr =>
            intro r hr
            simp only [List.mem_cons, List.not_mem_nil, or_false] at hr
            rcases hr with rfl | rfl | rfl
            · exact Scal.v
            · exact Scal.int
            · exact Scal.str
          case hes => rfl
          case hfew => decide +kernel
          case hl =>
            intro h hx
            refine ⟨_, hx.1, by rw [sizeLine_eq, List.length_map]; omega, fun b vs h' nb hp hr ha k => ?_⟩
            cases hr with
            | cons y1 hr => cases hr with
              | cons y2 hr => cases hr with
                | cons y3 hr =>
                  cases hr
                  cases y1
                  cases y2
                  cases y3
                  exact CExt.add hZ hx hp ha k
          case hs => exact fun b nb h h' x k => CExt.stab (hZ.add nb) h h' x k
          case p =>
            intro b nb
            apply GF.relax2 (x := "numbers") (y := "words") (r' := .hp (ghostP (is.map .int) (cs ++ [⟨b, u, ⟨ws, 16895, sp⟩⟩])))
            case hx => o_facts M
            case hy => o_facts M
            case hi =>
              rintro h X u' v ⟨_, y⟩ ⟨rfl, z⟩
              refine ⟨ghostP.stab _ _, y.1, fun c hc => ?_⟩
              rcases List.mem_append.mp hc with hc | hc
              · exact y.2 c hc
              · rw [List.mem_singleton.mp hc]; exact z
            case up => o_facts U
            apply GF.relax (x := "words") (r' := .d (txts ws))
            case hx => o_facts M
            case hi => exact fun h X u y => y.2
            case up => o_facts U
            apply GF.nil
            refine ⟨_, rfl, List.Sublist.refl _, hZ.add nb, by rw [hr2, List.map_append]; rfl, by rw [List.length_append]; exact Nat.succ_le_succ hlen, ?_, fun c hc => ?_, by simp⟩
            · rw [List.map_append, List.nodup_append]
              refine ⟨hnd, by simp, fun x hx y hy e => hb ?_⟩
              rw [List.map_cons, List.map_nil, List.mem_singleton] at hy
              have e2 : x = ws := e.trans hy
              rw [← e2]; exact hx
            · rcases List.mem_append.mp hc with hc | hc
              · exact hok c hc
              · rw [List.mem_singleton.mp hc]; exact hwo
        case h2 =>
          intro hb
          have hb : ws ∈ cs.map (·.row.ws) := by simpa using hb
          have hr2 : rows1 = cs.map (·.row) := by rw [← hr1, if_pos (by rw [List.map_map]; exact hb)]
          apply GF.nil
          exact ⟨cs, rfl, List.Sublist.refl _, hZ, hr2.symm, by omega, hnd, hok, hb⟩
      case b =>
        clear hZ hrows hlen hnd hok
        rintro Z ⟨l, xt⟩ ⟨cs, rfl, HH⟩
        have hs := HH.1
        have hZ := HH.2.1
        have hrows := HH.2.2.1
        have hlen := HH.2.2.2.1
        have hnd := HH.2.2.2.2.1
        have hok := HH.2.2.2.2.2.1
        have hin := HH.2.2.2.2.2.2
        clear HH
        apply GF.weaken hs
        unfold rowsL3
        obtain ⟨c, hc, rfl⟩ := List.mem_map.mp hin
        have hk : j.natAbs / 8 % 16 < 16 := Nat.mod_lt _ (by decide)
        have hcut : (((j.natAbs : Nat) : Int).fdiv 8).fmod 16 = ((j.natAbs / 8 % 16 : Nat) : Int) := by
          rw [show (8 : Int) = ((8 : Nat) : Int) from rfl, show (16 : Int) = ((16 : Nat) : Int) from rfl, fdiv_nat, fmod_nat]
        generalize hkk : j.natAbs / 8 % 16 = k at *
        apply GF.consS; apply SF.assignV (r := .v (.ref c.b)) (nuV := [("rows", .hp (VD (cs.map fun c => Value.ref c.b) (cs.map fun c => rowD c.row))), ("words", .d (txts c.row.ws))])
        case hr => exact Scal.v
        case hk => exact .inl rfl
        case V =>
          apply View.cons (r₀ := .v (.ref a))
          case V =>
            apply View.put View.nil
            o_facts M
          case hx => o_facts M
          case hi =>
            rintro h X hX hx hN _ rfl
            exact CExt.vd hZ hX hx (ghost_of hN (.head _))
        case he =>
          apply EV.item (a := .lv [.ref c.b]) (b := .d (.int 0))
          case hI => exact HasItems.lv
          case hp => rfl
          case ho =>
            apply EV.eq
            case h =>
              apply EV.listcompV (L₀ := cs) (ρ := fun q => .vd (.ref q.b) (rowD q.row)) (f := fun q => if q.row.ws = c.row.ws then some (.ref q.b) else none) (nuC := [("words", .d (txts c.row.ws))])
              case it =>
                apply IT.eq'
                case h =>
                  apply IT.vd
                  o_facts C
                exact vds_map cs
              case C => exact CompOk.of ["words"] (.cons rfl .nil) rfl rfl (by decide +kernel) (by decide +kernel) (.cons rfl rfl .nil) (by decide +kernel) (by first | exact .inl rfl | exact .inr rfl)
              case hsz => rw [sizeLine_eq]; omega
              case body =>
                intro q hq cs' L'
                refine ⟨?_, fun d hd => ?_⟩
                · apply TVs.one
                  case h =>
                    apply TV.cmp (a := .d (txts q.row.ws)) (b := .d (txts c.row.ws))
                    case hl =>
                      apply EV.item (a := .d (rowD q.row)) (b := .d (.int 0))
                      case hI => exact HasItems.list
                      case hp => rfl
                      case ho =>
                        apply EV.sub (a := .vd (.ref q.b) (rowD q.row))
                        · o_facts C
                        · exact fun _ _ _ y => y.2
                      case hi => o_facts C
                      case hop => exact OP.litem (i := 0) (by decide) (by decide) rfl
                    case hr => o_facts C
                    case ho => exact OP.eq (shaped_txts (hok q hq)) (shaped_txts (hok c hc))
                    case hm => rfl
                  rw [eqv_txts]
                  by_cases h : q.row.ws = c.row.ws <;> simp [h]
                · have : d = .ref q.b := by
                    by_cases h : q.row.ws = c.row.ws <;> simp [h] at hd
                    exact hd.symm
                  subst this
                  apply EV.sub (a := .vd (.ref q.b) (rowD q.row))
                  · o_facts C
                  · exact fun _ _ _ y => y.1
            rw [find_row hnd hc]
          case hi => o_facts C
          case hop => exact OP.litemV (by decide) (by decide) rfl
        case up => o_facts U
        apply GF.consS; apply SF.assignL (r := .d (.int ((2 ^ k : Nat) : Int)))
        case hk => exact .inl rfl
        case he =>
          apply EV.eq
          case h =>
            o_facts C
            all_goals (try rw [hcut])
            o_facts S; all_goals try first | assumption | decide | exact IntMulOk.of_right (by decide +kernel) | (intro _; exact rfl) | (simp only [lens] at *; omega) | simp [sizeLine_eq] <;> omega
          rw [hcut, Int.toNat_natCast]
          simp
        case up => o_facts U
        have h2k : 0 < 2 ^ k := Nat.two_pow_pos k
        have h2k2 : 2 ^ k < 65536 := by
          have := Nat.pow_lt_pow_right (a := 2) (by decide) hk
          simpa using this
        generalize hcs1 : cs.map (RC.put c.b (fun r => { r with mode := flipS r.mode k })) = cs1
        apply GF.seq (fun Z' st' => st'.ext = CExt a cs1 ∧ ([("numbers", .r (.hp (ghostP (is.map .int) cs1))), ("rows", .r (.v (.ref a))), ("spelled", .r (.d (.str sp))), ("row", .r (.v (.ref c.b)))] : List (Str × Slot)).Sublist st'.loc ∧ CZ Z' a cs1)
        case a =>
          apply GF.iteV (b := decide (c.row.mode / 2 ^ k % 2 = 0)) (nuV := [("row", .d (rowD c.row)), ("unit", .d (.int ((2 ^ k : Nat) : Int)))])
          case V =>
            apply View.cons (r₀ := .v (.ref c.b))
            case V =>
              apply View.put View.nil
              o_facts M
            case hx => o_facts M
            case hi =>
              rintro h X hX hx hN _ rfl
              exact CExt.row hZ hX hx hc (ghost_of hN (.head _) c hc)
          case ht =>
            apply TV.eq
            case h =>
              o_facts C
              all_goals (try exact rfl)
              o_facts C
              all_goals (first | exact HasItems.list | exact rfl | decide | (rw [Int.natAbs_natCast]; omega) | omega)
            have e3 : (((c.row.mode : Nat) : Int).fdiv ((2 ^ k : Nat) : Int)).fmod 2 = ((c.row.mode / 2 ^ k % 2 : Nat) : Int) := by rw [show (2 : Int) = ((2 : Nat) : Int) from rfl, fdiv_nat, fmod_nat]
            rw [e3]
            by_cases h : c.row.mode / 2 ^ k % 2 = 0
            · simp [h]
            · have h2 : c.row.mode / 2 ^ k % 2 = 1 := by omega
              simp [h2]
          case h1 =>
            intro hb
            have hb : c.row.mode / 2 ^ k % 2 = 0 := by simpa using hb
            have hfl : flipS c.row.mode k = c.row.mode + 2 ^ k := by unfold flipS; rw [if_pos hb]
            apply GF.cons
            apply GF.setAt (b := c.b) (j := 1) (r := .d (.int ((flipS c.row.mode k : Nat) : Int))) (xt' := CExt a cs1) (nuV := [("row", .d (rowD c.row)), ("unit", .d (.int ((2 ^ k : Nat) : Int)))])
            case V =>
              apply View.cons (r₀ := .v (.ref c.b))
              case V =>
                apply View.put View.nil
                o_facts M
              case hx => o_facts M
              case hi =>
                rintro h X hX hx hN _ rfl
                exact CExt.row hZ hX hx hc (ghost_of hN (.head _) c hc)
            case he =>
              apply EV.eq
              case h =>
                o_facts C
                all_goals (try exact rfl)
                o_facts C
                o_facts S; all_goals try first | assumption | decide | exact IntMulOk.of_right (by decide +kernel) | (intro _; exact rfl) | (simp only [lens] at *; omega) | simp [sizeLine_eq] <;> omega
              rw [hfl]; rfl
            case hr => exact Scal.int
            case hx => o_facts M
            case hZ => exact (hZ.1 _).mpr (.inr ⟨c, hc, rfl⟩)
            case h0 => decide
            case hfit => decide
            case hl =>
              intro h hx
              obtain ⟨t, t', hp⟩ := hx.2 c hc
              refine ⟨_, hp, (by show 1 < 3; decide), fun h' v hv hs hp' => ?_⟩
              cases hv (fun _ => False)
              rw [← hcs1]
              exact CExt.put hZ.2 hc hx hs hp'
            case hs => exact fun h h' x k => CExt.stab (hcs1 ▸ hZ.put) h h' x k
            case p =>
              apply GF.relax (x := "numbers") (r' := .hp (ghostP (is.map .int) cs1))
              case hx => o_facts M
              case hi => rw [← hcs1]; exact ghost_put (fun _ => rfl)
              case up => o_facts U
              apply GF.nil
              refine ⟨rfl, ?_, hcs1 ▸ hZ.put⟩
              o_facts L
          case h2 =>
            intro hb
            have hb : ¬ c.row.mode / 2 ^ k % 2 = 0 := by simpa using hb
            have hfl : flipS c.row.mode k = c.row.mode - 2 ^ k := by unfold flipS; rw [if_neg hb]
            have hle : 2 ^ k ≤ c.row.mode := by
              refine Nat.le_of_not_lt fun h => hb ?_
              rw [Nat.div_eq_of_lt h]
            apply GF.cons
            apply GF.setAt (b := c.b) (j := 1) (r := .d (.int ((flipS c.row.mode k : Nat) : Int))) (xt' := CExt a cs1) (nuV := [("row", .d (rowD c.row)), ("unit", .d (.int ((2 ^ k : Nat) : Int)))])
            case V =>
              apply View.cons (r₀ := .v (.ref c.b))
              case V =>
                apply View.put View.nil
                o_facts M
              case hx => o_facts M
              case hi =>
                rintro h X hX hx hN _ rfl
                exact CExt.row hZ hX hx hc (ghost_of hN (.head _) c hc)
            case he =>
              apply EV.eq
              case h =>
                o_facts C
                all_goals (try exact rfl)
                o_facts C
                o_facts S; all_goals try first | assumption | decide | exact IntMulOk.of_right (by decide +kernel) | (intro _; exact rfl) | (simp only [lens] at *; omega) | simp [sizeLine_eq] <;> omega
              rw [hfl]; congr 2; exact (Int.ofNat_sub hle).symm
            case hr => exact Scal.int
            case hx => o_facts M
            case hZ => exact (hZ.1 _).mpr (.inr ⟨c, hc, rfl⟩)
            case h0 => decide
            case hfit => decide
            case hl =>
              intro h hx
              obtain ⟨t, t', hp⟩ := hx.2 c hc
              refine ⟨_, hp, (by show 1 < 3; decide), fun h' v hv hs hp' => ?_⟩
              cases hv (fun _ => False)
              rw [← hcs1]
              exact CExt.put hZ.2 hc hx hs hp'
            case hs => exact fun h h' x k => CExt.stab (hcs1 ▸ hZ.put) h h' x k
            case p =>
              apply GF.relax (x := "numbers") (r' := .hp (ghostP (is.map .int) cs1))
              case hx => o_facts M
              case hi => rw [← hcs1]; exact ghost_put (fun _ => rfl)
              case up => o_facts U
              apply GF.nil
              refine ⟨rfl, ?_, hcs1 ▸ hZ.put⟩
              o_facts L
        case b =>
          rintro Z ⟨l, xt⟩ ⟨rfl, hs, hZ1⟩
          apply GF.weaken hs
          have hc1 : { c with row := { c.row with mode := flipS c.row.mode k } } ∈ cs1 := by
            rw [← hcs1]
            have := List.mem_map_of_mem (f := RC.put c.b (fun r => { r with mode := flipS r.mode k })) hc
            rwa [put_self] at this
          apply GF.cons
          apply GF.setAt (b := c.b) (j := 2) (r := .d (.str sp)) (xt' := CExt a (cs1.map (RC.put c.b fun r => { r with sp := sp }))) (nuV := [("spelled", .d (.str sp))])
          case V =>
            apply View.put View.nil
            o_facts M
          case he => o_facts C
          case hr => exact Scal.str
          case hx => o_facts M
          case hZ => exact (hZ1.1 _).mpr (.inr ⟨_, hc1, rfl⟩)
          case h0 => decide
          case hfit => decide
          case hl =>
            intro h hx
            obtain ⟨t, t', hp⟩ := hx.2 _ hc1
            refine ⟨_, hp, (by show 2 < 3; decide), fun h' v hv hs hp' => ?_⟩
            cases hv (fun _ => False)
            exact CExt.put (c := { c with row := { c.row with mode := flipS c.row.mode k } }) (f := fun r => { r with sp := sp }) hZ1.2 hc1 hx hs hp'
          case hs => exact fun h h' x k => CExt.stab hZ1.put h h' x k
          case p =>
            apply GF.relax (x := "numbers") (r' := .hp (ghostP (is.map .int) (cs1.map (RC.put c.b fun r => { r with sp := sp }))))
            case hx => o_facts M
            case hi => exact ghost_put (fun _ => rfl)
            case up => o_facts U
            apply GF.nil
            refine ⟨a, _, rfl, ?_, hZ1.put, ?_, ?_, ?_, ?_⟩
            · unfold rowsBase; o_facts L
            · rw [hstep, ← hrows, ← hcs1, List.map_map, List.map_map, List.map_map]
              refine List.map_congr_left fun q hq => ?_
              by_cases e : q.b = c.b
              · have : q = c := nodup_key (List.nodup_cons.mp hZ.2).2 hq hc e
                subst this
                simp only [Function.comp_def, RC.put, if_true]
              · have e2 : ¬ q.row.ws = c.row.ws := fun e2 => e (by rw [nodup_ws hnd hq hc e2])
                simp only [Function.comp_def, RC.put, if_neg e, if_neg e2]
            · rw [List.length_map, ← hcs1, List.length_map]; exact hlen
            · rw [put_ws (f := fun r => { r with sp := sp }) (fun _ => rfl), ← hcs1, put_ws (f := fun r => { r with mode := flipS r.mode k }) (fun _ => rfl)]; exact hnd
            · have e1 : (cs1.map (RC.put c.b fun r => { r with sp := sp })).map (·.row.ws) = cs.map (·.row.ws) := by rw [put_ws (f := fun r => { r with sp := sp }) (fun _ => rfl), ← hcs1, put_ws (f := fun r => { r with mode := flipS r.mode k }) (fun _ => rfl)]
              intro q hq
              have h1 : q.row.ws ∈ cs.map (·.row.ws) := e1 ▸ List.mem_map.mpr ⟨q, hq, rfl⟩
              obtain ⟨q', hq', e⟩ := List.mem_map.mp h1
              rw [← e]; exact hok q' hq'
    case fin =>
      rintro Z ⟨l, xt⟩ ⟨a, cs, rfl, HH⟩
      have hs := HH.1
      have hZ := HH.2.1
      have hrows := HH.2.2.1
      have hlen := HH.2.2.2.1
      have hnd := HH.2.2.2.2.1
      have hok := HH.2.2.2.2.2
      clear HH
      apply GF.nil
      apply GF.weaken hs
      unfold rowsBase
      apply GF.cons; apply GF.retV (nuV := [("rows", .d (rowsD (rowsS is)))])
      case V =>
        apply View.cons View.nil (r₀ := .v (.ref a))
        case hx => o_facts M
        case hi =>
          rintro h X hX hx hN _ rfl
          rw [List.length_map, List.length_map, List.take_length] at hrows
          rw [← hrows]
          have := VD.rd (CExt.vd hZ hX hx (ghost_of hN (.head _)))
          show Rd _ _ _ (.list ((cs.map (·.row)).map rowD))
          rw [List.map_map]
          exact this
      case he => exact EV.name (.head _)
      exact Gives.ret _ _
end
end Mine
end
section
open PySem PySem.W PyProof.Rows PySem.Calls
set_option maxHeartbeats 8000000
namespace Mine
noncomputable def kTab : List Nat := [9, 8, 7, 6, 5, 4, 3, 2, 1, 9, 6, 3, 0, 0, 0, 0]
noncomputable def lTab : List Str := ["d", "r", "w", "xst", "r", "w", "xst", "r", "w", "xst"]
noncomputable def kOf (i : Int) : Nat := (kTab[i.natAbs / 8 % 16]?).getD 0
noncomputable def lettersOf (k : Nat) : Str := (lTab[k]?).getD ""
noncomputable def plainOf (r : Row) : Str := "/" ++ Str.join "/" r.ws
noncomputable def wsAt (rows : List Row) (n : Nat) : List Str := (rows[n]?.map (·.ws)).getD []
noncomputable def modeAt (rows : List Row) (n : Nat) : Nat := (rows[n]?.map (·.mode)).getD 0
noncomputable def plainAt (rows : List Row) (n : Nat) : Str := ((rows.map plainOf)[n]?).getD ""
noncomputable def commonOf (rows : List Row) (n m : Nat) : Str := "/" ++ Str.join "/" (sharedS (wsAt rows n) (wsAt rows m))
noncomputable def comRow (rows : List Row) (n : Nat) : List Str := (List.range (n + 1)).map (commonOf rows n)
noncomputable def comS (rows : List Row) : List (List Str) := (List.range rows.length).map (comRow rows)
noncomputable def lackCh (m k : Nat) : Bool := !(!(Builtin.Str.occurrences (lettersOf k) (ch1 (listS m) k) 0 (lettersOf k).length 1).isEmpty)
noncomputable def lackN (rows : List Row) (k : Nat) : List Nat := (List.range rows.length).filter fun n => lackCh (modeAt rows n) k
noncomputable def handedS (rows : List Row) (h : List Nat) (i : Int) : List Nat := if i < 0 then metS (fun n m => commonOf rows (max n m) (min n m)) (plainAt rows) h (lackN rows (kOf i)) else h ++ (lackN rows (kOf i)).filter fun n => decide (n ∉ h)
noncomputable def lawStep (rows : List Row) (s : List Nat × List (Bool × Bool)) (i : Int) : List Nat × List (Bool × Bool) := (handedS rows s.1 i, duesS rows s.2 (kOf i) (decide (i < 0)))
noncomputable def wantS (dues : List (Bool × Bool)) : List Str := dues.map fun d => (if d.1 then ("1" : Str) else "0") ++ (if d.2 then ("1" : Str) else "0")
noncomputable def numbersS (is : List Int) : List Int := [49, 29, -6, 260, 234] ++ is.take 3
noncomputable def stateS (rows : List Row) (ns : List Int) : List Nat × List (Bool × Bool) := ns.foldl (lawStep rows) ([], rows.map fun _ => (false, false))
structure LawFacts (ns : List Int) : Prop where
  pos : 0 < (rowsS ns).length
  few : (rowsS ns).length ≤ 8
  row : ∀ r ∈ rowsS ns, Rooted r.sp ∧ normS r.sp = plainOf r ∧ r.mode < 65536 ∧ fileS r.mode = listS r.mode ∧ (listS r.mode).cps.size = 10 ∧ r.ws.length ≤ 5 ∧ (∀ x ∈ r.ws, x.length ≤ 10) ∧ Oks r.ws ∧ PlainP (plainOf r) r.ws ∧ (plainOf r).length ≤ 900 ∧ Rooted (plainOf r ++ "/.") ∧ PyData.strOk (plainOf r) = true ∧ PyData.strOk (listS r.mode) = true
  two : ∀ r ∈ rowsS ns, ∀ q ∈ rowsS ns, PyData.strOk ("/" ++ Str.join "/" (sharedS r.ws q.ws)) = true ∧ sharedS (if ltW q.ws r.ws = true then q.ws else r.ws) (if ltW r.ws q.ws = true then q.ws else r.ws) = sharedS r.ws q.ws ∧
    ∀ i, i < (if ltW q.ws r.ws = true then q.ws else r.ws).length → (if ltW q.ws r.ws = true then q.ws else r.ws).take i = (if ltW r.ws q.ws = true then q.ws else r.ws).take i → i < (if ltW r.ws q.ws = true then q.ws else r.ws).length
  told : ∀ t, t < ns.length → toldS (rowsS ns) ((rowsS ns).map plainOf) (stateS (rowsS ns) (ns.take (t + 1))).1 = wantS (stateS (rowsS ns) (ns.take (t + 1))).2 ++ wantS (stateS (rowsS ns) (ns.take (t + 1))).2
  hand : ∀ t, t ≤ ns.length → (stateS (rowsS ns) (ns.take t)).1.length ≤ 100 ∧ ∀ n ∈ (stateS (rowsS ns) (ns.take t)).1, n < (rowsS ns).length
  dirs : ∀ t, t ≤ ns.length → (∀ x ∈ (askOf (rowsS ns) ((rowsS ns).map plainOf) (stateS (rowsS ns) (ns.take t)).1).dirs1, x.length ≤ 2000000) ∧ ∀ x ∈ (askOf (rowsS ns) ((rowsS ns).map plainOf) (stateS (rowsS ns) (ns.take t)).1).dirs2, x.length ≤ 2000000
theorem kTab_get {j : Nat} (h : j < 16) : (kTab.map fun n => PyData.int (n : Nat))[((j : Nat) : Int).toNat]? = some (.int (((kTab[j]?).getD 0 : Nat) : Int)) := by
  rcases Nat.lt_or_ge j 8 with h8 | h8
  · rcases lt8 h8 with rfl | rfl | rfl | rfl | rfl | rfl | rfl | rfl <;> rfl
  · obtain ⟨i, rfl⟩ : ∃ i, j = i + 8 := ⟨j - 8, by omega⟩
    rcases lt8 (show i < 8 by omega) with rfl | rfl | rfl | rfl | rfl | rfl | rfl | rfl <;> rfl
theorem kOf_lt (i : Int) : kOf i < 10 := by
  unfold kOf
  have h : i.natAbs / 8 % 16 < 16 := Nat.mod_lt _ (by decide)
  generalize i.natAbs / 8 % 16 = j at h
  rcases Nat.lt_or_ge j 8 with h8 | h8
  · rcases lt8 h8 with rfl | rfl | rfl | rfl | rfl | rfl | rfl | rfl <;> decide
  · obtain ⟨i, rfl⟩ : ∃ i, j = i + 8 := ⟨j - 8, by omega⟩
    rcases lt8 (show i < 8 by omega) with rfl | rfl | rfl | rfl | rfl | rfl | rfl | rfl <;> decide
theorem lTab_get {j : Nat} (h : j < 10) : (lTab.map PyData.str)[((j : Nat) : Int).toNat]? = some (.str (lettersOf j)) := by
  rcases Nat.lt_or_ge j 8 with h8 | h8
  · rcases lt8 h8 with rfl | rfl | rfl | rfl | rfl | rfl | rfl | rfl <;> rfl
  · rcases (show j = 8 ∨ j = 9 by omega) with rfl | rfl <;> rfl
section
variable {prog : Program} {w : World} {B : Heap} {mg mb : Str → Option Value} {n : Nat}
noncomputable def lawBase (rows : List Row) (s : List Nat × List (Bool × Bool)) : List (Str × Slot) :=
  [("rows", .r (.d (rowsD rows))), ("plains", .r (.d (txts (rows.map plainOf)))), ("listings", .r (.d (txts (rows.map fun r => listS r.mode)))), ("commons", .r (.d (txtss (comS rows)))), ("handed", .r (.d (nums s.1))), ("dues", .r (.d (duesD s.2)))]
noncomputable def want1 (d : Bool × Bool) : Str := (if d.1 then ("1" : Str) else "0") ++ (if d.2 then ("1" : Str) else "0")
theorem want1_ok (d : Bool × Bool) : PyData.strOk (want1 d) = true := by
  obtain ⟨a, b⟩ := d
  cases a <;> cases b <;> decide +kernel
theorem duesS_len (rows : List Row) (du : List (Bool × Bool)) (k : Nat) (b : Bool) : (duesS rows du k b).length ≤ rows.length := by
  unfold duesS
  rw [List.length_map, List.length_zip]
  exact Nat.min_le_left _ _
noncomputable def lawMid (rows : List Row) (h : List Nat) (du : List (Bool × Bool)) (i : Int) : List (Str × Slot) :=
  [("rows", .r (.d (rowsD rows))), ("plains", .r (.d (txts (rows.map plainOf)))), ("listings", .r (.d (txts (rows.map fun r => listS r.mode)))), ("commons", .r (.d (txtss (comS rows)))), ("handed", .r (.d (nums h))), ("dues", .r (.d (duesD du))), ("number", .r (.d (.int i))), ("k", .r (.d (.int (kOf i : Nat))))]
noncomputable def lawG (Z' : Addr → Prop) (xt' : Heap → Prop) (r : Res) (gs : List (Value × Res)) : Prop := r = .d (.bool true)
theorem law_ok (C : Cx w B mg mb) (is : List Int) (hl : is.length ≤ 63) (LF : LawFacts (numbersS is)) : OPG prog w B True 9 (fun _ => False) (fun _ => True) (.ref 298) [.lo (is.map .int)] lawG := by
  refine OPG.fun (xs := ["script"]) C 298 ⟨_, rfl, rfl⟩ rfl (by decide +kernel) rfl rfl (fun s vs _ hv => BindsTo.of_eq (by obtain ⟨v0, rfl⟩ := lenV1 hv; rfl)) rfl (by decide +kernel) (by decide +kernel) (by decide +kernel) fun L => ?_
  simp only [slotsOf, List.zip_cons_cons, List.zip_nil_left, List.map_cons, List.map_nil]
  have hnl : (numbersS is).length ≤ 8 := by
    unfold numbersS
    rw [List.length_append, List.length_take]; simp only [List.length_cons, List.length_nil]; omega
  obtain ⟨hpos, hfew, hrow, htwo, htold, hhand, hdirs⟩ := LF
  apply GF.consS; apply SF.assignL (r := .d (.list ((numbersS is).map .int)))
  case hk => exact .inl rfl
  case he =>
    apply EV.eq
    case h =>
      apply EV.binop (a := .d (.list [.int 49, .int 29, .int (-6), .int 260, .int 234])) (b := .d (.list ((is.map PyData.int).take (3 : Int).toNat)))
      case hl =>
        o_facts C
        o_facts S; all_goals try first | assumption | decide | exact IntMulOk.of_right (by decide +kernel) | (intro _; exact rfl) | (simp only [lens] at *; omega) | simp [sizeLine_eq] <;> omega
      case hr =>
        apply EV.lsliceLo
        · o_facts C
        · o_facts C
        · decide
        · rw [List.length_map, sizeLine_eq]; omega
      case ho =>
        apply OP.ladd
        rw [List.length_take, List.length_map, sizeLine_eq]
        simp only [List.length_cons, List.length_nil]
        omega
    show Res.d (.list _) = Res.d (.list _)
    congr 2
    unfold numbersS
    rw [List.map_append, ← List.map_take]
    rfl
  case up => o_facts U
  generalize numbersS is = ns at *
  apply GF.consS; apply SF.assignL (r := .d (rowsD (rowsS ns)))
  case hk => exact .inr ⟨rfl, _, rfl⟩
  case he =>
    apply EV.call
    case hf => o_facts C
    case hk => o_facts C
    case h => o_facts C
    case ho => exact OP.room (rows_ok C ns (by omega) (fun _ _ => trivial)) (by decide)
    case he => rfl
  case up => o_facts U
  generalize rowsS ns = rows at *
  have hpl : Oks (rows.map plainOf) := fun x hx => by
    obtain ⟨r, hr, rfl⟩ := List.mem_map.mp hx
    exact (hrow r hr).2.2.2.2.2.2.2.2.2.2.2.1
  have hli : Oks (rows.map fun r => listS r.mode) := fun x hx => by
    obtain ⟨r, hr, rfl⟩ := List.mem_map.mp hx
    exact (hrow r hr).2.2.2.2.2.2.2.2.2.2.2.2
  apply GF.consS; apply SF.assignL (r := .d (txts (rows.map plainOf)))
  case hk => exact .inr ⟨rfl, _, rfl⟩
  case he =>
    apply EV.eq
    case h =>
      apply EV.listcomp (L₀ := rows) (ρ := fun r => .d (rowD r)) (f := fun r => some (.str (plainOf r))) (nuC := [])
      case it =>
        apply IT.eq'
        case h =>
          apply IT.list
          o_facts C
        exact List.map_map
      case C => exact CompOk.of [] .nil rfl rfl (by decide +kernel) (by decide +kernel) .nil (by decide +kernel) (by first | exact .inl rfl | exact .inr rfl)
      case hsz => rw [sizeLine_eq]; omega
      case body =>
        intro r hr cs L'
        refine ⟨TVs.nil rfl, fun d hd => ?_⟩
        cases hd
        apply EV.eq
        case h =>
          apply EV.call (rs := [.d (.str r.sp)])
          case hf => o_facts C
          case hk => o_facts C
          case h =>
            o_facts C
            o_facts S; all_goals try first | assumption | decide | exact IntMulOk.of_right (by decide +kernel) | (intro _; exact rfl) | (simp only [lens] at *; omega) | simp [sizeLine_eq] <;> omega
          case ho => exact OP.room (normpath_ok C r.sp (hrow r hr).1) (by decide)
          case he => rfl
        rw [(hrow r hr).2.1]
    show Res.d (.list _) = Res.d (.list ((rows.map plainOf).map .str))
    rw [List.map_map, List.filterMap_eq_map']
    rfl
  case up => o_facts U
  apply GF.consS; apply SF.assignL (r := .d (txts (rows.map fun r => listS r.mode)))
  case hk => exact .inr ⟨rfl, _, rfl⟩
  case he =>
    apply EV.eq
    case h =>
      apply EV.listcomp (L₀ := rows) (ρ := fun r => .d (rowD r)) (f := fun r => some (.str (listS r.mode))) (nuC := [])
      case it =>
        apply IT.eq'
        case h =>
          apply IT.list
          o_facts C
        exact List.map_map
      case C => exact CompOk.of [] .nil rfl rfl (by decide +kernel) (by decide +kernel) .nil (by decide +kernel) (by first | exact .inl rfl | exact .inr rfl)
      case hsz => rw [sizeLine_eq]; omega
      case body =>
        intro r hr cs L'
        refine ⟨TVs.nil rfl, fun d hd => ?_⟩
        cases hd
        apply EV.eq
        case h =>
          apply EV.call (rs := [.d (.int (r.mode : Nat))])
          case hf => o_facts C
          case hk => o_facts C
          case h =>
            o_facts C
            o_facts S; all_goals try first | assumption | decide | exact IntMulOk.of_right (by decide +kernel) | (intro _; exact rfl) | (simp only [lens] at *; omega) | simp [sizeLine_eq] <;> omega
          case ho => exact OP.room (filemode_ok C r.mode) (by decide)
          case he => rfl
        rw [(hrow r hr).2.2.2.1]
    show Res.d (.list _) = Res.d (.list ((rows.map fun r => listS r.mode).map .str))
    rw [List.map_map, List.filterMap_eq_map']
    rfl
  case up => o_facts U
  apply GF.consS; apply SF.ite (b := false)
  case h1 => exact fun h => nomatch h
  case ht =>
    apply TV.eq
    case h =>
      apply TV.or2p (p := false) (q := false)
      · apply TV.eq
        case h =>
          apply TV.cmp (a := .d (txts (rows.map plainOf))) (b := .d (txts (rows.map plainOf)))
          case hl => o_facts C
          case hr =>
            apply EV.eq
            case h =>
              apply EV.listcomp (L₀ := rows) (ρ := fun r => .d (rowD r)) (f := fun r => some (.str (plainOf r))) (nuC := [])
              case it =>
                apply IT.eq'
                case h =>
                  apply IT.list
                  o_facts C
                exact List.map_map
              case C => exact CompOk.of [] .nil rfl rfl (by decide +kernel) (by decide +kernel) .nil (by decide +kernel) (by first | exact .inl rfl | exact .inr rfl)
              case hsz => rw [sizeLine_eq]; omega
              case body =>
                intro r hr cs L'
                refine ⟨TVs.nil rfl, fun d hd => ?_⟩
                cases hd
                have hw := (hrow r hr).2.2.2.2.2.2.1
                have hw2 := (hrow r hr).2.2.2.2.2.1
                have hj : JoinOk "/" r.ws = true := joinOk_short (fun x hx => Nat.le_trans (hw x hx) (by decide)) (Nat.le_trans hw2 (by decide)) (by decide)
                have hjl := join_short (l := r.ws) (sep := "/") (fun x hx => Nat.le_trans (hw x hx) (by decide)) (Nat.le_trans hw2 (by decide)) (by decide)
                unfold plainOf
                o_facts C
                all_goals (first | exact hj | exact rfl | exact HasItems.list | decide | (rw [sizeLine_eq, len_slash]; omega))
            show Res.d (.list _) = Res.d (.list ((rows.map plainOf).map .str))
            rw [List.map_map, List.filterMap_eq_map']
            rfl
          case ho => exact OP.ne (shaped_txts hpl) (shaped_txts hpl)
          case hm => rfl
        rw [eqv_txts]; simp
      · apply TV.eq
        case h =>
          apply TV.cmp (a := .d (txts (rows.map fun r => listS r.mode))) (b := .d (txts (rows.map fun r => listS r.mode)))
          case hl => o_facts C
          case hr =>
            apply EV.eq
            case h =>
              apply EV.listcomp (L₀ := rows) (ρ := fun r => .d (rowD r)) (f := fun r => some (.str (listS r.mode))) (nuC := [])
              case it =>
                apply IT.eq'
                case h =>
                  apply IT.list
                  o_facts C
                exact List.map_map
              case C => exact CompOk.of [] .nil rfl rfl (by decide +kernel) (by decide +kernel) .nil (by decide +kernel) (by first | exact .inl rfl | exact .inr rfl)
              case hsz => rw [sizeLine_eq]; omega
              case body =>
                intro r hr cs L'
                refine ⟨TVs.nil rfl, fun d hd => ?_⟩
                cases hd
                apply EV.call (rs := [.d (.int (r.mode : Nat))])
                case hf => o_facts C
                case hk => o_facts C
                case h =>
                  o_facts C
                  o_facts S; all_goals try first | assumption | decide | exact IntMulOk.of_right (by decide +kernel) | (intro _; exact rfl) | (simp only [lens] at *; omega) | simp [sizeLine_eq] <;> omega
                case ho => exact OP.room (listing_ok C r.mode (hrow r hr).2.2.1) (by decide)
                case he => rfl
            show Res.d (.list _) = Res.d (.list ((rows.map fun r => listS r.mode).map .str))
            rw [List.map_map, List.filterMap_eq_map']
            rfl
          case ho => exact OP.ne (shaped_txts hli) (shaped_txts hli)
          case hm => rfl
        rw [eqv_txts]; simp
    rfl
  intro _
  (repeat (apply SF.nil))
  have hcom : Okss (comS rows) := fun x hx => by
    obtain ⟨n, hn, rfl⟩ := List.mem_map.mp hx
    intro y hy
    obtain ⟨m, hm, rfl⟩ := List.mem_map.mp hy
    have hn2 : n < rows.length := List.mem_range.mp hn
    have hm2 : m < rows.length := by have := List.mem_range.mp hm; omega
    have := (htwo _ (List.getElem_mem hn2) _ (List.getElem_mem hm2)).1
    unfold commonOf wsAt
    rw [List.getElem?_eq_getElem hn2, List.getElem?_eq_getElem hm2]
    exact this
  have hat : ∀ n, n < rows.length → ∃ r, r ∈ rows ∧ rows[n]? = some r ∧ wsAt rows n = r.ws ∧ modeAt rows n = r.mode := fun n hn =>
    ⟨rows[n], List.getElem_mem hn, List.getElem?_eq_getElem hn, by unfold wsAt; rw [List.getElem?_eq_getElem hn]; rfl, by unfold modeAt; rw [List.getElem?_eq_getElem hn]; rfl⟩
  apply GF.consS; apply SF.assignComp (L₀ := List.range rows.length) (ρ := fun n => .d (.int (n : Nat))) (f := fun n => some (txts (comRow rows n))) (nuC := [("plains", .d (txts (rows.map plainOf)))])
  case it =>
    apply IT.eq'
    case h =>
      apply IT.call (rs := [.d (.int ((rows.length : Nat) : Int))])
      case hf => o_facts C
      case hk => o_facts C
      case he => rfl
      case h =>
        refine EVs.cons ?_ .nil
        apply EV.eq
        case h =>
          o_facts C
          o_facts S; all_goals try first | assumption | decide | exact IntMulOk.of_right (by decide +kernel) | (intro _; exact rfl) | (simp only [lens] at *; omega) | simp [sizeLine_eq] <;> omega
        rw [List.length_map]
      case ho => exact IOP.range (by omega)
    rfl
  case C => exact CompOk.of ["plains"] (.cons rfl .nil) rfl rfl (by decide +kernel) (by decide +kernel) (.cons rfl rfl .nil) (by decide +kernel) (by first | exact .inl rfl | exact .inr rfl)
  case hsz => rw [List.length_range, sizeLine_eq]; omega
  case hk => exact .inl rfl
  case body =>
    intro n hn cs L'
    have hn2 : n < rows.length := List.mem_range.mp hn
    refine ⟨TVs.nil rfl, fun d hd => ?_⟩
    cases hd
    apply EV.eq
    case h =>
      apply EV.listcomp (L₀ := List.range (n + 1)) (ρ := fun m => .d (.int (m : Nat))) (f := fun m => some (.str (commonOf rows n m))) (nuC := [("plains", .d (txts (rows.map plainOf))), ("n", .d (.int (n : Nat)))])
      case it =>
        apply IT.eq'
        case h =>
          apply IT.call (rs := [.d (.int ((n + 1 : Nat) : Int))])
          case hf => o_facts C
          case hk => o_facts C
          case he => rfl
          case h =>
            refine EVs.cons ?_ .nil
            apply EV.eq
            case h =>
              o_facts C
              o_facts S; all_goals try first | assumption | decide | exact IntMulOk.of_right (by decide +kernel) | (intro _; exact rfl) | (simp only [lens] at *; omega) | simp [sizeLine_eq] <;> omega
            rfl
          case ho => exact IOP.range (by omega)
        rfl
      case C => exact CompOk.of ["plains", "n"] (.cons rfl (.cons rfl .nil)) rfl rfl (by decide +kernel) (by decide +kernel) (.cons rfl rfl (.cons rfl rfl .nil)) (by decide +kernel) (by first | exact .inl rfl | exact .inr rfl)
      case hsz => rw [List.length_range, sizeLine_eq]; omega
      case body =>
        intro m hm cs' L''
        have hm2 : m < rows.length := by have := List.mem_range.mp hm; omega
        refine ⟨TVs.nil rfl, fun d hd => ?_⟩
        cases hd
        obtain ⟨r, hr, hrn, hrw, _⟩ := hat n hn2
        obtain ⟨q, hq, hqn, hqw, _⟩ := hat m hm2
        have hx1 : ((rows.map plainOf).map PyData.str)[((n : Nat) : Int).toNat]? = some (.str (plainOf r)) := by rw [Int.toNat_natCast, List.getElem?_map, List.getElem?_map, hrn]; rfl
        have hx2 : ((rows.map plainOf).map PyData.str)[((m : Nat) : Int).toNat]? = some (.str (plainOf q)) := by rw [Int.toNat_natCast, List.getElem?_map, List.getElem?_map, hqn]; rfl
        have h2 := htwo r hr q hq
        apply EV.eq
        case h =>
          apply EV.call (rs := [.d (txts [plainOf r, plainOf q])])
          case hf => o_facts C
          case hk => o_facts C
          case he => rfl
          case ho => exact OP.room (commonpath_ok C (plainOf r) (plainOf q) r.ws q.ws (hrow r hr).2.2.2.2.2.2.2.2.1 (hrow q hq).2.2.2.2.2.2.2.2.1 _ _ rfl rfl h2.2.2) (by decide)
          case h =>
            refine EVs.cons ?_ .nil
            apply EV.listD (ds := [.str (plainOf r), .str (plainOf q)])
            case h =>
              o_facts C
              all_goals (first | exact hx1 | exact hx2 | exact HasItems.list | omega | exact rfl)
            case he => rfl
            case hl => decide +kernel
        rw [h2.2.1]
        unfold commonOf
        rw [hrw, hqw]
    show Res.d (.list _) = Res.d (.list ((comRow rows n).map .str))
    unfold comRow
    rw [List.map_map, List.filterMap_eq_map']
    rfl
  case up => o_facts U
  rw [show ((List.range rows.length).filterMap fun n => some (txts (comRow rows n))) = (comS rows).map txts by unfold comS; rw [List.map_map, List.filterMap_eq_map']; rfl]
  apply GF.consS; apply SF.ite (b := false)
  case h1 => exact fun h => nomatch h
  case ht =>
    apply TV.eq
    case h =>
      apply TV.cmp (a := .d (txtss (comS rows))) (b := .d (txtss (comS rows)))
      case hl => o_facts C
      case hr =>
        apply EV.eq
        case h =>
          apply EV.listcomp (L₀ := List.range rows.length) (ρ := fun n => .d (.int (n : Nat))) (f := fun n => some (txts (comRow rows n))) (nuC := [("rows", .d (rowsD rows))])
          case it =>
            apply IT.eq'
            case h =>
              apply IT.call (rs := [.d (.int ((rows.length : Nat) : Int))])
              case hf => o_facts C
              case hk => o_facts C
              case he => rfl
              case h =>
                refine EVs.cons ?_ .nil
                apply EV.eq
                case h =>
                  o_facts C
                  o_facts S; all_goals try first | assumption | decide | exact IntMulOk.of_right (by decide +kernel) | (intro _; exact rfl) | (simp only [lens] at *; omega) | simp [sizeLine_eq] <;> omega
                rw [List.length_map]
              case ho => exact IOP.range (by omega)
            rfl
          case C => exact CompOk.of ["rows"] (.cons rfl .nil) rfl rfl (by decide +kernel) (by decide +kernel) (.cons rfl rfl .nil) (by decide +kernel) (by first | exact .inl rfl | exact .inr rfl)
          case hsz => rw [List.length_range, sizeLine_eq]; omega
          case body =>
            intro n hn cs L'
            have hn2 : n < rows.length := List.mem_range.mp hn
            refine ⟨TVs.nil rfl, fun d hd => ?_⟩
            cases hd
            apply EV.eq
            case h =>
              apply EV.listcomp (L₀ := List.range (n + 1)) (ρ := fun m => .d (.int (m : Nat))) (f := fun m => some (.str (commonOf rows n m))) (nuC := [("rows", .d (rowsD rows)), ("n", .d (.int (n : Nat)))])
              case it =>
                apply IT.eq'
                case h =>
                  apply IT.call (rs := [.d (.int ((n + 1 : Nat) : Int))])
                  case hf => o_facts C
                  case hk => o_facts C
                  case he => rfl
                  case h =>
                    refine EVs.cons ?_ .nil
                    apply EV.eq
                    case h =>
                      o_facts C
                      o_facts S; all_goals try first | assumption | decide | exact IntMulOk.of_right (by decide +kernel) | (intro _; exact rfl) | (simp only [lens] at *; omega) | simp [sizeLine_eq] <;> omega
                    rfl
                  case ho => exact IOP.range (by omega)
                rfl
              case C => exact CompOk.of ["rows", "n"] (.cons rfl (.cons rfl .nil)) rfl rfl (by decide +kernel) (by decide +kernel) (.cons rfl rfl (.cons rfl rfl .nil)) (by decide +kernel) (by first | exact .inl rfl | exact .inr rfl)
              case hsz => rw [List.length_range, sizeLine_eq]; omega
              case body =>
                intro m hm cs' L''
                have hm2 : m < rows.length := by have := List.mem_range.mp hm; omega
                refine ⟨TVs.nil rfl, fun d hd => ?_⟩
                cases hd
                obtain ⟨r, hr, hrn, hrw, _⟩ := hat n hn2
                obtain ⟨q, hq, hqn, hqw, _⟩ := hat m hm2
                have hx1 : (rows.map rowD)[((n : Nat) : Int).toNat]? = some (rowD r) := by rw [Int.toNat_natCast, List.getElem?_map, hrn]; rfl
                have hx2 : (rows.map rowD)[((m : Nat) : Int).toNat]? = some (rowD q) := by rw [Int.toNat_natCast, List.getElem?_map, hqn]; rfl
                have hw := (hrow r hr).2.2.2.2.2.2.1
                have hw2 := (hrow r hr).2.2.2.2.2.1
                have hsw : ∀ x ∈ sharedS r.ws q.ws, x.length ≤ 1000 := fun x hx => Nat.le_trans (hw x (sharedS_mem _ _ _ hx)) (by decide)
                have hsl : (sharedS r.ws q.ws).length ≤ 1002 := Nat.le_trans (sharedS_len _ _) (by omega)
                have hj : JoinOk "/" (sharedS r.ws q.ws) = true := joinOk_short hsw hsl (by decide)
                have hjl := join_short (l := sharedS r.ws q.ws) (sep := "/") hsw hsl (by decide)
                unfold commonOf
                rw [hrw, hqw]
                apply EV.binop (a := .d (.str "/")) (b := .d (.str (Str.join "/" (sharedS r.ws q.ws))))
                case hl => o_facts C
                case hr =>
                  apply EV.join (xs := sharedS r.ws q.ws)
                  case ho => o_facts C
                  case he =>
                    apply EV.call (rs := [.d (txts r.ws), .d (txts q.ws)])
                    case hf => o_facts C
                    case hk => o_facts C
                    case he => rfl
                    case ho => exact OP.room (shared_ok C r.ws q.ws (by omega)) (by decide)
                    case h =>
                      o_facts C
                      all_goals (first | exact hx1 | exact hx2 | exact HasItems.list | omega | exact rfl)
                  all_goals (first | exact hj | exact rfl)
                case ho => exact OP.sadd (by rw [sizeLine_eq, len_slash]; omega)
            show Res.d (.list _) = Res.d (.list ((comRow rows n).map .str))
            unfold comRow
            rw [List.map_map, List.filterMap_eq_map']
            rfl
        show Res.d (.list _) = Res.d (.list ((comS rows).map txts))
        unfold comS
        rw [List.map_map, List.filterMap_eq_map']
        rfl
      case ho => exact OP.ne (shaped_txtss hcom) (shaped_txtss hcom)
      case hm => rfl
    rw [eqv_txtss]; simp
  intro _
  (repeat (apply SF.nil))
  apply GF.consS; apply SF.assignL (r := .d (nums []))
  case hk => exact .inr ⟨rfl, _, rfl⟩
  case he => exact EV.listD .nil rfl (by decide +kernel)
  case up => o_facts U
  apply GF.consS; apply SF.assignComp (L₀ := rows) (ρ := fun r => .d (rowD r)) (f := fun _ => some (dueD (false, false))) (nuC := [])
  case it =>
    apply IT.eq'
    case h =>
      apply IT.list
      o_facts C
    exact List.map_map
  case C => exact CompOk.of [] .nil rfl rfl (by decide +kernel) (by decide +kernel) .nil (by decide +kernel) (by first | exact .inl rfl | exact .inr rfl)
  case hsz => rw [sizeLine_eq]; omega
  case hk => exact .inl rfl
  case body =>
    intro r hr cs L'
    refine ⟨TVs.nil rfl, fun d hd => ?_⟩
    cases hd
    o_facts C
  case up => o_facts U
  rw [show (rows.filterMap fun _ => some (dueD (false, false))) = (rows.map fun _ => (false, false)).map dueD by rw [List.map_map, List.filterMap_eq_map']; rfl]
  apply GF.cons; apply GF.for (fun t Z st => Z = (fun _ => False) ∧ st.ext = (fun _ => True) ∧ (lawBase rows (stateS rows (ns.take t))).Sublist st.loc)
  case it =>
    apply IT.list
    o_facts C
  case h0 =>
    refine ⟨rfl, rfl, ?_⟩
    unfold lawBase stateS
    rw [List.take_zero, List.foldl_nil]
    o_facts L
  case turn =>
    rintro t r Z ⟨l, xt⟩ hr ⟨rfl, rfl, hs⟩
    obtain ⟨i, hi, rfl⟩ := map_at hr
    have ht : t < ns.length := (List.getElem?_eq_some_iff.mp hi).1
    have hnext : stateS rows (ns.take (t + 1)) = lawStep rows (stateS rows (ns.take t)) i := foldl_at hi
    obtain ⟨hh1, hh2⟩ := hhand t (Nat.le_of_lt ht)
    obtain ⟨hg1, hg2⟩ := hhand (t + 1) ht
    have htl := htold t ht
    have hdr := hdirs (t + 1) ht
    generalize stateS rows (ns.take (t + 1)) = S1 at *
    generalize stateS rows (ns.take t) = S0 at *
    obtain ⟨h, du⟩ := S0
    have hh1 : h.length ≤ 100 := hh1
    have hh2 : ∀ n ∈ h, n < rows.length := hh2
    have hk := kOf_lt i
    unfold lawBase at hs
    apply turnG_
    case a =>
      apply AS.weaken hs
      apply AS.nameL (.inl rfl)
      o_facts U
    have hcut : ((if i < 0 then -i else i).fdiv 8).fmod 16 = ((i.natAbs / 8 % 16 : Nat) : Int) := by
      rw [show (if i < 0 then -i else i) = ((i.natAbs : Nat) : Int) from by split <;> omega, show (8 : Int) = ((8 : Nat) : Int) from rfl, show (16 : Int) = ((16 : Nat) : Int) from rfl, fdiv_nat, fmod_nat]
    apply GF.consS; apply SF.assignL (r := .d (.int (kOf i : Nat)))
    case hk => exact .inr ⟨rfl, _, rfl⟩
    case he =>
      apply EV.item (a := .d (.list (kTab.map fun n => PyData.int (n : Nat)))) (b := .d (.int ((i.natAbs / 8 % 16 : Nat) : Int)))
      case ho =>
        apply EV.eq
        case h =>
          apply EV.listD
          case h => o_facts C
          case he => rfl
          case hl => decide +kernel
        rfl
      case hi =>
        apply EV.eq
        case h =>
          o_facts C
          o_facts S; all_goals try first | assumption | decide | exact IntMulOk.of_right (by decide +kernel) | (intro _; exact rfl) | (simp only [lens] at *; omega) | simp [sizeLine_eq] <;> omega
        rw [hcut]
      case hop => exact OP.litem (Int.natCast_nonneg _) (by have := Nat.mod_lt (i.natAbs / 8) (show 0 < 16 by decide); omega) (kTab_get (Nat.mod_lt _ (by decide)))
      case hI => exact HasItems.list
      case hp => rfl
    case up => o_facts U
    apply GF.consS; apply SF.assignL (r := .d (.str (lettersOf (kOf i))))
    case hk => exact .inr ⟨rfl, _, rfl⟩
    case he =>
      apply EV.item (a := .d (.list (lTab.map PyData.str))) (b := .d (.int (kOf i : Nat)))
      case ho =>
        apply EV.eq
        case h =>
          apply EV.listD
          case h => o_facts C
          case he => rfl
          case hl => decide +kernel
        rfl
      case hi => o_facts C
      case hop => exact OP.litem (Int.natCast_nonneg _) (by omega) (lTab_get hk)
      case hI => exact HasItems.list
      case hp => rfl
    case up => o_facts U
    apply GF.consS; apply SF.assignComp (L₀ := List.range rows.length) (ρ := fun n => .d (.int (n : Nat))) (f := fun n => if lackCh (modeAt rows n) (kOf i) = true then some (.int (n : Nat)) else none) (nuC := [("listings", .d (txts (rows.map fun r => listS r.mode))), ("k", .d (.int (kOf i : Nat))), ("letters", .d (.str (lettersOf (kOf i))))])
    case it =>
      apply IT.eq'
      case h =>
        apply IT.call (rs := [.d (.int ((rows.length : Nat) : Int))])
        case hf => o_facts C
        case hk => o_facts C
        case he => rfl
        case h =>
          refine EVs.cons ?_ .nil
          apply EV.eq
          case h =>
            o_facts C
            o_facts S; all_goals try first | assumption | decide | exact IntMulOk.of_right (by decide +kernel) | (intro _; exact rfl) | (simp only [lens] at *; omega) | simp [sizeLine_eq] <;> omega
          rw [List.length_map]
        case ho => exact IOP.range (by omega)
      rfl
    case C => exact CompOk.of ["listings", "k", "letters"] (.cons rfl (.cons rfl (.cons rfl .nil))) rfl rfl (by decide +kernel) (by decide +kernel) (.cons rfl rfl (.cons rfl rfl (.cons rfl rfl .nil))) (by decide +kernel) (by first | exact .inl rfl | exact .inr rfl)
    case hsz => rw [List.length_range, sizeLine_eq]; omega
    case hk => exact .inl rfl
    case body =>
      intro n hn cs L'
      have hn2 : n < rows.length := List.mem_range.mp hn
      obtain ⟨r, hr, hrn, _, hrm⟩ := hat n hn2
      have hx1 : ((rows.map fun r => listS r.mode).map PyData.str)[((n : Nat) : Int).toNat]? = some (.str (listS r.mode)) := by rw [Int.toNat_natCast, List.getElem?_map, List.getElem?_map, hrn]; rfl
      have hsz := (hrow r hr).2.2.2.2.1
      have hx2 : (listS r.mode).cps[((kOf i : Nat) : Int).toNat]? = some (((listS r.mode).cps[kOf i]?).getD 0) := by rw [Int.toNat_natCast]; exact ch1_get (by rw [hsz]; exact hk)
      refine ⟨?_, fun d hd => ?_⟩
      · apply TVs.one
        case h =>
          apply TV.cmp (a := .d (.str (ch1 (listS r.mode) (kOf i)))) (b := .d (.str (lettersOf (kOf i))))
          case hl =>
            apply EV.item (a := .d (.str (listS r.mode))) (b := .d (.int (kOf i : Nat)))
            case ho =>
              o_facts C
              all_goals (first | exact hx1 | exact HasItems.list | omega | exact rfl)
            case hi => o_facts C
            case hop => exact OP.sitem (Int.natCast_nonneg _) (by omega) hx2
            case hI => exact HasItems.str
            case hp => rfl
          case hr => o_facts C
          case ho => exact OP.snotin
          case hm => rfl
        rw [hrm]
        show lackCh r.mode (kOf i) = _
        by_cases hb : lackCh r.mode (kOf i) = true <;> simp [hb]
      · have : d = .int (n : Nat) := by
          by_cases hb : lackCh (modeAt rows n) (kOf i) = true <;> simp [hb] at hd
          exact hd.symm
        subst this
        o_facts C
    case up => o_facts U
    rw [show ((List.range rows.length).filterMap fun n => if lackCh (modeAt rows n) (kOf i) = true then some (PyData.int (n : Nat)) else none) = (lackN rows (kOf i)).map fun n => PyData.int (n : Nat) by
      unfold lackN
      induction List.range rows.length with
      | nil => rfl
      | cons a l ih =>
        by_cases hb : lackCh (modeAt rows a) (kOf i) = true
        · rw [List.filterMap_cons_some (by rw [if_pos hb]), List.filter_cons_of_pos (p := fun n => lackCh (modeAt rows n) (kOf i)) hb, List.map_cons, ih]
        · rw [List.filterMap_cons_none (by rw [if_neg hb]), List.filter_cons_of_neg (p := fun n => lackCh (modeAt rows n) (kOf i)) hb, ih]]
    have hlk : ∀ n ∈ lackN rows (kOf i), n < rows.length := fun n hn => List.mem_range.mp (List.mem_filter.mp hn).1
    have hlkl : (lackN rows (kOf i)).length ≤ 1000 := Nat.le_trans (List.length_filter_le _ _) (by rw [List.length_range]; omega)
    subst hnext
    apply GF.seq (fun Z st => Z = (fun _ => False) ∧ st.ext = (fun _ => True) ∧ (lawMid rows (handedS rows h i) du i).Sublist st.loc)
    case a =>
      apply GF.iteV (b := decide (i < 0)) (nuV := [("number", .d (.int i))])
      case V =>
        apply View.put View.nil
        o_facts M
      case ht =>
        o_facts C
        o_facts S; all_goals try first | assumption | decide | exact IntMulOk.of_right (by decide +kernel) | (intro _; exact rfl) | (simp only [lens] at *; omega) | simp [sizeLine_eq] <;> omega
      case h1 =>
        intro hb
        have hb : i < 0 := by simpa using hb
        apply GF.consS; apply SF.assignL (r := .d (nums (handedS rows h i)))
        case hk => exact .inr ⟨rfl, _, rfl⟩
        case he =>
          unfold handedS
          rw [if_pos hb]
          apply EV.call (rs := [.d (nums h), .d (nums (lackN rows (kOf i))), .d (txtss (comS rows)), .d (txts (rows.map plainOf))])
          case hf => o_facts C
          case hk => o_facts C
          case h => o_facts C
          case he => rfl
          case ho =>
            refine OP.room (met_ok C h (lackN rows (kOf i)) (comS rows) (rows.map plainOf) (fun n m => commonOf rows (max n m) (min n m)) (plainAt rows) (by omega) hlkl (fun n hn => by have := hh2 n hn; omega) (fun n hn => by have := hlk n hn; omega) (fun n hn m hm => ?_) (fun n hn => ?_) (fun n hn => ?_)) (by decide)
            · have h1 := hh2 n hn
              have h2 := hlk m hm
              have h3 : max n m < rows.length := by omega
              refine ⟨comRow rows (max n m), ?_, ?_⟩
              · unfold comS; rw [List.getElem?_map, List.getElem?_range h3]; rfl
              · unfold comRow; rw [List.getElem?_map, List.getElem?_range (by omega)]; rfl
            · have h1 := hh2 n hn
              have h3 : n < (rows.map plainOf).length := by rw [List.length_map]; exact h1
              unfold plainAt; rw [List.getElem?_eq_getElem h3]; rfl
            · have h1 := hlk n hn
              have h3 : n < (rows.map plainOf).length := by rw [List.length_map]; exact h1
              unfold plainAt; rw [List.getElem?_eq_getElem h3]; rfl
        case up => o_facts U
        apply GF.nil
        refine ⟨rfl, rfl, ?_⟩
        unfold lawMid
        o_facts L
      case h2 =>
        intro hb
        have hb : ¬ i < 0 := by simpa using hb
        apply GF.consS; apply SF.assignL (r := .d (nums (handedS rows h i)))
        case hk => exact .inr ⟨rfl, _, rfl⟩
        case he =>
          unfold handedS
          rw [if_neg hb]
          apply EV.eq
          case h =>
            apply EV.binop (a := .d (nums h)) (b := .d (.list ((lackN rows (kOf i)).filterMap fun n => if n ∉ h then some (.int (n : Nat)) else none)))
            case hl => o_facts C
            case hr =>
              apply EV.listcomp (L₀ := lackN rows (kOf i)) (ρ := fun n => .d (.int (n : Nat))) (f := fun n => if n ∉ h then some (.int (n : Nat)) else none) (nuC := [("handed", .d (nums h))])
              case it =>
                apply IT.eq'
                case h =>
                  apply IT.list
                  o_facts C
                exact List.map_map
              case C => exact CompOk.of ["handed"] (.cons rfl .nil) rfl rfl (by decide +kernel) (by decide +kernel) (.cons rfl rfl .nil) (by decide +kernel) (by first | exact .inl rfl | exact .inr rfl)
              case hsz => rw [sizeLine_eq]; omega
              case body =>
                intro n hn cs L'
                refine ⟨?_, fun d hd => ?_⟩
                · apply TVs.one
                  case h =>
                    apply TV.cmp (a := .d (.int (n : Nat))) (b := .d (nums h))
                    case hl => o_facts C
                    case hr => o_facts C
                    case ho => exact OP.notin (lay_ints _) rfl (Nat.zero_le _)
                    case hm => rfl
                  rw [in_ints]
                  by_cases hb : n ∈ h <;> simp [hb]
                · have : d = .int (n : Nat) := by
                    by_cases hb : n ∈ h <;> simp [hb] at hd
                    exact hd.symm
                  subst this
                  o_facts C
            case ho =>
              apply OP.ladd
              rw [List.length_map, sizeLine_eq]
              have := List.length_filterMap_le (fun n => if n ∉ h then some (PyData.int (n : Nat)) else none) (lackN rows (kOf i))
              omega
          show Res.d (.list _) = Res.d (.list _)
          rw [List.map_append]
          congr 3
          induction lackN rows (kOf i) with
          | nil => rfl
          | cons a l ih =>
            by_cases hb : a ∈ h
            · rw [List.filterMap_cons_none (by rw [if_neg (by simpa using hb)]), List.filter_cons_of_neg (by simpa using hb), ih]
            · rw [List.filterMap_cons_some (by rw [if_pos hb]), List.filter_cons_of_pos (by simpa using hb), List.map_cons, ih]
        case up => o_facts U
        apply GF.nil
        refine ⟨rfl, rfl, ?_⟩
        unfold lawMid
        o_facts L
    case b =>
      rintro Z ⟨l, xt⟩ ⟨rfl, rfl, hs⟩
      apply GF.weaken hs
      unfold lawMid
      have hokr : OkRows rows := fun r hr => ⟨(hrow r hr).2.2.2.2.2.2.2.1, Nat.le_trans (hrow r hr).2.2.2.2.2.1 (by decide), (hrow r hr).2.2.1⟩
      apply GF.consS; apply SF.assignL (r := .d (duesD (duesS rows du (kOf i) (decide (i < 0)))))
      case hk => exact .inl rfl
      case he =>
        apply EV.call (rs := [.d (rowsD rows), .d (duesD du), .d (.int (kOf i : Nat)), .d (.bool (decide (i < 0)))])
        case hf => o_facts C
        case hk => o_facts C
        case h =>
          o_facts C
          o_facts S; all_goals try first | assumption | decide | exact IntMulOk.of_right (by decide +kernel) | (intro _; exact rfl) | (simp only [lens] at *; omega) | simp [sizeLine_eq] <;> omega
        case he => rfl
        case ho => exact OP.room (dues_ok C rows du (kOf i) (decide (i < 0)) hokr (by omega) (by omega)) (by decide)
      case up => o_facts U
      have hdl := duesS_len rows du (kOf i) (decide (i < 0))
      have htl : toldS rows (rows.map plainOf) (handedS rows h i) = wantS (duesS rows du (kOf i) (decide (i < 0))) ++ wantS (duesS rows du (kOf i) (decide (i < 0))) := htl
      have hg1 : (handedS rows h i).length ≤ 100 := hg1
      have hg2 : ∀ n ∈ handedS rows h i, n < rows.length := hg2
      have hd1 : ∀ x ∈ (askOf rows (rows.map plainOf) (handedS rows h i)).dirs1, x.length ≤ 2000000 := hdr.1
      have hd2 : ∀ x ∈ (askOf rows (rows.map plainOf) (handedS rows h i)).dirs2, x.length ≤ 2000000 := hdr.2
      have hbase : lawBase rows (lawStep rows (h, du) i) = lawBase rows (handedS rows h i, duesS rows du (kOf i) (decide (i < 0))) := rfl
      rw [hbase]
      generalize duesS rows du (kOf i) (decide (i < 0)) = du' at *
      generalize handedS rows h i = h' at *
      have hwok : Oks (wantS du') := fun x hx => by
        obtain ⟨d, _, rfl⟩ := List.mem_map.mp hx
        exact want1_ok d
      apply GF.consS; apply SF.assignComp (L₀ := du') (ρ := fun d => .d (dueD d)) (f := fun d => some (.str (want1 d))) (nuC := [])
      case it =>
        apply IT.eq'
        case h =>
          apply IT.list
          o_facts C
        exact List.map_map
      case C => exact CompOk.of [] .nil rfl rfl (by decide +kernel) (by decide +kernel) .nil (by decide +kernel) (by first | exact .inl rfl | exact .inr rfl)
      case hsz => rw [sizeLine_eq]; omega
      case hk => exact .inl rfl
      case body =>
        intro d hd cs L'
        refine ⟨TVs.nil rfl, fun e he => ?_⟩
        cases he
        unfold want1
        apply EV.binop (a := .d (.str (if d.1 then ("1" : Str) else "0"))) (b := .d (.str (if d.2 then ("1" : Str) else "0")))
        case hl =>
          apply EV.ifexp (t := d.1)
          case h =>
            o_facts C
            o_facts S; all_goals try first | assumption | decide | exact IntMulOk.of_right (by decide +kernel) | (intro _; exact rfl) | (simp only [lens] at *; omega) | simp [sizeLine_eq] <;> omega
          case ha => intro hb; rw [hb]; exact EV.cstr
          case hb => intro hb; rw [hb]; exact EV.cstr
        case hr =>
          apply EV.ifexp (t := d.2)
          case h =>
            o_facts C
            o_facts S; all_goals try first | assumption | decide | exact IntMulOk.of_right (by decide +kernel) | (intro _; exact rfl) | (simp only [lens] at *; omega) | simp [sizeLine_eq] <;> omega
          case ha => intro hb; rw [hb]; exact EV.cstr
          case hb => intro hb; rw [hb]; exact EV.cstr
        case ho =>
          apply OP.sadd
          rw [sizeLine_eq]
          cases d.1 <;> cases d.2 <;> decide
      case up => o_facts U
      rw [show (du'.filterMap fun d => some (PyData.str (want1 d))) = (wantS du').map .str by unfold wantS; rw [List.map_map, List.filterMap_eq_map']; rfl]
      apply GF.cons; apply GF.iteCmpD (a := .d (txts (toldS rows (rows.map plainOf) h'))) (b := .d (txts (wantS du' ++ wantS du'))) (t := false)
      case hl =>
        apply EVD.call (rs := [.d (rowsD rows), .d (txts (rows.map plainOf)), .d (nums h')])
        case hf => o_facts C
        case hk => o_facts C
        case h => o_facts C
        case he => rfl
        case ho =>
          refine OPD.room (told_ok C rows (rows.map plainOf) h' (by rw [List.length_map]) hpos (by omega) hg2 (by omega) (fun r hr => ⟨Nat.le_trans (hrow r hr).2.2.2.2.2.1 (by decide), (hrow r hr).2.2.2.2.2.2.1⟩) (fun p hp => ?_) hd1 hd2) (by decide)
          obtain ⟨r, hr, rfl⟩ := List.mem_map.mp hp
          exact ⟨(hrow r hr).2.2.2.2.2.2.2.2.2.1, (hrow r hr).2.2.2.2.2.2.2.2.2.2.1⟩
      case hr =>
        apply EV.eq
        case h =>
          o_facts C
          all_goals (rw [List.length_map, sizeLine_eq]; unfold wantS; rw [List.length_map]; omega)
        rw [← List.map_append]
      case ho =>
        rw [htl]
        refine OP.eq' (OP.ne (shaped_txts (oks_append hwok hwok)) (shaped_txts (oks_append hwok hwok))) ?_
        rw [eqv_txts]; simp
      case hm => rfl
      case h1 => exact fun h => nomatch h
      case h2 =>
        intro _
        apply GF.nil
        apply GF.nil
        refine ⟨rfl, rfl, ?_⟩
        unfold lawBase
        o_facts L
  case fin =>
    rintro Z ⟨l, xt⟩ ⟨rfl, rfl, hs⟩
    apply GF.nil
    apply GF.consS; apply SF.ret
    case he => o_facts C
    exact ⟨.d (.bool true), [], rfl, Gives.ret _ _, .inl rfl⟩
end
end Mine
end
section
open PySem PySem.W PyProof.Rows PySem.Calls
namespace Mine
noncomputable def NoC (c : Nat) (x : Str) : Prop := c ∉ x.cps.toList
noncomputable abbrev one (c : Nat) : Str := ⟨#[c]⟩
theorem cps_app (a b : Str) : (a ++ b).cps.toList = a.cps.toList ++ b.cps.toList := by
  rw [Str.cps_append, Array.toList_append]
theorem str_ext {a b : Str} (h : a.cps.toList = b.cps.toList) : a = b := Str.ext' (Array.toList_inj.mp h)
theorem cut_eq {c : Nat} : ∀ {p q r s : List Nat}, c ∉ p → c ∉ q → p ++ c :: r = q ++ c :: s → p = q ∧ r = s
  | [], [], r, s, _, _, h => ⟨rfl, by simpa using h⟩
  | [], y :: q, r, s, _, hq, h => by
    simp only [List.nil_append, List.cons_append, List.cons.injEq] at h
    exact absurd (h.1 ▸ .head _) hq
  | x :: p, [], r, s, hp, _, h => by
    simp only [List.nil_append, List.cons_append, List.cons.injEq] at h
    exact absurd (h.1 ▸ .head _) hp
  | x :: p, y :: q, r, s, hp, hq, h => by
    simp only [List.cons_append, List.cons.injEq] at h
    obtain ⟨h1, h2⟩ := cut_eq (fun z => hp (.tail _ z)) (fun z => hq (.tail _ z)) h.2
    exact ⟨by rw [h.1, h1], h2⟩
theorem join_two (s x y : Str) (l : List Str) : Str.join s (x :: y :: l) = x ++ s ++ Str.join s (y :: l) := rfl
theorem join_one (s x : Str) : Str.join s [x] = x := rfl
theorem join_cps (c : Nat) (x y : Str) (l : List Str) : (Str.join (one c) (x :: y :: l)).cps.toList = x.cps.toList ++ c :: (Str.join (one c) (y :: l)).cps.toList := by
  rw [join_two, cps_app, cps_app, List.append_assoc]; rfl
theorem join_inj {c : Nat} : ∀ {l m : List Str}, l ≠ [] → m ≠ [] → (∀ p ∈ l, NoC c p) → (∀ p ∈ m, NoC c p) → Str.join (one c) l = Str.join (one c) m → l = m
  | [], _, h, _, _, _, _ => absurd rfl h
  | _, [], _, h, _, _, _ => absurd rfl h
  | [x], [y], _, _, _, _, h => by rw [join_one, join_one] at h; rw [h]
  | [x], y :: z :: m, _, _, hl, _, h => by
    rw [join_one] at h
    refine absurd ?_ (hl x (.head _))
    rw [h, join_cps]
    exact List.mem_append_right _ (.head _)
  | x :: z :: l, [y], _, _, _, hm, h => by
    rw [join_one] at h
    refine absurd ?_ (hm y (.head _))
    rw [← h, join_cps]
    exact List.mem_append_right _ (.head _)
  | x :: z :: l, y :: u :: m, _, _, hl, hm, h => by
    have h : (Str.join (one c) (x :: z :: l)).cps.toList = (Str.join (one c) (y :: u :: m)).cps.toList := by rw [h]
    rw [join_cps, join_cps] at h
    obtain ⟨h1, h2⟩ := cut_eq (hl x (.head _)) (hm y (.head _)) h
    rw [str_ext h1, join_inj (by simp) (by simp) (fun p hp => hl p (.tail _ hp)) (fun p hp => hm p (.tail _ hp)) (str_ext h2)]
theorem split_ne (x y : Str) : Txt.split x y ≠ [] := fun h => by
  have := split_pos x y
  rw [h] at this; simp at this
theorem split_join {c : Nat} {l : List Str} (h : l ≠ []) (hl : ∀ p ∈ l, NoC c p) : Txt.split (Str.join (one c) l) (one c) = l :=
  join_inj (split_ne _ _) h (StrLaws.split_free _ c) hl (StrLaws.join_split _ _)
theorem join_append {s : Str} : ∀ {l m : List Str}, l ≠ [] → m ≠ [] → Str.join s (l ++ m) = Str.join s l ++ s ++ Str.join s m
  | [], _, h, _ => absurd rfl h
  | [x], [], _, h => absurd rfl h
  | [x], y :: m, _, _ => rfl
  | x :: y :: l, m, _, hm => by
    have ih := join_append (s := s) (l := y :: l) (m := m) (by simp) hm
    rw [List.cons_append, List.cons_append, join_two, ← List.cons_append, ih, join_two]
    simp only [Str.append_assoc]
theorem split_append (c : Nat) (x y : Str) : Txt.split (x ++ one c ++ y) (one c) = Txt.split x (one c) ++ Txt.split y (one c) := by
  have h : Str.join (one c) (Txt.split x (one c) ++ Txt.split y (one c)) = x ++ one c ++ y := by
    rw [join_append (split_ne _ _) (split_ne _ _), StrLaws.join_split, StrLaws.join_split]
  conv => lhs; rw [← h]
  exact split_join (fun h => split_ne x (one c) (List.append_eq_nil_iff.mp h).1) fun p hp => (List.mem_append.mp hp).elim (StrLaws.split_free x c p) (StrLaws.split_free y c p)
theorem startswith_iff (x y : Str) : Txt.startswith x y = true ↔ y.cps.toList <+: x.cps.toList := by
  unfold Txt.startswith
  rw [StrLaws.subAt_eq, List.drop_zero, Bool.and_eq_true, decide_eq_true_eq, beq_iff_eq, Nat.zero_add, List.prefix_iff_eq_take]
  have hy : y.length = y.cps.toList.length := by simp [Str.length]
  have hx : x.length = x.cps.toList.length := by simp [Str.length]
  rw [hy, hx]
  constructor
  · exact fun h => h.2.symm
  · intro h
    refine ⟨?_, h.symm⟩
    have := congrArg List.length h
    rw [List.length_take] at this
    omega
theorem startswith_app (x y z : Str) : Txt.startswith (x ++ y ++ z) (x ++ y) = true := by
  rw [startswith_iff, cps_app (x ++ y) z]
  exact List.prefix_append _ _
theorem pre_iff {c : Nat} {W V : List Str} (hW : W ≠ []) (hV : V ≠ []) (cW : ∀ p ∈ W, NoC c p) (cV : ∀ p ∈ V, NoC c p) : Txt.startswith (Str.join (one c) W) (Str.join (one c) V ++ one c) = true ↔ ∃ U, U ≠ [] ∧ W = V ++ U := by
  constructor
  · intro h
    obtain ⟨r, hr⟩ := (startswith_iff _ _).mp h
    have e : Str.join (one c) W = Str.join (one c) V ++ one c ++ ⟨r.toArray⟩ := str_ext (by rw [cps_app]; exact hr.symm)
    have e2 : Txt.split (Str.join (one c) W) (one c) = Txt.split (Str.join (one c) V ++ one c ++ ⟨r.toArray⟩) (one c) := by rw [← e]
    rw [split_join hW cW, split_append, split_join hV cV] at e2
    exact ⟨_, split_ne _ _, e2⟩
  · rintro ⟨U, hU, rfl⟩
    rw [join_append hV hU]
    exact startswith_app _ _ _
theorem join_cons (s : Str) {l : List Str} (h : l ≠ []) : Str.join s ("" :: l) = s ++ Str.join s l := by
  cases l with
  | nil => exact absurd rfl h
  | cons x l =>
    rw [join_two]
    rw [show ("" : Str) ++ s = s from str_ext (by rw [cps_app]; rfl)]
end Mine
end
section
open PySem PySem.W PyProof.Rows PySem.Calls
namespace Mine
theorem slice_sliceText (x : Str) (l u : Option Int) : Txt.slice x l u = StrLaws.sliceText x l u := by
  first | rfl | (unfold Txt.slice StrLaws.sliceText; rfl)
theorem len_cps (x : Str) : x.cps.toList.length = x.length := by simp [Str.length]
theorem slice_to (x : Str) {k : Nat} (h : k ≤ x.length) : (Txt.slice x none (some (k : Int))).cps.toList = x.cps.toList.take k := by
  rw [slice_sliceText, StrLaws.sliceText_to ⟨Int.natCast_nonneg _, by rw [len_cps]; omega⟩]
  simp
theorem slice_from (x : Str) {k : Nat} (h : k ≤ x.length) : (Txt.slice x (some (k : Int)) none).cps.toList = x.cps.toList.drop k := by
  rw [slice_sliceText, StrLaws.sliceText_from ⟨Int.natCast_nonneg _, by rw [len_cps]; omega⟩]
  show List.take _ (List.drop _ _) = _
  rw [Int.toNat_natCast]
  exact List.take_of_length_le (by rw [List.length_drop, len_cps]; omega)
theorem slice_mid (x : Str) {a b : Nat} (hab : a ≤ b) (h : b ≤ x.length) : (Txt.slice x (some (a : Int)) (some (b : Int))).cps.toList = (x.cps.toList.drop a).take (b - a) := by
  rw [slice_sliceText, StrLaws.sliceText_nat x hab h]
theorem shelf_eq (x : Str) : shelf x = x := by
  unfold shelf
  apply str_ext
  rw [slice_sliceText, StrLaws.sliceText_to_neg (by decide) (by rw [Str.length_append, len_slash]; omega)]
  rw [Str.length_append, len_slash, cps_app]
  show List.take _ (List.drop 0 _) = _
  rw [List.drop_zero, show (-1 + ((x.length + 1 : Nat) : Int) - 0).toNat = x.cps.toList.length from by rw [len_cps]; omega, List.take_left]
theorem cps_slash : ("/" : Str).cps.toList = [47] := by decide +kernel
theorem slash_one : ("/" : Str) = one 47 := by decide +kernel
noncomputable def compsOf (p : Str) : List Str := normComps (Txt.split p "/")
theorem behind_eq (R : Str) : behind ("/" ++ R) = R := by
  unfold behind
  apply str_ext
  have h := slice_from ("/" ++ R) (k := 1) (by rw [Str.length_append, len_slash]; omega)
  rw [show ((1 : Nat) : Int) = 1 from rfl] at h
  rw [h, cps_app, cps_slash]; rfl
theorem split_empty : Txt.split "" "/" = ([("" : Str)] : List Str) := by decide +kernel
theorem comps_slash (R : Str) : compsOf ("/" ++ R) = normComps (Txt.split R "/") := by
  unfold compsOf
  have : ("/" : Str) ++ R = ("" : Str) ++ one 47 ++ R := by
    apply str_ext
    rw [cps_app, cps_app, cps_app, cps_slash]; rfl
  rw [this, slash_one, split_append, ← slash_one, split_empty]
  unfold normComps
  rw [List.foldl_append]
  rfl
theorem normS_eq (R : Str) : normS ("/" ++ R) = "/" ++ Str.join "/" (compsOf ("/" ++ R)) := by
  unfold normS
  rw [behind_eq, comps_slash]
theorem comps_join (x y : Str) : compsOf (x ++ "/" ++ y) = (Txt.split y "/").foldl stepC (compsOf x) := by
  unfold compsOf
  rw [slash_one, split_append]
  unfold normComps
  rw [List.foldl_append]
theorem comps_end (x : Str) : compsOf (x ++ "/") = compsOf x := by
  have h := comps_join x ""
  rw [show x ++ "/" ++ "" = x ++ "/" from str_ext (by rw [cps_app]; simp; rfl), split_empty] at h
  rw [h]; rfl
end Mine
end
section
open PySem PySem.W PyProof.Rows PySem.Calls
namespace Mine
theorem stepC_word {acc : List Str} {c : Str} (h1 : c.length ≠ 0) (h2 : c ≠ ".") (h3 : c ≠ "..") : stepC acc c = acc ++ [c] := by
  unfold stepC
  rw [if_neg (by simp [h1, h2]), if_pos (.inl h3)]
theorem stepC_skip {acc : List Str} {c : Str} (h : c.length = 0 ∨ c = ".") : stepC acc c = acc := by
  unfold stepC
  rw [if_pos h]
theorem stepC_up {acc : List Str} {x : Str} (h : x ≠ "..") : stepC (acc ++ [x]) ".." = acc := by
  unfold stepC
  rw [if_neg (by decide +kernel), if_neg (by simp [h])]
  simp
theorem fig_comps {k : Nat} (h : k < 8) (acc : List Str) : (Txt.split (figOf k) "/").foldl stepC acc = acc ++ figWOf k := by
  have w1 : ∀ acc, stepC acc "a" = acc ++ [("a" : Str)] := fun acc => stepC_word (by decide +kernel) (by decide +kernel) (by decide +kernel)
  have w2 : ∀ acc, stepC acc "b" = acc ++ [("b" : Str)] := fun acc => stepC_word (by decide +kernel) (by decide +kernel) (by decide +kernel)
  have w3 : ∀ acc, stepC acc "ab" = acc ++ [("ab" : Str)] := fun acc => stepC_word (by decide +kernel) (by decide +kernel) (by decide +kernel)
  have s1 : ∀ acc, stepC acc "" = acc := fun acc => stepC_skip (.inl (by decide +kernel))
  have s2 : ∀ acc, stepC acc "." = acc := fun acc => stepC_skip (.inr rfl)
  rcases lt8 h with rfl | rfl | rfl | rfl | rfl | rfl | rfl | rfl
  · rw [show Txt.split (figOf 0) "/" = ([("." : Str)] : List Str) from by decide +kernel, show figWOf 0 = [] from rfl]
    simp only [List.foldl_cons, List.foldl_nil, s2, List.append_nil]
  · rw [show Txt.split (figOf 1) "/" = ([("a" : Str)] : List Str) from by decide +kernel, show figWOf 1 = [("a" : Str)] from rfl]
    simp only [List.foldl_cons, List.foldl_nil, w1]
  · rw [show Txt.split (figOf 2) "/" = ([("b" : Str)] : List Str) from by decide +kernel, show figWOf 2 = [("b" : Str)] from rfl]
    simp only [List.foldl_cons, List.foldl_nil, w2]
  · rw [show Txt.split (figOf 3) "/" = ([("ab" : Str)] : List Str) from by decide +kernel, show figWOf 3 = [("ab" : Str)] from rfl]
    simp only [List.foldl_cons, List.foldl_nil, w3]
  · rw [show Txt.split (figOf 4) "/" = ([("a" : Str), "", ""] : List Str) from by decide +kernel, show figWOf 4 = [("a" : Str)] from rfl]
    simp only [List.foldl_cons, List.foldl_nil, w1, s1]
  · rw [show Txt.split (figOf 5) "/" = ([("ab" : Str), "..", "b"] : List Str) from by decide +kernel, show figWOf 5 = [("b" : Str)] from rfl]
    simp only [List.foldl_cons, List.foldl_nil, w3, w2]
    rw [stepC_up (by decide +kernel)]
  · rw [show Txt.split (figOf 6) "/" = ([("." : Str), "ab"] : List Str) from by decide +kernel, show figWOf 6 = [("ab" : Str)] from rfl]
    simp only [List.foldl_cons, List.foldl_nil, w3, s2]
  · rw [show Txt.split (figOf 7) "/" = ([("b" : Str), ".."] : List Str) from by decide +kernel, show figWOf 7 = [] from rfl]
    simp only [List.foldl_cons, List.foldl_nil, w2, List.append_nil]
    rw [stepC_up (by decide +kernel)]
theorem endswith_slash {a : Str} (h : Txt.endswith a "/" = true) : ∃ x : Str, a = x ++ "/" := by
  unfold Txt.endswith at h
  rw [StrLaws.subAt_eq, Bool.and_eq_true, decide_eq_true_eq, beq_iff_eq, len_slash, cps_slash] at h
  obtain ⟨h1, h2⟩ := h
  refine ⟨⟨(a.cps.toList.take (a.length - 1)).toArray⟩, str_ext ?_⟩
  rw [cps_app, cps_slash, ← h2]
  show a.cps.toList = a.cps.toList.take (a.length - 1) ++ (a.cps.toList.drop (a.length - 1)).take 1
  rw [List.take_of_length_le (l := a.cps.toList.drop (a.length - 1)) (by rw [List.length_drop, len_cps]; omega), List.take_append_drop]
theorem comps_joinS {a b : Str} (hb : Txt.startswith b "/" = false) (ha : a.length ≠ 0) : compsOf (joinS a b) = (Txt.split b "/").foldl stepC (compsOf a) := by
  unfold joinS
  rw [if_neg (by rw [hb]; simp [ha])]
  split
  · rename_i he
    obtain ⟨x, rfl⟩ := endswith_slash he
    rw [comps_join, comps_end]
  · rw [← Str.append_assoc, comps_join]
theorem fig_start {k : Nat} (h : k < 8) : Txt.startswith (figOf k) "/" = false := by
  rcases lt8 h with rfl | rfl | rfl | rfl | rfl | rfl | rfl | rfl <;> decide +kernel
theorem joinS_pre {a b R : Str} (hb : Txt.startswith b "/" = false) (ha : a.length ≠ 0) (h : a = "/a" ++ R) : ∃ R', joinS a b = "/a" ++ R' := by
  unfold joinS
  rw [if_neg (by rw [hb]; simp [ha])]
  subst h
  split
  · exact ⟨R ++ b, Str.append_assoc _ _ _⟩
  · exact ⟨R ++ ("/" ++ b), Str.append_assoc _ _ _⟩
theorem wayGo_facts : ∀ (k r : Nat) (ws : List Str) (sp : Str), compsOf sp = ws → (∃ R, sp = "/a" ++ R) → (∀ x ∈ ws, x = "a" ∨ x = "b" ∨ x = "ab") → (∃ U, ws = ("a" : Str) :: U) →
    compsOf (wayGo k r ws sp).2 = (wayGo k r ws sp).1 ∧ (∃ R, (wayGo k r ws sp).2 = "/a" ++ R) ∧ (∀ x ∈ (wayGo k r ws sp).1, x = "a" ∨ x = "b" ∨ x = "ab") ∧ (∃ U, (wayGo k r ws sp).1 = ("a" : Str) :: U) ∧ (wayGo k r ws sp).1.length ≤ ws.length + k ∧ (wayGo k r ws sp).2.length ≤ sp.length + 10 * k
  | 0, r, ws, sp, h1, h2, h3, h4 => ⟨h1, h2, h3, h4, Nat.le_refl _, Nat.le_refl _⟩
  | k + 1, r, ws, sp, h1, h2, h3, h4 => by
    unfold wayGo
    split
    · exact ⟨h1, h2, h3, h4, Nat.le_add_right _ _, Nat.le_add_right _ _⟩
    · have h8 : r % 8 < 8 := Nat.mod_lt _ (by decide)
      obtain ⟨R, hR⟩ := h2
      have hl : sp.length ≠ 0 := by rw [hR, Str.length_append, show (Str.ofString "/a").length = 2 from by decide +kernel]; omega
      have c1 : compsOf (joinS sp (figOf (r % 8))) = ws ++ figWOf (r % 8) := by rw [comps_joinS (fig_start h8) hl, h1, fig_comps h8]
      obtain ⟨i1, i2, i3, i4, i5, i6⟩ := wayGo_facts k (r / 8) _ _ c1 (joinS_pre (fig_start h8) hl hR) (fun x hx => by
        rcases List.mem_append.mp hx with hx | hx
        · exact h3 x hx
        · revert hx
          rcases lt8 h8 with e | e | e | e | e | e | e | e <;> rw [e] <;> intro hx
          · cases hx
          · exact .inl (List.mem_singleton.mp hx)
          · exact .inr (.inl (List.mem_singleton.mp hx))
          · exact .inr (.inr (List.mem_singleton.mp hx))
          · exact .inl (List.mem_singleton.mp hx)
          · exact .inr (.inl (List.mem_singleton.mp hx))
          · exact .inr (.inr (List.mem_singleton.mp hx))
          · cases hx) (by obtain ⟨U, rfl⟩ := h4; exact ⟨U ++ figWOf (r % 8), rfl⟩)
      refine ⟨i1, i2, i3, i4, ?_, ?_⟩
      · have := figW_len h8
        rw [List.length_append] at i5
        omega
      · have h9 := joinS_len sp (figOf (r % 8))
        have := fig_len h8
        omega
theorem comps_start : compsOf "/a" = [("a" : Str)] := by decide +kernel
theorem way_facts (r : Nat) : compsOf (way r).2 = (way r).1 ∧ (∃ R, (way r).2 = "/a" ++ R) ∧ (∀ x ∈ (way r).1, x = "a" ∨ x = "b" ∨ x = "ab") ∧ (∃ U, (way r).1 = ("a" : Str) :: U) ∧ (way r).1.length ≤ 5 ∧ (way r).2.length ≤ 100 := by
  obtain ⟨h1, h2, h3, h4, h5, h6⟩ := wayGo_facts 4 r ["a"] "/a" comps_start ⟨"", str_ext (by rw [cps_app]; simp; rfl)⟩ (fun x hx => .inl (List.mem_singleton.mp hx)) ⟨[], rfl⟩
  exact ⟨h1, h2, h3, h4, h5, Nat.le_trans h6 (by decide +kernel)⟩
end Mine
end
section
open PySem PySem.W PyProof.Rows PySem.Calls
namespace Mine
theorem flipS_lt {m k : Nat} (hm : m < 65536) (hk : k < 16) : flipS m k < 65536 := by
  unfold flipS
  split
  · rename_i h
    obtain ⟨j, e⟩ : ∃ j, 65536 = 2 ^ k * (2 * j) := ⟨2 ^ (15 - k), by rw [← Nat.pow_succ', ← Nat.pow_add, show k + (15 - k + 1) = 16 by omega]⟩
    have h1 : m / 2 ^ k < 2 * j := Nat.div_lt_of_lt_mul (e ▸ hm)
    have h2 : m / 2 ^ k + 1 < 2 * j := by omega
    have h3 : m < 2 ^ k * (m / 2 ^ k + 1) := Nat.lt_mul_div_succ m (Nat.two_pow_pos k)
    rw [e]
    exact Nat.lt_of_lt_of_le (Nat.add_lt_add_right h3 _) (Nat.mul_le_mul_left (2 ^ k) h2)
  · exact Nat.lt_of_le_of_lt (Nat.sub_le _ _) hm
noncomputable def RowOk (r : Row) : Prop := (∃ k, way k = (r.ws, r.sp)) ∧ r.mode < 65536
structure RowsInv (rows : List Row) : Prop where
  ok : ∀ r ∈ rows, RowOk r
  nd : (rows.map (·.ws)).Nodup
theorem rowsStep_inv {rows : List Row} (h : RowsInv rows) (i : Int) : RowsInv (rowsStep rows i) ∧ (rowsStep rows i).length ≤ rows.length + 1 ∧ 0 < (rowsStep rows i).length ∧ rows.length ≤ (rowsStep rows i).length := by
  unfold rowsStep
  generalize hp : way (restOf i.natAbs) = p
  dsimp only
  have hk : i.natAbs / 8 % 16 < 16 := Nat.mod_lt _ (by decide)
  generalize hr : (if p.1 ∈ rows.map (·.ws) then rows else rows ++ [⟨p.1, 16895, p.2⟩]) = rows1
  have h1 : RowsInv rows1 ∧ rows1.length ≤ rows.length + 1 ∧ 0 < rows1.length ∧ rows.length ≤ rows1.length := by
    rw [← hr]
    split
    · rename_i hm
      obtain ⟨r, hr, _⟩ := List.mem_map.mp hm
      exact ⟨h, Nat.le_succ _, List.length_pos_of_mem hr, Nat.le_refl _⟩
    · rename_i hm
      refine ⟨⟨fun r hr => ?_, ?_⟩, by simp, by simp, by simp⟩
      · rcases List.mem_append.mp hr with hr | hr
        · exact h.ok r hr
        · rw [List.mem_singleton.mp hr]
          exact ⟨⟨_, hp⟩, (by decide : 16895 < 65536)⟩
      · rw [List.map_append, List.nodup_append]
        refine ⟨h.nd, by simp, fun x hx y hy e => hm ?_⟩
        rw [List.map_cons, List.map_nil, List.mem_singleton] at hy
        have e2 : x = p.1 := e.trans hy
        rw [← e2]; exact hx
  obtain ⟨h1, l1, l2, l3⟩ := h1
  refine ⟨⟨fun r hr => ?_, ?_⟩, by rw [List.length_map]; exact l1, by rw [List.length_map]; exact l2, by rw [List.length_map]; exact l3⟩
  · obtain ⟨q, hq, rfl⟩ := List.mem_map.mp hr
    have := h1.ok q hq
    split
    · rename_i e
      exact ⟨⟨_, hp.trans (by rw [e])⟩, flipS_lt this.2 hk⟩
    · exact this
  · rw [List.map_map]
    have e : (rows1.map ((fun r : Row => r.ws) ∘ fun r => if r.ws = p.1 then (⟨r.ws, flipS r.mode (i.natAbs / 8 % 16), p.2⟩ : Row) else r)) = rows1.map (·.ws) := List.map_congr_left fun q _ => by
      show (if q.ws = p.1 then (⟨q.ws, _, p.2⟩ : Row) else q).ws = q.ws
      split <;> rfl
    rw [e]; exact h1.nd
theorem rows_fold : ∀ (l : List Int) (rows : List Row), RowsInv rows → RowsInv (l.foldl rowsStep rows) ∧ (l.foldl rowsStep rows).length ≤ rows.length + l.length ∧ rows.length ≤ (l.foldl rowsStep rows).length
  | [], rows, h => ⟨h, Nat.le_refl _, Nat.le_refl _⟩
  | i :: l, rows, h => by
    obtain ⟨h1, l1, l2, l3⟩ := rowsStep_inv h i
    obtain ⟨h2, m1, m2⟩ := rows_fold l _ h1
    rw [List.foldl_cons]
    exact ⟨h2, by rw [List.length_cons]; omega, by omega⟩
theorem rows_inv (ns : List Int) (h : ns ≠ []) : RowsInv (rowsS ns) ∧ (rowsS ns).length ≤ ns.length ∧ 0 < (rowsS ns).length := by
  obtain ⟨i, l, rfl⟩ : ∃ i l, ns = i :: l := by
    cases ns with
    | nil => exact absurd rfl h
    | cons i l => exact ⟨i, l, rfl⟩
  obtain ⟨h1, l1, l2, _⟩ := rowsStep_inv (rows := []) (RowsInv.mk (fun _ h => nomatch h) List.nodup_nil) i
  obtain ⟨h2, m1, m2⟩ := rows_fold l _ h1
  unfold rowsS
  rw [List.foldl_cons]
  refine ⟨h2, ?_, by omega⟩
  rw [List.length_cons]
  simp only [List.length_nil] at l1
  omega
end Mine
end
section
open PySem PySem.W PyProof.Rows PySem.Calls
namespace Mine
theorem cps_slasha : ("/a" : Str).cps.toList = [47, 97] := by decide +kernel
theorem slash_a (R : Str) : ("/a" : Str) ++ R = "/" ++ (("a" : Str) ++ R) := by
  apply str_ext
  rw [cps_app, cps_app, cps_app, cps_slash, cps_slasha]; rfl
theorem rooted_a {R : Str} (h : (("/a" : Str) ++ R).length ≤ 1000) : Rooted ("/a" ++ R) := by
  have hl : 2 ≤ (("/a" : Str) ++ R).length := by rw [Str.length_append, show (Str.ofString "/a").length = 2 from by decide +kernel]; omega
  refine ⟨h, ?_, fun e => ?_⟩
  · apply str_ext
    have h1 := slice_to (("/a" : Str) ++ R) (k := 1) (by omega)
    rw [show ((1 : Nat) : Int) = 1 from rfl] at h1
    rw [h1, cps_app, cps_slasha, cps_slash]; rfl
  · have h1 := slice_mid (("/a" : Str) ++ R) (a := 1) (b := 2) (by decide) hl
    rw [show ((1 : Nat) : Int) = 1 from rfl, show ((2 : Nat) : Int) = 2 from rfl, e, cps_app, cps_slasha, cps_slash] at h1
    exact absurd h1 (by simp)
theorem word_free {x : Str} (h : x = "a" ∨ x = "b" ∨ x = "ab") : NoC 47 x ∧ NoC 46 x ∧ x.length ≠ 0 ∧ x.length ≤ 2 ∧ x ≠ "." ∧ PyData.strOk x = true := by
  rcases h with rfl | rfl | rfl <;> (unfold NoC; exact ⟨by decide +kernel, by decide +kernel, by decide +kernel, by decide +kernel, by decide +kernel, by decide +kernel⟩)
theorem plain_join {r : Row} (h : r.ws ≠ []) : plainOf r = Str.join "/" ("" :: r.ws) := (join_cons "/" h).symm
theorem free_empty (c : Nat) : NoC c "" := by unfold NoC; exact fun h => nomatch h
theorem plain_split {r : Row} (h : r.ws ≠ []) (hw : ∀ x ∈ r.ws, x = "a" ∨ x = "b" ∨ x = "ab") : Txt.split (plainOf r) "/" = ("" : Str) :: r.ws := by
  rw [plain_join h, slash_one]
  exact split_join (by simp) fun p hp => by
    rcases List.mem_cons.mp hp with e | hp
    · rw [e]; exact free_empty _
    · exact (word_free (hw p hp)).1
theorem plain_a {r : Row} (h : ∃ U, r.ws = ("a" : Str) :: U) : ∃ T, plainOf r = "/a" ++ T := by
  obtain ⟨U, hU⟩ := h
  unfold plainOf
  rw [hU]
  cases U with
  | nil => exact ⟨"", by rw [join_one, slash_a, show ("a" : Str) ++ "" = "a" from str_ext (by rw [cps_app]; simp; rfl)]⟩
  | cons x U => exact ⟨"/" ++ Str.join "/" (x :: U), by rw [join_two, slash_a, Str.append_assoc]⟩
theorem sum_two : ∀ {l : List Str}, (∀ x ∈ l, x.length ≤ 2) → (l.map (·.length)).sum ≤ 2 * l.length
  | [], _ => by simp
  | x :: l, h => by
    have h1 := h x (.head _)
    have h2 := sum_two (l := l) fun y hy => h y (.tail _ hy)
    rw [List.map_cons, List.sum_cons, List.length_cons]
    omega
theorem join_words {l : List Str} {s : Str} (hs : s.length ≤ 1) (h : ∀ x ∈ l, x.length ≤ 2) : (Str.join s l).length ≤ 3 * l.length := by
  have h1 := StrLaws.join_length_le s l
  have h2 := sum_two h
  have h3 : l.length * s.length ≤ l.length * 1 := Nat.mul_le_mul_left _ hs
  omega
theorem plain_len {r : Row} (hl : r.ws.length ≤ 5) (hw : ∀ x ∈ r.ws, x = "a" ∨ x = "b" ∨ x = "ab") : (plainOf r).length ≤ 16 := by
  have h := join_words (l := r.ws) (s := "/") (by decide +kernel) fun x hx => (word_free (hw x hx)).2.2.2.1
  unfold plainOf
  rw [Str.length_append, len_slash]
  omega
theorem plain_P {r : Row} (h : ∃ U, r.ws = ("a" : Str) :: U) (hl : r.ws.length ≤ 5) (hw : ∀ x ∈ r.ws, x = "a" ∨ x = "b" ∨ x = "ab") : PlainP (plainOf r) r.ws := by
  have hne : r.ws ≠ [] := by obtain ⟨U, e⟩ := h; rw [e]; simp
  refine ⟨Nat.le_trans (plain_len hl hw) (by decide), plain_split hne hw, ?_, fun x hx => ?_, by omega⟩
  · rw [startswith_iff]
    unfold plainOf
    rw [cps_app]
    exact List.prefix_append _ _
  · obtain ⟨_, _, h3, h4, h5, _⟩ := word_free (hw x hx)
    exact ⟨h3, h5, by omega⟩
theorem strOk_iff (x : Str) : PyData.strOk x = true ↔ ∀ c ∈ x.cps.toList, c < 0x110000 := by
  unfold PyData.strOk
  rw [← Array.all_toList, List.all_eq_true]
  simp
theorem strOk_app {a b : Str} (ha : PyData.strOk a = true) (hb : PyData.strOk b = true) : PyData.strOk (a ++ b) = true := by
  rw [strOk_iff] at *
  intro c hc
  rw [cps_app] at hc
  exact (List.mem_append.mp hc).elim (ha c) (hb c)
theorem strOk_join {s : Str} (hs : PyData.strOk s = true) : ∀ {l : List Str}, (∀ x ∈ l, PyData.strOk x = true) → PyData.strOk (Str.join s l) = true
  | [], _ => show PyData.strOk (Str.join s []) = true from (show PyData.strOk "" = true from by decide +kernel)
  | [x], h => h x (.head _)
  | x :: y :: l, h => by
    rw [join_two]
    exact strOk_app (strOk_app (h x (.head _)) hs) (strOk_join hs fun z hz => h z (.tail _ hz))
theorem plain_strOk {l : List Str} (hw : ∀ x ∈ l, x = "a" ∨ x = "b" ∨ x = "ab") : PyData.strOk ("/" ++ Str.join "/" l) = true :=
  strOk_app (by decide +kernel) (strOk_join (by decide +kernel) fun x hx => (word_free (hw x hx)).2.2.2.2.2)
theorem plain_rooted {r : Row} (h : ∃ U, r.ws = ("a" : Str) :: U) (hl : r.ws.length ≤ 5) (hw : ∀ x ∈ r.ws, x = "a" ∨ x = "b" ∨ x = "ab") : Rooted (plainOf r ++ "/.") := by
  obtain ⟨T, e⟩ := plain_a h
  have hp := plain_len hl hw
  rw [e] at hp ⊢
  rw [Str.append_assoc]
  refine rooted_a ?_
  rw [← Str.append_assoc, Str.length_append, len_slashdot]
  omega
theorem row_norm {r : Row} (h : RowOk r) : Rooted r.sp ∧ normS r.sp = plainOf r ∧ r.ws.length ≤ 5 ∧ (∀ x ∈ r.ws, x = "a" ∨ x = "b" ∨ x = "ab") ∧ ∃ U, r.ws = ("a" : Str) :: U := by
  obtain ⟨⟨k, hk⟩, _⟩ := h
  obtain ⟨h1, ⟨R, h2⟩, h3, h4, h5, h6⟩ := way_facts k
  rw [hk] at h1 h2 h3 h4 h5 h6
  dsimp only at h1 h2 h3 h4 h5 h6
  refine ⟨by rw [h2] at h6 ⊢; exact rooted_a (by omega), ?_, h5, h3, h4⟩
  have e : r.sp = "/" ++ (("a" : Str) ++ R) := h2.trans (slash_a R)
  rw [e, normS_eq, ← e, h1]
  rfl
end Mine
end
section
open PySem PySem.W PyProof.Rows PySem.Calls
namespace Mine
theorem ltW_asymm : ∀ a b : List Str, ltW a b = true → ltW b a = false
  | [], [], h => by cases h
  | [], _ :: _, _ => rfl
  | _ :: _, [], h => by cases h
  | x :: a, y :: b, h => by
    unfold ltW at h ⊢
    by_cases e : x = y
    · rw [if_pos e] at h; rw [if_pos e.symm]; exact ltW_asymm a b h
    · rw [if_neg e] at h; rw [if_neg (fun z => e z.symm)]
      have h := of_decide_eq_true h
      exact decide_eq_false fun z => List.lt_irrefl _ (List.lt_trans h z)
theorem ltW_total : ∀ a b : List Str, ltW a b = false → ltW b a = false → a = b
  | [], [], _, _ => rfl
  | [], _ :: _, h, _ => by cases h
  | _ :: _, [], _, h => by cases h
  | x :: a, y :: b, h1, h2 => by
    unfold ltW at h1 h2
    by_cases e : x = y
    · rw [if_pos e] at h1; rw [if_pos e.symm] at h2; rw [e, ltW_total a b h1 h2]
    · rw [if_neg e] at h1; rw [if_neg (fun z => e z.symm)] at h2
      exact absurd (str_ext (List.le_antisymm (List.not_lt.mp (of_decide_eq_false h2)) (List.not_lt.mp (of_decide_eq_false h1)))) e
theorem ltW_pre : ∀ (s t : List Str), t ≠ [] → ltW s (s ++ t) = true
  | [], [], h => absurd rfl h
  | [], _ :: _, _ => rfl
  | x :: s, t, h => by
    show (if x = x then ltW s (s ++ t) else _) = true
    rw [if_pos rfl]; exact ltW_pre s t h
theorem sharedS_comm : ∀ a b : List Str, sharedS a b = sharedS b a
  | [], [] => rfl
  | [], _ :: _ => rfl
  | _ :: _, [] => rfl
  | x :: a, y :: b => by
    unfold sharedS
    by_cases e : x = y
    · rw [if_pos e, if_pos e.symm, sharedS_comm a b, e]
    · rw [if_neg e, if_neg fun z => e z.symm]
theorem least_greatest (a b : List Str) : sharedS (if ltW b a = true then b else a) (if ltW a b = true then b else a) = sharedS a b ∧
    ∀ i, i < (if ltW b a = true then b else a).length → (if ltW b a = true then b else a).take i = (if ltW a b = true then b else a).take i → i < (if ltW a b = true then b else a).length := by
  have safe : ∀ s1 s2 : List Str, ltW s2 s1 = false → ∀ i, i < s1.length → s1.take i = s2.take i → i < s2.length := fun s1 s2 h i hi e => by
    refine Nat.lt_of_not_le fun hle => ?_
    rw [List.take_of_length_le hle] at e
    have := ltW_pre s2 (s1.drop i) (fun z => by have := congrArg List.length z; rw [List.length_drop] at this; simp at this; omega)
    rw [← e, List.take_append_drop] at this
    rw [e] at this
    rw [h] at this; cases this
  by_cases h1 : ltW b a = true
  · have h2 := ltW_asymm _ _ h1
    rw [if_pos h1, if_neg (by rw [h2]; decide)]
    exact ⟨sharedS_comm _ _, safe _ _ h2⟩
  · have h1' : ltW b a = false := by simpa using h1
    by_cases h2 : ltW a b = true
    · rw [if_neg h1, if_pos h2]
      exact ⟨rfl, safe _ _ h1'⟩
    · have h2' : ltW a b = false := by simpa using h2
      rw [if_neg h1, if_neg h2]
      have e := ltW_total _ _ h2' h1'
      subst e
      exact ⟨rfl, fun i hi _ => hi⟩
end Mine
end
section
open PySem PySem.W PyProof.Rows PySem.Calls
namespace Mine
theorem comps_words : ∀ (l acc : List Str), (∀ x ∈ l, x = "a" ∨ x = "b" ∨ x = "ab") → l.foldl stepC acc = acc ++ l
  | [], acc, _ => by simp
  | x :: l, acc, h => by
    have hx : stepC acc x = acc ++ [x] := by
      rcases h x (.head _) with rfl | rfl | rfl <;> exact stepC_word (by decide +kernel) (by decide +kernel) (by decide +kernel)
    rw [List.foldl_cons, hx, comps_words l _ fun y hy => h y (.tail _ hy), List.append_assoc]
    rfl
theorem comps_plain {r : Row} (h : r.ws ≠ []) (hw : ∀ x ∈ r.ws, x = "a" ∨ x = "b" ∨ x = "ab") : compsOf (plainOf r) = r.ws := by
  unfold compsOf
  rw [plain_split h hw]
  unfold normComps
  rw [List.foldl_cons, stepC_skip (.inl (by decide +kernel)), comps_words _ _ hw]
  rfl
theorem normD_ab : normD "/ab" = "/ab" := by
  unfold normD
  rw [shelf_eq]
  decide +kernel
theorem normD_plain {r : Row} (h : r.ws ≠ []) (hw : ∀ x ∈ r.ws, x = "a" ∨ x = "b" ∨ x = "ab") : normD (plainOf r ++ "/.") = plainOf r := by
  unfold normD
  rw [shelf_eq]
  have e1 : plainOf r ++ "/." = plainOf r ++ "/" ++ "." := by
    rw [Str.append_assoc]
    rw [show ("/" : Str) ++ "." = "/." from by decide +kernel]
  have e2 : plainOf r ++ "/." = "/" ++ (Str.join "/" r.ws ++ "/.") := by unfold plainOf; rw [Str.append_assoc]
  rw [e2, normS_eq, ← e2, e1, comps_join, show Txt.split "." "/" = ([("." : Str)] : List Str) from by decide +kernel]
  rw [List.foldl_cons, List.foldl_nil, stepC_skip (.inr rfl), comps_plain h hw]
  rfl
end Mine
end
section
open PySem PySem.W PyProof.Rows PySem.Calls
namespace Mine
structure HandOk (N : Nat) (h : List Nat) : Prop where
  nd : h.Nodup
  lt : ∀ n ∈ h, n < N
theorem few_of_nodup : ∀ (N : Nat) (h : List Nat), h.Nodup → (∀ n ∈ h, n < N) → h.length ≤ N
  | 0, h, _, hl => by
    cases h with
    | nil => exact Nat.le_refl _
    | cons x h => exact absurd (hl x (.head _)) (Nat.not_lt_zero _)
  | N + 1, h, nd, hl => by
    have h1 := few_of_nodup N (h.filter fun n => decide (n ≠ N)) (nd.sublist List.filter_sublist) fun n hn => by
      have h2 := List.mem_filter.mp hn
      have := hl n h2.1
      have h3 : n ≠ N := by simpa using h2.2
      omega
    have h2 : ∀ l : List Nat, l.Nodup → l.length ≤ (l.filter fun n => decide (n ≠ N)).length + 1 := by
      intro l
      induction l with
      | nil => intro _; simp
      | cons x l ih =>
        intro nd
        rw [List.nodup_cons] at nd
        by_cases e : x = N
        · subst e
          have : (l.filter fun n => decide (n ≠ x)) = l := List.filter_eq_self.mpr fun n hn => by
            have : n ≠ x := fun z => nd.1 (z ▸ hn)
            simpa using this
          rw [List.filter_cons_of_neg (by simp), this, List.length_cons]
          exact Nat.le_refl _
        · rw [List.filter_cons_of_pos (by simpa using e), List.length_cons, List.length_cons]
          have := ih nd.2
          omega
    have := h2 h nd
    omega
theorem HandOk.snoc {N : Nat} {h : List Nat} (H : HandOk N h) {m : Nat} (hm : m < N) (hn : m ∉ h) : HandOk N (h ++ [m]) :=
  ⟨by rw [List.nodup_append]; exact ⟨H.nd, by simp, fun x hx y hy e => hn (by rw [List.mem_singleton] at hy; rw [← hy, ← e]; exact hx)⟩, fun n hn => (List.mem_append.mp hn).elim (H.lt n) fun h => by rw [List.mem_singleton.mp h]; exact hm⟩
theorem HandOk.metA {N : Nat} {h : List Nat} (H : HandOk N h) (c p : Str) {m : Nat} (hm : m < N) : HandOk N (metA c p h m) := by
  unfold Mine.metA
  split
  · rename_i e; exact H.snoc hm e.2
  · exact H
theorem HandOk.metS {N : Nat} (cf : Nat → Nat → Str) (pf : Nat → Str) {a b : List Nat} (ha : ∀ n ∈ a, n < N) (hb : ∀ n ∈ b, n < N) : HandOk N (metS cf pf a b) := by
  unfold Mine.metS
  have inner : ∀ (n : Nat) (l : List Nat) (acc : List Nat), n < N → (∀ m ∈ l, m < N) → HandOk N acc → HandOk N (l.foldl (metStep cf pf n) acc) := by
    intro n l
    induction l with
    | nil => intro acc _ _ H; exact H
    | cons m l ih =>
      intro acc hn hl H
      rw [List.foldl_cons]
      exact ih _ hn (fun k hk => hl k (.tail _ hk)) (by unfold metStep; exact (H.metA _ _ (hl m (.head _))).metA _ _ hn)
  have outer : ∀ (l acc : List Nat), (∀ n ∈ l, n < N) → HandOk N acc → HandOk N (l.foldl (metIn cf pf b) acc) := by
    intro l
    induction l with
    | nil => intro acc _ H; exact H
    | cons n l ih =>
      intro acc hl H
      rw [List.foldl_cons]
      exact ih _ (fun k hk => hl k (.tail _ hk)) (by unfold metIn; exact inner n b acc (hl n (.head _)) hb H)
  exact outer a [] ha ⟨List.nodup_nil, fun n h => nomatch h⟩
end Mine
end
section
open PySem PySem.W PyProof.Rows PySem.Calls
namespace Mine
theorem lackN_ok (rows : List Row) (k : Nat) : HandOk rows.length (lackN rows k) :=
  ⟨List.nodup_range.sublist List.filter_sublist, fun n hn => List.mem_range.mp (List.mem_filter.mp hn).1⟩
theorem handedS_ok {rows : List Row} {h : List Nat} (H : HandOk rows.length h) (i : Int) : HandOk rows.length (handedS rows h i) := by
  have L := lackN_ok rows (kOf i)
  unfold handedS
  split
  · exact HandOk.metS _ _ H.lt L.lt
  · refine ⟨?_, fun n hn => ?_⟩
    · rw [List.nodup_append]
      refine ⟨H.nd, L.nd.sublist List.filter_sublist, fun x hx y hy e => ?_⟩
      have := (List.mem_filter.mp hy).2
      rw [decide_eq_true_eq] at this
      exact this (e ▸ hx)
    · rcases List.mem_append.mp hn with hn | hn
      · exact H.lt n hn
      · exact L.lt n (List.mem_filter.mp hn).1
theorem state_ok (rows : List Row) : ∀ (l : List Int) (s : List Nat × List (Bool × Bool)), HandOk rows.length s.1 → HandOk rows.length (l.foldl (lawStep rows) s).1
  | [], s, h => h
  | i :: l, s, h => by
    rw [List.foldl_cons]
    exact state_ok rows l _ (handedS_ok h i)
theorem hand_ok (rows : List Row) (l : List Int) : HandOk rows.length (stateS rows l).1 := state_ok rows l _ ⟨List.nodup_nil, fun n h => nomatch h⟩
end Mine
end
section
open PySem PySem.W PyProof.Rows PySem.Calls
namespace Mine
end Mine
end
section
open PySem PySem.W PyProof.Rows PySem.Calls
namespace Mine
theorem test_iff {m c : Nat} : (m &&& c == c) = true ↔ ∀ i, c.testBit i = true → m.testBit i = true := by
  rw [beq_iff_eq]
  constructor
  · intro h i hi
    have := congrArg (fun x => x.testBit i) h
    simp only [Nat.testBit_and, hi, Bool.and_true] at this
    exact this
  · intro h
    apply Nat.eq_of_testBit_eq
    intro i
    rw [Nat.testBit_and]
    cases hc : c.testBit i with
    | false => simp
    | true => rw [h i hc]; rfl
theorem test_one (m k : Nat) : (m &&& 2 ^ k == 2 ^ k) = m.testBit k := by
  rw [Bool.eq_iff_iff, test_iff]
  constructor
  · intro h; exact h k (by rw [Nat.testBit_two_pow_self])
  · intro h i hi
    rw [Nat.testBit_two_pow, decide_eq_true_eq] at hi
    rw [← hi]; exact h
theorem test_two (m j k : Nat) : (m &&& (2 ^ j ||| 2 ^ k) == (2 ^ j ||| 2 ^ k)) = (m.testBit j && m.testBit k) := by
  rw [Bool.eq_iff_iff, test_iff, Bool.and_eq_true]
  constructor
  · intro h
    exact ⟨h j (by rw [Nat.testBit_or, Nat.testBit_two_pow_self]; rfl), h k (by rw [Nat.testBit_or, Nat.testBit_two_pow_self, Bool.or_true])⟩
  · rintro ⟨h1, h2⟩ i hi
    rw [Nat.testBit_or, Bool.or_eq_true, Nat.testBit_two_pow, Nat.testBit_two_pow, decide_eq_true_eq, decide_eq_true_eq] at hi
    rcases hi with e | e
    · rw [← e]; exact h1
    · rw [← e]; exact h2
theorem bit_mod (m k : Nat) : m / 2 ^ k % 2 = if m.testBit k then 1 else 0 := by
  rw [Nat.testBit_eq_decide_div_mod_eq]
  rcases Nat.mod_two_eq_zero_or_one (m / 2 ^ k) with h | h <;> rw [h] <;> rfl
end Mine
end
section
open PySem PySem.W PyProof.Rows PySem.Calls
namespace Mine
theorem charOf_one (m idx k : Nat) (c : Str) (hi : idx ≠ 0) : charOf m idx [(2 ^ k, c)] = if m.testBit k then c else "-" := by
  unfold charOf
  have e : testB m idx (2 ^ k) = m.testBit k := by unfold testB; rw [if_neg hi, test_one]
  rw [List.find?_cons, List.find?_nil]
  dsimp only
  rw [e]
  cases m.testBit k
  · simp [hi]
  · rfl
theorem charOf_three (m idx j k : Nat) (c d e : Str) (hi : idx ≠ 0) : charOf m idx [(2 ^ j ||| 2 ^ k, c), (2 ^ k, d), (2 ^ j, e)] = if m.testBit j && m.testBit k then c else if m.testBit k then d else if m.testBit j then e else "-" := by
  unfold charOf
  have e1 : testB m idx (2 ^ j ||| 2 ^ k) = (m.testBit j && m.testBit k) := by unfold testB; rw [if_neg hi, test_two]
  have e2 : testB m idx (2 ^ k) = m.testBit k := by unfold testB; rw [if_neg hi, test_one]
  have e3 : testB m idx (2 ^ j) = m.testBit j := by unfold testB; rw [if_neg hi, test_one]
  rw [List.find?_cons, List.find?_cons, List.find?_cons, List.find?_nil]
  dsimp only
  rw [e1, e2, e3]
  cases m.testBit j <;> cases m.testBit k <;> simp [hi]
end Mine
end
section
open PySem PySem.W PyProof.Rows PySem.Calls
namespace Mine
theorem eighth' (m s : Nat) (a b c : Bool) (h0 : m.testBit s = a) (h1 : m.testBit (s + 1) = b) (h2 : m.testBit (s + 2) = c) : m / 2 ^ s % 8 = (if a then 1 else 0) + 2 * (if b then 1 else 0) + 4 * (if c then 1 else 0) := by
  have e0 := bit_mod m s
  have e1 := bit_mod m (s + 1)
  have e2 := bit_mod m (s + 2)
  rw [h0] at e0; rw [h1] at e1; rw [h2] at e2
  rw [Nat.pow_succ, ← Nat.div_div_eq_div_mul] at e1
  rw [show s + 2 = s + 1 + 1 from rfl, Nat.pow_succ, Nat.pow_succ, ← Nat.div_div_eq_div_mul, ← Nat.div_div_eq_div_mul] at e2
  generalize m / 2 ^ s = x at *
  rw [← e0, ← e1, ← e2]
  omega
end Mine
end
section
open PySem PySem.W PyProof.Rows PySem.Calls
namespace Mine
noncomputable def three (b8 b7 b6 b11 : Bool) (s S x : Str) : Str := (if b8 then ("r" : Str) else "-") ++ (if b7 then ("w" : Str) else "-") ++ (if b6 && b11 then s else if b11 then S else if b6 then x else "-")
theorem own_signs (m : Nat) (t : Str) : lstep m t (64, 2048, "-xSs") = t ++ three (m.testBit 8) (m.testBit 7) (m.testBit 6) (m.testBit 11) "s" "S" "x" := by
  have h1 := eighth' m 6 _ _ _ rfl rfl rfl
  have h2 := bit_mod m 11
  simp only [Nat.reducePow, Nat.reduceAdd] at h1 h2
  unfold lstep
  dsimp only
  rw [h1, h2, Str.append_assoc]
  congr 1
  cases m.testBit 6 <;> cases m.testBit 7 <;> cases m.testBit 8 <;> cases m.testBit 11 <;> decide +kernel
theorem group_signs (m : Nat) (t : Str) : lstep m t (8, 1024, "-xSs") = t ++ three (m.testBit 5) (m.testBit 4) (m.testBit 3) (m.testBit 10) "s" "S" "x" := by
  have h1 := eighth' m 3 _ _ _ rfl rfl rfl
  have h2 := bit_mod m 10
  simp only [Nat.reducePow, Nat.reduceAdd] at h1 h2
  unfold lstep
  dsimp only
  rw [h1, h2, Str.append_assoc]
  congr 1
  cases m.testBit 3 <;> cases m.testBit 4 <;> cases m.testBit 5 <;> cases m.testBit 10 <;> decide +kernel
theorem other_signs (m : Nat) (t : Str) : lstep m t (1, 512, "-xTt") = t ++ three (m.testBit 2) (m.testBit 1) (m.testBit 0) (m.testBit 9) "t" "T" "x" := by
  have h1 := eighth' m 0 _ _ _ rfl rfl rfl
  have h2 := bit_mod m 9
  simp only [Nat.reducePow, Nat.reduceAdd] at h1 h2
  unfold lstep
  dsimp only
  rw [h1, h2, Str.append_assoc]
  congr 1
  cases m.testBit 0 <;> cases m.testBit 1 <;> cases m.testBit 2 <;> cases m.testBit 9 <;> decide +kernel
theorem classes (m : Nat) : charOf m 1 [(256, "r")] ++ charOf m 2 [(128, "w")] ++ charOf m 3 [(2112, "s"), (2048, "S"), (64, "x")] = three (m.testBit 8) (m.testBit 7) (m.testBit 6) (m.testBit 11) "s" "S" "x" := by
  rw [charOf_one m 1 8 "r" (by decide), charOf_one m 2 7 "w" (by decide), show charOf m 3 [(2112, "s"), (2048, "S"), (64, "x")] = _ from charOf_three m 3 6 11 "s" "S" "x" (by decide)]
  rfl
end Mine
end
section
open PySem PySem.W PyProof.Rows PySem.Calls
namespace Mine
theorem high_bits {m : Nat} (hm : m < 65536) : m &&& 61440 = m / 4096 * 4096 := by
  apply Nat.eq_of_testBit_eq
  intro i
  rw [Nat.testBit_and, show 61440 = (2 ^ 4 - 1) <<< 12 from rfl, Nat.testBit_shiftLeft, Nat.testBit_two_pow_sub_one]
  rw [show m / 4096 * 4096 = (m >>> 12) <<< 12 from by rw [Nat.shiftLeft_eq, Nat.shiftRight_eq_div_pow], Nat.testBit_shiftLeft, Nat.testBit_shiftRight]
  by_cases h : 12 ≤ i
  · have e : 12 + (i - 12) = i := by omega
    rw [e]
    by_cases h2 : i - 12 < 4
    · simp [h, h2]
    · have : m.testBit i = false := Nat.testBit_lt_two_pow (Nat.lt_of_lt_of_le hm (by rw [show 65536 = 2 ^ 16 from rfl]; exact Nat.pow_le_pow_right (by decide) (by omega)))
      simp [h, h2, this]
  · simp [h]
end Mine
end
section
open PySem PySem.W PyProof.Rows PySem.Calls
namespace Mine
theorem lt16 {k : Nat} (h : k < 16) : k < 8 ∨ ∃ j, j < 8 ∧ k = j + 8 := by
  rcases Nat.lt_or_ge k 8 with h8 | h8
  · exact .inl h8
  · exact .inr ⟨k - 8, by omega, by omega⟩
theorem kind_sign {m : Nat} (hm : m < 65536) : charOf m 0 [(40960, "l"), (49152, "s"), (32768, "-"), (24576, "b"), (16384, "d"), (8192, "c"), (4096, "p")] = ch1 lkinds (m / 4096) := by
  have hk : m / 4096 < 16 := by omega
  unfold charOf testB
  simp only [if_true]
  rw [high_bits hm]
  generalize m / 4096 = k at hk
  rcases lt16 hk with h | ⟨j, h, rfl⟩
  · rcases lt8 h with rfl | rfl | rfl | rfl | rfl | rfl | rfl | rfl <;> decide +kernel
  · rcases lt8 h with rfl | rfl | rfl | rfl | rfl | rfl | rfl | rfl <;> decide +kernel
theorem classes2 (m : Nat) : charOf m 4 [(32, "r")] ++ charOf m 5 [(16, "w")] ++ charOf m 6 [(1032, "s"), (1024, "S"), (8, "x")] = three (m.testBit 5) (m.testBit 4) (m.testBit 3) (m.testBit 10) "s" "S" "x" := by
  rw [charOf_one m 4 5 "r" (by decide), charOf_one m 5 4 "w" (by decide), show charOf m 6 [(1032, "s"), (1024, "S"), (8, "x")] = _ from charOf_three m 6 3 10 "s" "S" "x" (by decide)]
  rfl
theorem classes3 (m : Nat) : charOf m 7 [(4, "r")] ++ charOf m 8 [(2, "w")] ++ charOf m 9 [(513, "t"), (512, "T"), (1, "x")] = three (m.testBit 2) (m.testBit 1) (m.testBit 0) (m.testBit 9) "t" "T" "x" := by
  rw [charOf_one m 7 2 "r" (by decide), charOf_one m 8 1 "w" (by decide), show charOf m 9 [(513, "t"), (512, "T"), (1, "x")] = _ from charOf_three m 9 0 9 "t" "T" "x" (by decide)]
  rfl
theorem app_empty (x : Str) : x ++ ("" : Str) = x := str_ext (by rw [cps_app]; simp; rfl)
theorem join_bare (x y : Str) (l : List Str) : Str.join "" (x :: y :: l) = x ++ Str.join "" (y :: l) := by
  rw [join_two, app_empty]
theorem listS_eq (m : Nat) : listS m = ch1 lkinds (m / 4096) ++ three (m.testBit 8) (m.testBit 7) (m.testBit 6) (m.testBit 11) "s" "S" "x" ++ three (m.testBit 5) (m.testBit 4) (m.testBit 3) (m.testBit 10) "s" "S" "x" ++ three (m.testBit 2) (m.testBit 1) (m.testBit 0) (m.testBit 9) "t" "T" "x" := by
  unfold listS lrows
  rw [List.foldl_cons, List.foldl_cons, List.foldl_cons, List.foldl_nil, own_signs, group_signs, other_signs]
theorem fileS_eq {m : Nat} (hm : m < 65536) : fileS m = listS m := by
  rw [listS_eq, ← kind_sign hm, ← classes, ← classes2, ← classes3]
  unfold fileS
  have e : permS m 10 = [charOf m 0 [(40960, "l"), (49152, "s"), (32768, "-"), (24576, "b"), (16384, "d"), (8192, "c"), (4096, "p")], charOf m 1 [(256, "r")], charOf m 2 [(128, "w")], charOf m 3 [(2112, "s"), (2048, "S"), (64, "x")], charOf m 4 [(32, "r")], charOf m 5 [(16, "w")], charOf m 6 [(1032, "s"), (1024, "S"), (8, "x")], charOf m 7 [(4, "r")], charOf m 8 [(2, "w")], charOf m 9 [(513, "t"), (512, "T"), (1, "x")]] := rfl
  rw [e]
  simp only [join_bare, join_one, Str.append_assoc]
end Mine
end
section
open PySem PySem.W PyProof.Rows PySem.Calls
namespace Mine
noncomputable def threeC (b8 b7 b6 b11 : Bool) (s S x : Nat) : List Nat := [if b8 then 114 else 45, if b7 then 119 else 45, if b6 && b11 then s else if b11 then S else if b6 then x else 45]
theorem three_s (a b c d : Bool) : (three a b c d "s" "S" "x").cps.toList = threeC a b c d 115 83 120 := by
  cases a <;> cases b <;> cases c <;> cases d <;> decide +kernel
theorem three_t (a b c d : Bool) : (three a b c d "t" "T" "x").cps.toList = threeC a b c d 116 84 120 := by
  cases a <;> cases b <;> cases c <;> cases d <;> decide +kernel
noncomputable def kindC (k : Nat) : Nat := (lkinds.cps[k]?).getD 0
theorem listS_cps (m : Nat) : (listS m).cps.toList = kindC (m / 4096) :: (threeC (m.testBit 8) (m.testBit 7) (m.testBit 6) (m.testBit 11) 115 83 120 ++ (threeC (m.testBit 5) (m.testBit 4) (m.testBit 3) (m.testBit 10) 115 83 120 ++ threeC (m.testBit 2) (m.testBit 1) (m.testBit 0) (m.testBit 9) 116 84 120)) := by
  rw [listS_eq, cps_app, cps_app, cps_app, three_s, three_s, three_t, List.append_assoc, List.append_assoc]
  rfl
theorem listS_size (m : Nat) : (listS m).cps.size = 10 := by
  rw [← Array.length_toList, listS_cps]
  rfl
theorem threeC_small {a b c d : Bool} {s S x : Nat} (hs : s < 200) (hS : S < 200) (hx : x < 200) : ∀ n ∈ threeC a b c d s S x, n < 200 := by
  intro n hn
  unfold threeC at hn
  simp only [List.mem_cons, List.not_mem_nil, or_false] at hn
  rcases hn with rfl | rfl | rfl
  · split <;> omega
  · split <;> omega
  · split
    · exact hs
    · split
      · exact hS
      · split
        · exact hx
        · omega
theorem kindC_small (k : Nat) : kindC k < 200 := by
  have h : ∀ c ∈ lkinds.cps.toList, c < 200 := by decide +kernel
  unfold kindC
  cases e : lkinds.cps[k]? with
  | none => decide
  | some c => exact h c (by rw [Array.mem_toList_iff]; exact Array.mem_of_getElem? e)
theorem listS_strOk (m : Nat) : PyData.strOk (listS m) = true := by
  rw [strOk_iff]
  intro c hc
  refine Nat.lt_of_lt_of_le (m := 200) ?_ (by decide)
  rw [listS_cps] at hc
  rcases List.mem_cons.mp hc with rfl | hc
  · exact kindC_small _
  · rcases List.mem_append.mp hc with hc | hc
    · exact threeC_small (by decide) (by decide) (by decide) c hc
    · rcases List.mem_append.mp hc with hc | hc
      · exact threeC_small (by decide) (by decide) (by decide) c hc
      · exact threeC_small (by decide) (by decide) (by decide) c hc
theorem ch1_list (x : Str) (k : Nat) : ch1 x k = ⟨#[(x.cps.toList[k]?).getD 0]⟩ := by
  rw [Array.getElem?_toList]
noncomputable def lackC (c k : Nat) : Bool := !(!(Builtin.Str.occurrences (lettersOf k) ⟨#[c]⟩ 0 (lettersOf k).length 1).isEmpty)
theorem lackCh_eq {m k : Nat} (hm : m < 65536) (hk : k < 10) : lackCh m k = lackB k m := by
  have e : lackCh m k = lackC (((listS m).cps.toList[k]?).getD 0) k := by
    unfold lackCh lackC
    rw [ch1_list]
  rw [e, listS_cps]
  rcases Nat.lt_or_ge k 8 with h8 | h8
  · rcases lt8 h8 with rfl | rfl | rfl | rfl | rfl | rfl | rfl | rfl
    · show lackC (kindC (m / 4096)) 0 = (m / 4096 != 4)
      have hq : m / 4096 < 16 := by omega
      generalize m / 4096 = q at hq
      rcases lt16 hq with h | ⟨j, h, rfl⟩
      · rcases lt8 h with rfl | rfl | rfl | rfl | rfl | rfl | rfl | rfl <;> decide +kernel
      · rcases lt8 h with rfl | rfl | rfl | rfl | rfl | rfl | rfl | rfl <;> decide +kernel
    · show lackC (if m.testBit 8 then 114 else 45) 1 = (m / 2 ^ 8 % 2 == 0)
      rw [bit_mod]; cases m.testBit 8 <;> decide +kernel
    · show lackC (if m.testBit 7 then 119 else 45) 2 = (m / 2 ^ 7 % 2 == 0)
      rw [bit_mod]; cases m.testBit 7 <;> decide +kernel
    · show lackC (if m.testBit 6 && m.testBit 11 then 115 else if m.testBit 11 then 83 else if m.testBit 6 then 120 else 45) 3 = (m / 2 ^ 6 % 2 == 0)
      rw [bit_mod]; cases m.testBit 6 <;> cases m.testBit 11 <;> decide +kernel
    · show lackC (if m.testBit 5 then 114 else 45) 4 = (m / 2 ^ 5 % 2 == 0)
      rw [bit_mod]; cases m.testBit 5 <;> decide +kernel
    · show lackC (if m.testBit 4 then 119 else 45) 5 = (m / 2 ^ 4 % 2 == 0)
      rw [bit_mod]; cases m.testBit 4 <;> decide +kernel
    · show lackC (if m.testBit 3 && m.testBit 10 then 115 else if m.testBit 10 then 83 else if m.testBit 3 then 120 else 45) 6 = (m / 2 ^ 3 % 2 == 0)
      rw [bit_mod]; cases m.testBit 3 <;> cases m.testBit 10 <;> decide +kernel
    · show lackC (if m.testBit 2 then 114 else 45) 7 = (m / 2 ^ 2 % 2 == 0)
      rw [bit_mod]; cases m.testBit 2 <;> decide +kernel
  · rcases (show k = 8 ∨ k = 9 by omega) with rfl | rfl
    · show lackC (if m.testBit 1 then 119 else 45) 8 = (m / 2 ^ 1 % 2 == 0)
      rw [bit_mod]; cases m.testBit 1 <;> decide +kernel
    · show lackC (if m.testBit 0 && m.testBit 9 then 116 else if m.testBit 9 then 84 else if m.testBit 0 then 120 else 45) 9 = (m / 2 ^ 0 % 2 == 0)
      rw [bit_mod]; cases m.testBit 0 <;> cases m.testBit 9 <;> decide +kernel
end Mine
end
section
open PySem PySem.W PyProof.Rows PySem.Calls
namespace Mine
structure WsOk (W : List Str) : Prop where
  word : ∀ x ∈ W, x = "a" ∨ x = "b" ∨ x = "ab"
  top : ∃ U, W = ("a" : Str) :: U
theorem WsOk.ne {W : List Str} (h : WsOk W) : W ≠ [] := by obtain ⟨U, e⟩ := h.top; rw [e]; simp
theorem WsOk.noSlash {W : List Str} (h : WsOk W) : ∀ p ∈ W, NoC 47 p := fun p hp => (word_free (h.word p hp)).1
theorem WsOk.noDot {W : List Str} (h : WsOk W) : ∀ p ∈ W, NoC 46 p := fun p hp => (word_free (h.word p hp)).2.1
theorem dot_one : ("." : Str) = one 46 := by decide +kernel
theorem ab_dot : NoC 46 "ab" := (word_free (.inr (.inr rfl))).2.1
theorem ab_slash : NoC 47 "ab" := (word_free (.inr (.inr rfl))).1
theorem a_ne_ab : ("a" : Str) ≠ "ab" := by decide +kernel
noncomputable def inB (W V : List Str) : Bool := decide (V.take W.length = W)
noncomputable def inP (W V : List Str) : Bool := inB W V && decide (W ≠ V)
theorem inB_iff {W V : List Str} : inB W V = true ↔ ∃ U, V = W ++ U := by
  unfold inB
  rw [decide_eq_true_eq]
  constructor
  · intro h; exact ⟨V.drop W.length, by conv => lhs; rw [← List.take_append_drop W.length V, h]⟩
  · rintro ⟨U, rfl⟩; simp
theorem inP_iff {W V : List Str} : inP W V = true ↔ ∃ U, U ≠ [] ∧ V = W ++ U := by
  unfold inP
  rw [Bool.and_eq_true, inB_iff, decide_eq_true_eq]
  constructor
  · rintro ⟨⟨U, rfl⟩, h⟩
    exact ⟨U, fun e => h (by rw [e, List.append_nil]), rfl⟩
  · rintro ⟨U, hU, rfl⟩
    exact ⟨⟨U, rfl⟩, fun e => hU (List.append_right_eq_self.mp e.symm)⟩
theorem dots_inj {W V : List Str} (hW : WsOk W) (hV : WsOk V) (h : Str.join "." W = Str.join "." V) : W = V := by
  rw [dot_one] at h
  exact join_inj hW.ne hV.ne hW.noDot hV.noDot h
theorem dots_pre {W V : List Str} (hW : WsOk W) (hV : WsOk V) : Txt.startswith (Str.join "." V) (Str.join "." W ++ ".") = inP W V := by
  rw [Bool.eq_iff_iff, inP_iff, dot_one]
  exact pre_iff hV.ne hW.ne hV.noDot hW.noDot
theorem dots_ab {W : List Str} (hW : WsOk W) : Str.join "." W ≠ "ab" := fun h => by
  rw [← join_one "." "ab", dot_one] at h
  have e := join_inj hW.ne (by simp) hW.noDot (fun p hp => by rw [List.mem_singleton.mp hp]; exact ab_dot) h
  obtain ⟨U, hU⟩ := hW.top
  rw [hU] at e
  exact a_ne_ab (List.cons.inj e).1
theorem dots_pre_ab {W : List Str} (hW : WsOk W) : Txt.startswith (Str.join "." W) ("ab" ++ ".") = false := by
  rw [Bool.eq_false_iff]
  intro h
  rw [← join_one "." "ab", dot_one] at h
  obtain ⟨U, _, e⟩ := (pre_iff hW.ne (by simp) hW.noDot (fun p hp => by rw [List.mem_singleton.mp hp]; exact ab_dot)).mp h
  obtain ⟨T, hT⟩ := hW.top
  rw [hT] at e
  exact a_ne_ab (List.cons.inj e).1
theorem slash_cons {W : List Str} (hW : W ≠ []) : ("/" : Str) ++ Str.join "/" W = Str.join (one 47) (("" : Str) :: W) := by
  rw [← slash_one]; exact (join_cons "/" hW).symm
theorem cons_free {W : List Str} (h : ∀ p ∈ W, NoC 47 p) : ∀ p ∈ ("" : Str) :: W, NoC 47 p := fun p hp => by
  rcases List.mem_cons.mp hp with e | hp
  · rw [e]; exact free_empty _
  · exact h p hp
theorem path_pre {W V : List Str} (hW : WsOk W) (hV : WsOk V) : Txt.startswith ("/" ++ Str.join "/" V) ("/" ++ Str.join "/" W ++ "/") = inP W V := by
  rw [Bool.eq_iff_iff, inP_iff, slash_cons hW.ne, slash_cons hV.ne]
  conv => lhs; rw [slash_one]
  rw [pre_iff (by simp) (by simp) (cons_free hV.noSlash) (cons_free hW.noSlash)]
  constructor
  · rintro ⟨U, hU, e⟩; exact ⟨U, hU, (List.cons.inj e).2⟩
  · rintro ⟨U, hU, e⟩; exact ⟨U, hU, by rw [e]; rfl⟩
theorem path_pre_ab {W : List Str} (hW : WsOk W) : Txt.startswith ("/" ++ Str.join "/" W) ("/ab" ++ "/") = false := by
  rw [Bool.eq_false_iff]
  intro h
  have e1 : ("/ab" : Str) = Str.join (one 47) [("" : Str), "ab"] := by decide +kernel
  rw [e1, slash_cons hW.ne] at h
  conv at h => lhs; rw [slash_one]
  obtain ⟨U, _, e⟩ := (pre_iff (by simp) (by simp) (cons_free hW.noSlash) (cons_free fun p hp => by rw [List.mem_singleton.mp hp]; exact ab_slash)).mp h
  obtain ⟨T, hT⟩ := hW.top
  rw [hT] at e
  exact a_ne_ab (List.cons.inj (List.cons.inj e).2).1
theorem path_inj {W V : List Str} (hW : W ≠ []) (hV : V ≠ []) (cW : ∀ p ∈ W, NoC 47 p) (cV : ∀ p ∈ V, NoC 47 p) (h : ("/" : Str) ++ Str.join "/" W = "/" ++ Str.join "/" V) : W = V := by
  rw [slash_cons hW, slash_cons hV] at h
  exact (List.cons.inj (join_inj (by simp) (by simp) (cons_free cW) (cons_free cV) h)).2
theorem shared_pre : ∀ (W V : List Str), sharedS W V = W ↔ inB W V = true
  | [], V => by rw [inB_iff]; constructor
                · intro _; exact ⟨V, rfl⟩
                · intro _; cases V <;> rfl
  | x :: W, [] => by
    rw [inB_iff]; constructor
    · intro h; cases h
    · rintro ⟨U, h⟩; cases h
  | x :: W, y :: V => by
    have ih := shared_pre W V
    rw [inB_iff] at ih ⊢
    unfold sharedS
    by_cases e : x = y
    · subst e
      rw [if_pos rfl]
      constructor
      · intro h; obtain ⟨U, hU⟩ := ih.mp (List.cons.inj h).2; exact ⟨U, by rw [hU]; rfl⟩
      · rintro ⟨U, hU⟩; rw [ih.mpr ⟨U, (List.cons.inj hU).2⟩]
    · rw [if_neg e]
      constructor
      · intro h; cases h
      · rintro ⟨U, hU⟩; exact absurd (List.cons.inj hU).1.symm e
theorem sharedW_ok {W V : List Str} (hW : WsOk W) (hV : WsOk V) : WsOk (sharedS W V) := by
  obtain ⟨T, hT⟩ := hW.top
  obtain ⟨U, hU⟩ := hV.top
  refine ⟨fun x hx => hW.word x ?_, sharedS T U, by rw [hT, hU, sharedS, if_pos rfl]⟩
  have sub : ∀ (A B : List Str), x ∈ sharedS A B → x ∈ A := by
    intro A
    induction A with
    | nil => intro B h; cases B <;> exact nomatch h
    | cons a A ih =>
      intro B h
      cases B with
      | nil => exact nomatch h
      | cons b B =>
        unfold sharedS at h
        by_cases e : a = b
        · rw [if_pos e] at h
          rcases List.mem_cons.mp h with rfl | h
          · exact .head _
          · exact .tail _ (ih _ h)
        · rw [if_neg e] at h; exact nomatch h
  exact sub _ _ hx
theorem chain {W V X : List Str} (h1 : inB W X = true) (h2 : inB V X = true) : inB W V = true ∨ inB V W = true := by
  rw [inB_iff] at h1 h2; rw [inB_iff, inB_iff]
  obtain ⟨U1, e1⟩ := h1
  obtain ⟨U2, e2⟩ := h2
  have h := e1.symm.trans e2
  rcases List.append_eq_append_iff.mp h with ⟨a, ha, _⟩ | ⟨a, ha, _⟩
  · exact .inl ⟨a, ha⟩
  · exact .inr ⟨a, ha⟩
theorem inB_trans {W V X : List Str} (h1 : inB W V = true) (h2 : inB V X = true) : inB W X = true := by
  rw [inB_iff] at h1 h2 ⊢
  obtain ⟨U1, rfl⟩ := h1
  obtain ⟨U2, rfl⟩ := h2
  exact ⟨U1 ++ U2, List.append_assoc _ _ _⟩
theorem inP_trans {W V X : List Str} (h1 : inB W V = true) (h2 : inP V X = true) : inP W X = true := by
  rw [inB_iff] at h1; rw [inP_iff] at h2 ⊢
  obtain ⟨U1, rfl⟩ := h1
  obtain ⟨U2, hU, rfl⟩ := h2
  exact ⟨U1 ++ U2, fun e => hU (List.append_eq_nil_iff.mp e).2, List.append_assoc _ _ _⟩
theorem inP_inB {W V : List Str} (h : inP W V = true) : inB W V = true := by
  unfold inP at h; exact (Bool.and_eq_true _ _ ▸ h).1
end Mine
end
section
open PySem PySem.W PyProof.Rows PySem.Calls
namespace Mine
noncomputable def dueF (rows : List Row) (h : List Nat) (r : Row) : Bool × Bool := (h.any fun x => inB (wsAt rows x) r.ws, h.any fun x => inP (wsAt rows x) r.ws)
structure RowsOk (rows : List Row) : Prop where
  ws : ∀ r ∈ rows, WsOk r.ws
  mode : ∀ r ∈ rows, r.mode < 65536
  nd : (rows.map (·.ws)).Nodup
theorem rows_ok_of {rows : List Row} (h : RowsInv rows) : RowsOk rows :=
  ⟨fun r hr => ⟨(row_norm (h.ok r hr)).2.2.2.1, (row_norm (h.ok r hr)).2.2.2.2⟩, fun r hr => (h.ok r hr).2, h.nd⟩
theorem at_row {rows : List Row} {n : Nat} (h : n < rows.length) : wsAt rows n = rows[n].ws ∧ modeAt rows n = rows[n].mode ∧ plainAt rows n = plainOf rows[n] := by
  unfold wsAt modeAt plainAt
  rw [List.getElem?_map, List.getElem?_eq_getElem h]
  exact ⟨rfl, rfl, rfl⟩
theorem lack_mem {rows : List Row} (R : RowsOk rows) {k : Nat} (hk : k < 10) (n : Nat) : n ∈ lackN rows k ↔ ∃ h : n < rows.length, lackB k rows[n].mode = true := by
  unfold lackN
  rw [List.mem_filter, List.mem_range]
  constructor
  · rintro ⟨h, e⟩
    rw [(at_row h).2.1, lackCh_eq (R.mode _ (List.getElem_mem h)) hk] at e
    exact ⟨h, e⟩
  · rintro ⟨h, e⟩
    refine ⟨h, ?_⟩
    rw [(at_row h).2.1, lackCh_eq (R.mode _ (List.getElem_mem h)) hk]
    exact e
theorem lacks_any {rows : List Row} (R : RowsOk rows) {k : Nat} (hk : k < 10) (V : List Str) : decide (lacksS rows k V ≠ []) = (lackN rows k).any fun x => inB (wsAt rows x) V := by
  rw [Bool.eq_iff_iff, decide_eq_true_eq, List.any_eq_true]
  constructor
  · intro h
    obtain ⟨W, hW⟩ := List.exists_mem_of_ne_nil _ h
    unfold lacksS at hW
    obtain ⟨o, ho, e⟩ := List.mem_filterMap.mp hW
    unfold lackOf at e
    split at e
    · rename_i c
      obtain ⟨n, hn, e2⟩ := List.mem_iff_getElem.mp ho
      refine ⟨n, (lack_mem R hk n).mpr ⟨hn, by rw [e2]; exact c.2⟩, ?_⟩
      rw [(at_row hn).1, e2]
      unfold inB
      rw [decide_eq_true_eq]; exact c.1
    · cases e
  · rintro ⟨n, hn, hin⟩ e
    obtain ⟨h, hl⟩ := (lack_mem R hk n).mp hn
    rw [(at_row h).1] at hin
    unfold inB at hin
    rw [decide_eq_true_eq] at hin
    have : rows[n].ws ∈ lacksS rows k V := List.mem_filterMap.mpr ⟨rows[n], List.getElem_mem h, by unfold lackOf; rw [if_pos ⟨hin, hl⟩]⟩
    rw [e] at this
    exact nomatch this
theorem lacks_above {rows : List Row} (R : RowsOk rows) {k : Nat} (hk : k < 10) (V : List Str) : decide ((lacksS rows k V).filter (fun v => decide (v ≠ V)) ≠ []) = (lackN rows k).any fun x => inP (wsAt rows x) V := by
  rw [Bool.eq_iff_iff, decide_eq_true_eq, List.any_eq_true]
  constructor
  · intro h
    obtain ⟨W, hW⟩ := List.exists_mem_of_ne_nil _ h
    obtain ⟨hW, hne⟩ := List.mem_filter.mp hW
    unfold lacksS at hW
    obtain ⟨o, ho, e⟩ := List.mem_filterMap.mp hW
    unfold lackOf at e
    split at e
    · rename_i c
      cases e
      obtain ⟨n, hn, e2⟩ := List.mem_iff_getElem.mp ho
      refine ⟨n, (lack_mem R hk n).mpr ⟨hn, by rw [e2]; exact c.2⟩, ?_⟩
      rw [(at_row hn).1, e2]
      unfold inP inB
      rw [Bool.and_eq_true, decide_eq_true_eq]; exact ⟨c.1, hne⟩
    · cases e
  · rintro ⟨n, hn, hin⟩ e
    obtain ⟨h, hl⟩ := (lack_mem R hk n).mp hn
    rw [(at_row h).1] at hin
    unfold inP inB at hin
    rw [Bool.and_eq_true, decide_eq_true_eq] at hin
    have : rows[n].ws ∈ (lacksS rows k V).filter (fun v => decide (v ≠ V)) := List.mem_filter.mpr ⟨List.mem_filterMap.mpr ⟨rows[n], List.getElem_mem h, by unfold lackOf; rw [if_pos ⟨hin.1, hl⟩]⟩, hin.2⟩
    rw [e] at this
    exact nomatch this
theorem ex_cons {α : Type} {p : α → Prop} {x : α} {l : List α} : (∃ y, y ∈ x :: l ∧ p y) ↔ p x ∨ ∃ y, y ∈ l ∧ p y := by
  constructor
  · rintro ⟨y, hy, h⟩
    rcases List.mem_cons.mp hy with rfl | hy
    · exact .inl h
    · exact .inr ⟨y, hy, h⟩
  · rintro (h | ⟨y, hy, h⟩)
    · exact ⟨x, .head _, h⟩
    · exact ⟨y, .tail _ hy, h⟩
theorem mem_metA {c p : Str} {acc : List Nat} {m x : Nat} : x ∈ metA c p acc m ↔ x ∈ acc ∨ (c = p ∧ x = m) := by
  unfold metA
  by_cases h : c = p ∧ m ∉ acc
  · rw [if_pos h, List.mem_append, List.mem_singleton]
    constructor
    · rintro (a | a)
      · exact .inl a
      · exact .inr ⟨h.1, a⟩
    · rintro (a | a)
      · exact .inl a
      · exact .inr a.2
  · rw [if_neg h]
    constructor
    · exact .inl
    · rintro (a | ⟨e, rfl⟩)
      · exact a
      · exact Classical.byContradiction fun z => h ⟨e, z⟩
theorem mem_metIn {cf : Nat → Nat → Str} {pf : Nat → Str} {n x : Nat} : ∀ (b acc : List Nat), x ∈ b.foldl (metStep cf pf n) acc ↔ x ∈ acc ∨ ∃ m ∈ b, (cf n m = pf n ∧ x = m) ∨ (cf n m = pf m ∧ x = n)
  | [], acc => by simp
  | m :: b, acc => by
    rw [List.foldl_cons, mem_metIn b, ex_cons]
    unfold metStep
    rw [mem_metA, mem_metA]
    constructor
    · rintro ((h | h) | h)
      · rcases h with h | h
        · exact .inl h
        · exact .inr (.inl (.inl h))
      · exact .inr (.inl (.inr h))
      · exact .inr (.inr h)
    · rintro (h | ((h | h) | h))
      · exact .inl (.inl (.inl h))
      · exact .inl (.inl (.inr h))
      · exact .inl (.inr h)
      · exact .inr h
theorem mem_metO {cf : Nat → Nat → Str} {pf : Nat → Str} {b : List Nat} {x : Nat} : ∀ (a acc : List Nat), x ∈ a.foldl (metIn cf pf b) acc ↔ x ∈ acc ∨ ∃ n ∈ a, ∃ m ∈ b, (cf n m = pf n ∧ x = m) ∨ (cf n m = pf m ∧ x = n)
  | [], acc => by simp
  | n :: a, acc => by
    rw [List.foldl_cons, mem_metO a, ex_cons]
    unfold metIn
    rw [mem_metIn]
    constructor
    · rintro ((h | h) | h)
      · exact .inl h
      · exact .inr (.inl h)
      · exact .inr (.inr h)
    · rintro (h | (h | h))
      · exact .inl (.inl h)
      · exact .inl (.inr h)
      · exact .inr h
theorem mem_metS {cf : Nat → Nat → Str} {pf : Nat → Str} {a b : List Nat} {x : Nat} : x ∈ metS cf pf a b ↔ ∃ n ∈ a, ∃ m ∈ b, (cf n m = pf n ∧ x = m) ∨ (cf n m = pf m ∧ x = n) := by
  unfold metS
  rw [mem_metO]
  constructor
  · rintro (h | h)
    · exact nomatch h
    · exact h
  · exact .inr
theorem common_iff {rows : List Row} (R : RowsOk rows) {n m : Nat} (hn : n < rows.length) (hm : m < rows.length) : (commonOf rows (max n m) (min n m) = plainAt rows n ↔ inB (wsAt rows n) (wsAt rows m) = true) ∧ (commonOf rows (max n m) (min n m) = plainAt rows m ↔ inB (wsAt rows m) (wsAt rows n) = true) := by
  have key : ∀ {n m : Nat} (hn : n < rows.length) (hm : m < rows.length), ("/" ++ Str.join "/" (sharedS (wsAt rows n) (wsAt rows m)) = plainAt rows n ↔ inB (wsAt rows n) (wsAt rows m) = true) := by
    intro n m hn hm
    obtain ⟨e1, _, e2⟩ := at_row hn
    have w1 := R.ws _ (List.getElem_mem hn)
    have w2 := R.ws _ (List.getElem_mem hm)
    rw [(at_row hm).1, e1, e2, ← shared_pre]
    unfold plainOf
    have w3 := sharedW_ok w1 w2
    constructor
    · exact fun h => path_inj w3.ne w1.ne w3.noSlash w1.noSlash h
    · intro h; rw [h]
  have sym : commonOf rows (max n m) (min n m) = "/" ++ Str.join "/" (sharedS (wsAt rows n) (wsAt rows m)) ∧ commonOf rows (max n m) (min n m) = "/" ++ Str.join "/" (sharedS (wsAt rows m) (wsAt rows n)) := by
    unfold commonOf
    rcases Nat.le_total n m with h | h
    · rw [Nat.max_eq_right h, Nat.min_eq_left h, sharedS_comm (wsAt rows n)]; exact ⟨rfl, rfl⟩
    · rw [Nat.max_eq_left h, Nat.min_eq_right h, sharedS_comm (wsAt rows m)]; exact ⟨rfl, rfl⟩
  exact ⟨by rw [sym.1]; exact key hn hm, by rw [sym.2]; exact key hm hn⟩
end Mine
end
section
open PySem PySem.W PyProof.Rows PySem.Calls
namespace Mine
theorem met_any {rows : List Row} (R : RowsOk rows) {h ls : List Nat} (H : ∀ n ∈ h, n < rows.length) (L : ∀ n ∈ ls, n < rows.length) (q : List Str → Bool) (down : ∀ W V, inB W V = true → q V = true → q W = true) (lin : ∀ W V, q W = true → q V = true → inB W V = true ∨ inB V W = true) :
    ((metS (fun n m => commonOf rows (max n m) (min n m)) (plainAt rows) h ls).any fun x => q (wsAt rows x)) = ((h.any fun x => q (wsAt rows x)) && ls.any fun x => q (wsAt rows x)) := by
  rw [Bool.eq_iff_iff, Bool.and_eq_true, List.any_eq_true, List.any_eq_true, List.any_eq_true]
  constructor
  · rintro ⟨x, hx, e⟩
    obtain ⟨n, hn, m, hm, c⟩ := mem_metS.mp hx
    obtain ⟨c1, c2⟩ := common_iff R (H n hn) (L m hm)
    rcases c with ⟨c, rfl⟩ | ⟨c, rfl⟩
    · exact ⟨⟨n, hn, down _ _ (c1.mp c) e⟩, ⟨_, hm, e⟩⟩
    · exact ⟨⟨_, hn, e⟩, ⟨m, hm, down _ _ (c2.mp c) e⟩⟩
  · rintro ⟨⟨n, hn, e1⟩, ⟨m, hm, e2⟩⟩
    obtain ⟨c1, c2⟩ := common_iff R (H n hn) (L m hm)
    rcases lin _ _ e1 e2 with c | c
    · exact ⟨m, mem_metS.mpr ⟨n, hn, m, hm, .inl ⟨c1.mpr c, rfl⟩⟩, e2⟩
    · exact ⟨n, mem_metS.mpr ⟨n, hn, m, hm, .inr ⟨c2.mpr c, rfl⟩⟩, e1⟩
theorem add_any {h ls : List Nat} (q : Nat → Bool) : (h ++ ls.filter fun n => decide (n ∉ h)).any q = (h.any q || ls.any q) := by
  rw [Bool.eq_iff_iff, Bool.or_eq_true, List.any_eq_true, List.any_eq_true, List.any_eq_true]
  constructor
  · rintro ⟨x, hx, e⟩
    rcases List.mem_append.mp hx with hx | hx
    · exact .inl ⟨x, hx, e⟩
    · exact .inr ⟨x, (List.mem_filter.mp hx).1, e⟩
  · rintro (⟨x, hx, e⟩ | ⟨x, hx, e⟩)
    · exact ⟨x, List.mem_append_left _ hx, e⟩
    · by_cases hh : x ∈ h
      · exact ⟨x, List.mem_append_left _ hh, e⟩
      · exact ⟨x, List.mem_append_right _ (List.mem_filter.mpr ⟨hx, by rw [decide_eq_true_eq]; exact hh⟩), e⟩
theorem due_step {rows : List Row} (R : RowsOk rows) {h : List Nat} (H : HandOk rows.length h) (i : Int) (r : Row) : dueF rows (handedS rows h i) r = dueS (decide (i < 0)) (dueF rows h r) (decide (lacksS rows (kOf i) r.ws ≠ [])) (decide ((lacksS rows (kOf i) r.ws).filter (fun v => decide (v ≠ r.ws)) ≠ [])) := by
  have hk := kOf_lt i
  rw [lacks_any R hk, lacks_above R hk]
  have L := lackN_ok rows (kOf i)
  unfold handedS
  generalize lackN rows (kOf i) = ls at *
  unfold dueS dueF
  by_cases hi : i < 0
  · rw [if_pos hi, decide_eq_true hi, if_pos rfl]
    rw [met_any R H.lt L.lt (fun W => inB W r.ws) (fun _ _ a b => inB_trans a b) (fun _ _ a b => chain a b)]
    rw [met_any R H.lt L.lt (fun W => inP W r.ws) (fun _ _ a b => inP_trans a b) (fun _ _ a b => chain (inP_inB a) (inP_inB b))]
  · rw [if_neg hi, decide_eq_false hi, if_neg (by decide)]
    rw [add_any, add_any]
theorem state_due {rows : List Row} (R : RowsOk rows) (l : List Int) : (stateS rows l).2 = rows.map (dueF rows (stateS rows l).1) := by
  have key : ∀ (l : List Int) (s : List Nat × List (Bool × Bool)), HandOk rows.length s.1 → s.2 = rows.map (dueF rows s.1) → (l.foldl (lawStep rows) s).2 = rows.map (dueF rows (l.foldl (lawStep rows) s).1) := by
    intro l
    induction l with
    | nil => intro s _ e; exact e
    | cons i l ih =>
      intro s H e
      rw [List.foldl_cons]
      refine ih _ (handedS_ok H i) ?_
      show duesS rows s.2 (kOf i) (decide (i < 0)) = rows.map (dueF rows (handedS rows s.1 i))
      rw [e]
      unfold duesS
      have z : rows.zip (rows.map (dueF rows s.1)) = rows.map fun r => (r, dueF rows s.1 r) := by
        generalize dueF rows s.1 = f
        clear e ih H R
        induction rows with
        | nil => rfl
        | cons x rs ih2 => rw [List.map_cons, List.zip_cons_cons, ih2, List.map_cons]
      rw [z, List.map_map]
      refine List.map_congr_left fun r _ => ?_
      show dueAt rows (kOf i) (decide (i < 0)) (r, dueF rows s.1 r) = _
      rw [due_step R H]
      rfl
  refine key l _ ⟨List.nodup_nil, fun n h => nomatch h⟩ ?_
  refine List.map_congr_left fun r _ => ?_
  rfl
end Mine
end
section
open PySem PySem.W PyProof.Rows PySem.Calls
namespace Mine
noncomputable def cov1 (a : Ask) (p : Option Str × Str) : Nat := if coversS a.mods1 a.dirs1 p.1 p.2 then 1 else 0
noncomputable def cov2 (a : Ask) (p : Option Str × Str) : Nat := if coversS a.mods2 a.dirs2 p.1 p.2 then 1 else 0
theorem first_pass (a : Ask) : ∀ (l : List (Option Str × Str)) (s : List Str × Memo × Memo), (l.map (·.2)).Nodup → (∀ p ∈ l, s.2.1 p.2 = none ∧ s.2.2 p.2 = none) →
    (l.foldl (toldStep a) s).1 = s.1 ++ l.map (fun p => reprD (cov1 a p) ++ reprD (cov2 a p)) ∧ (∀ p ∈ l, (l.foldl (toldStep a) s).2.1 p.2 = some (cov1 a p) ∧ (l.foldl (toldStep a) s).2.2 p.2 = some (cov2 a p)) ∧ ∀ k, k ∉ l.map (·.2) → (l.foldl (toldStep a) s).2.1 k = s.2.1 k ∧ (l.foldl (toldStep a) s).2.2 k = s.2.2 k
  | [], s, _, _ => ⟨by simp, fun p h => (nomatch h), fun k _ => ⟨rfl, rfl⟩⟩
  | p :: l, s, nd, hs => by
    rw [List.map_cons, List.nodup_cons] at nd
    obtain ⟨h1, h2⟩ := hs p (.head _)
    have e : toldStep a s p = (s.1 ++ [reprD (cov1 a p) ++ reprD (cov2 a p)], memoPut s.2.1 p.2 (cov1 a p), memoPut s.2.2 p.2 (cov2 a p)) := by
      unfold toldStep namesS memoS
      rw [h1, h2]
      rfl
    have put : ∀ (g : Memo) (j : Nat) (k : Str), k ≠ p.2 → memoPut g p.2 j k = g k := fun g j k h => by unfold memoPut; rw [if_neg h]
    have same : ∀ (g : Memo) (j : Nat), memoPut g p.2 j p.2 = some j := fun g j => by unfold memoPut; rw [if_pos rfl]
    obtain ⟨i1, i2, i3⟩ := first_pass a l (toldStep a s p) nd.2 (fun q hq => by
      have hne : q.2 ≠ p.2 := fun z => nd.1 (z ▸ List.mem_map_of_mem hq)
      rw [e]
      dsimp only
      rw [put _ _ _ hne, put _ _ _ hne]
      exact hs q (.tail _ hq))
    rw [List.foldl_cons]
    refine ⟨?_, fun q hq => ?_, fun k hk => ?_⟩
    · rw [i1, e]; simp
    · rcases List.mem_cons.mp hq with rfl | hq
      · obtain ⟨j1, j2⟩ := i3 q.2 nd.1
        rw [j1, j2, e]
        exact ⟨same _ _, same _ _⟩
      · exact i2 q hq
    · rw [List.map_cons, List.mem_cons, not_or] at hk
      obtain ⟨j1, j2⟩ := i3 k hk.2
      rw [j1, j2, e]
      exact ⟨put _ _ _ hk.1, put _ _ _ hk.1⟩
theorem second_pass (a : Ask) (x y : Str → Nat) : ∀ (l : List (Option Str × Str)) (s : List Str × Memo × Memo), (∀ p ∈ l, s.2.1 p.2 = some (x p.2) ∧ s.2.2 p.2 = some (y p.2)) →
    (l.foldl (toldStep a) s).1 = s.1 ++ l.map (fun p => reprD (x p.2) ++ reprD (y p.2))
  | [], s, _ => by simp
  | p :: l, s, hs => by
    obtain ⟨h1, h2⟩ := hs p (.head _)
    have e : toldStep a s p = (s.1 ++ [reprD (x p.2) ++ reprD (y p.2)], s.2.1, s.2.2) := by
      unfold toldStep namesS memoS
      rw [h1, h2]
    rw [List.foldl_cons, second_pass a x y l _ (fun q hq => by rw [e]; exact hs q (.tail _ hq)), e]
    simp
theorem items_eq (rows : List Row) (plains : List Str) (hp : plains.length = rows.length) : toldItems rows plains = (List.range rows.length).map (fun n => (plains[n]?, dotsOf rows n)) ++ (List.range rows.length).map (fun n => ((none : Option Str), dotsOf rows n)) := by
  apply List.ext_getElem?
  intro i
  unfold toldItems toldFiles
  rw [List.getElem?_map, List.getElem?_zipIdx]
  by_cases h : i < rows.length
  · rw [List.getElem?_append_left (by rw [List.length_map]; omega), List.getElem?_append_left (by rw [List.length_map, List.length_range]; exact h), List.getElem?_map, List.getElem?_map, List.getElem?_range h, List.getElem?_eq_getElem (show i < plains.length by omega)]
    simp only [Option.map_some, Nat.zero_add, Nat.mod_eq_of_lt h]
    rw [List.getElem?_eq_getElem (show i < plains.length by omega)]
  · rw [List.getElem?_append_right (by rw [List.length_map]; omega), List.getElem?_append_right (by rw [List.length_map, List.length_range]; omega), List.length_map, List.length_map, List.length_range, hp, List.getElem?_map, List.getElem?_replicate]
    by_cases h2 : i - rows.length < rows.length
    · rw [if_pos h2, List.getElem?_range h2]
      simp only [Option.map_some, Nat.zero_add]
      rw [show i % rows.length = i - rows.length from by rw [Nat.mod_eq_sub_mod (by omega), Nat.mod_eq_of_lt h2]]
    · rw [if_neg h2, List.getElem?_eq_none (by rw [List.length_range]; omega)]
      rfl
end Mine
end
section
open PySem PySem.W PyProof.Rows PySem.Calls
namespace Mine
theorem dots_at (rows : List Row) (n : Nat) : dotsOf rows n = Str.join "." (wsAt rows n) := rfl
theorem rows_nd {rows : List Row} (R : RowsOk rows) {n m : Nat} (hn : n < rows.length) (hm : m < rows.length) (h : wsAt rows n = wsAt rows m) : n = m := by
  rw [(at_row hn).1, (at_row hm).1] at h
  have nd := List.pairwise_iff_getElem.mp R.nd
  have h1 : n < (rows.map (·.ws)).length := by rw [List.length_map]; exact hn
  have h2 : m < (rows.map (·.ws)).length := by rw [List.length_map]; exact hm
  have e : (rows.map (·.ws))[n] = (rows.map (·.ws))[m] := by rw [List.getElem_map, List.getElem_map]; exact h
  rcases Nat.lt_trichotomy n m with c | c | c
  · exact absurd e (nd n m h1 h2 c)
  · exact c
  · exact absurd e.symm (nd m n h2 h1 c)
theorem WsAt {rows : List Row} (R : RowsOk rows) {n : Nat} (hn : n < rows.length) : WsOk (wsAt rows n) := by
  rw [(at_row hn).1]; exact R.ws _ (List.getElem_mem hn)
theorem plain_at {rows : List Row} {n : Nat} (hn : n < rows.length) : ((rows.map plainOf)[n]?).getD "" = "/" ++ Str.join "/" (wsAt rows n) := by
  have h := at_row hn
  unfold plainAt at h
  rw [h.2.2, h.1]; rfl
theorem keys_nd {rows : List Row} (R : RowsOk rows) : ((List.range rows.length).map (dotsOf rows)).Nodup := by
  refine List.pairwise_iff_getElem.mpr fun i j hi hj hij e => ?_
  rw [List.length_map, List.length_range] at hi hj
  rw [List.getElem_map, List.getElem_map, List.getElem_range, List.getElem_range, dots_at, dots_at] at e
  have := rows_nd R hi hj (dots_inj (WsAt R hi) (WsAt R hj) e)
  omega
theorem key_new {rows : List Row} (R : RowsOk rows) {n : Nat} (hn : n < rows.length) : g0 (dotsOf rows n) = none := by
  unfold g0
  refine if_neg fun h => ?_
  obtain ⟨U, hU⟩ := (WsAt R hn).top
  rw [dots_at, hU] at h
  have h2 : (Str.join "." (("a" : Str) :: U)).cps.toList.head? = some 97 := by
    cases U with
    | nil => rw [join_one]; decide +kernel
    | cons x U => rw [join_two, cps_app, cps_app]; rw [show ("a" : Str).cps.toList = [97] from by decide +kernel]; rfl
  rw [h] at h2
  revert h2
  decide +kernel
theorem cov1_eq {rows : List Row} (R : RowsOk rows) {h : List Nat} (H : HandOk rows.length h) {n : Nat} (hn : n < rows.length) : coversS (askOf rows (rows.map plainOf) h).mods1 (askOf rows (rows.map plainOf) h).dirs1 ((rows.map plainOf)[n]?) (dotsOf rows n) = h.any fun x => inB (wsAt rows x) (wsAt rows n) := by
  have hp : (rows.map plainOf)[n]? = some ("/" ++ Str.join "/" (wsAt rows n)) := by
    rw [List.getElem?_map, List.getElem?_eq_getElem hn, (at_row hn).1]; rfl
  have hd : (askOf rows (rows.map plainOf) h).dirs1 = [("/ab" : Str)] := by
    show [normD "/ab"] = _
    rw [normD_ab]
  rw [hp, hd]
  show (decide (dotsOf rows n ∈ h.map (dotsOf rows)) || (h.map (dotsOf rows)).any (fun x => Txt.startswith (dotsOf rows n) (x ++ ".")) || restS [("/ab" : Str)] (some _)) = _
  have hr : restS [("/ab" : Str)] (some ("/" ++ Str.join "/" (wsAt rows n))) = false := by
    show [("/ab" : Str)].any (fun d => Txt.startswith ("/" ++ Str.join "/" (wsAt rows n)) (d ++ "/")) = false
    rw [List.any_cons, List.any_nil, path_pre_ab (WsAt R hn)]; rfl
  rw [hr, Bool.or_false, Bool.eq_iff_iff, Bool.or_eq_true, decide_eq_true_eq, List.any_eq_true, List.any_eq_true]
  constructor
  · rintro (hm | ⟨y, hy, e⟩)
    · obtain ⟨x, hx, e⟩ := List.mem_map.mp hm
      refine ⟨x, hx, inB_iff.mpr ⟨[], ?_⟩⟩
      rw [List.append_nil]
      rw [dots_at, dots_at] at e
      exact (dots_inj (WsAt R (H.lt x hx)) (WsAt R hn) e).symm
    · obtain ⟨x, hx, rfl⟩ := List.mem_map.mp hy
      rw [dots_at, dots_at, dots_pre (WsAt R (H.lt x hx)) (WsAt R hn)] at e
      exact ⟨x, hx, inP_inB e⟩
  · rintro ⟨x, hx, e⟩
    by_cases c : wsAt rows x = wsAt rows n
    · left
      rw [dots_at, ← c]
      exact List.mem_map_of_mem (f := dotsOf rows) hx
    · right
      refine ⟨dotsOf rows x, List.mem_map_of_mem hx, ?_⟩
      rw [dots_at, dots_at, dots_pre (WsAt R (H.lt x hx)) (WsAt R hn)]
      unfold inP
      rw [Bool.and_eq_true, decide_eq_true_eq]
      exact ⟨e, c⟩
theorem dirs2_of {rows : List Row} {h : List Nat} (W : Nat → Str) (key : ∀ x ∈ h, normD (((rows.map plainOf)[x]?).getD ("" : Str) ++ ("/." : Str)) = W x) : (askOf rows (rows.map plainOf) h).dirs2 = h.map W := by
  unfold askOf
  dsimp only
  rw [List.map_map]
  apply List.map_congr_left
  intro x hx
  rw [Function.comp_apply]
  rw [key x hx]
theorem norm_at {rows : List Row} (R : RowsOk rows) (x : Nat) (hx : x < rows.length) : normD (((rows.map plainOf)[x]?).getD ("" : Str) ++ ("/." : Str)) = "/" ++ Str.join "/" (wsAt rows x) := by
  have w := R.ws _ (List.getElem_mem hx)
  have h1 := normD_plain (r := rows[x]) w.ne w.word
  have h2 : plainOf rows[x] = "/" ++ Str.join "/" (wsAt rows x) := by rw [(at_row hx).1]; rfl
  rw [h2] at h1
  rw [plain_at hx]
  exact h1
noncomputable def pathAt (rows : List Row) (x : Nat) : Str := "/" ++ Str.join "/" (wsAt rows x)
theorem dirs2_eq {rows : List Row} (R : RowsOk rows) {h : List Nat} (H : HandOk rows.length h) : (askOf rows (rows.map plainOf) h).dirs2 = h.map (pathAt rows) :=
  dirs2_of (pathAt rows) fun x hx => norm_at R x (H.lt x hx)
theorem cov2_eq {rows : List Row} (R : RowsOk rows) {h : List Nat} (H : HandOk rows.length h) {n : Nat} (hn : n < rows.length) : coversS (askOf rows (rows.map plainOf) h).mods2 (askOf rows (rows.map plainOf) h).dirs2 ((rows.map plainOf)[n]?) (dotsOf rows n) = h.any fun x => inP (wsAt rows x) (wsAt rows n) := by
  have hp : (rows.map plainOf)[n]? = some ("/" ++ Str.join "/" (wsAt rows n)) := by
    rw [List.getElem?_map, List.getElem?_eq_getElem hn, (at_row hn).1]; rfl
  rw [hp, dirs2_eq R H]
  show (decide (dotsOf rows n ∈ [("ab" : Str)]) || [("ab" : Str)].any (fun x => Txt.startswith (dotsOf rows n) (x ++ ".")) || restS _ (some _)) = _
  have h1 : decide (dotsOf rows n ∈ [("ab" : Str)]) = false := decide_eq_false fun z => dots_ab (WsAt R hn) (List.mem_singleton.mp z)
  have h2 : [("ab" : Str)].any (fun x => Txt.startswith (dotsOf rows n) (x ++ ".")) = false := by
    rw [List.any_cons, List.any_nil, dots_at, dots_pre_ab (WsAt R hn)]; rfl
  rw [h1, h2, Bool.false_or, Bool.false_or]
  unfold restS
  dsimp only
  rw [Bool.eq_iff_iff, List.any_eq_true, List.any_eq_true]
  constructor
  · rintro ⟨y, hy, e⟩
    obtain ⟨x, hx, rfl⟩ := List.mem_map.mp hy
    unfold pathAt at e
    rw [path_pre (WsAt R (H.lt x hx)) (WsAt R hn)] at e
    exact ⟨x, hx, e⟩
  · rintro ⟨x, hx, e⟩
    refine ⟨_, List.mem_map_of_mem hx, ?_⟩
    unfold pathAt
    rw [path_pre (WsAt R (H.lt x hx)) (WsAt R hn)]
    exact e
theorem told_eq {rows : List Row} (R : RowsOk rows) {h : List Nat} (H : HandOk rows.length h) : toldS rows (rows.map plainOf) h = wantS (rows.map (dueF rows h)) ++ wantS (rows.map (dueF rows h)) := by
  unfold toldS
  rw [items_eq rows _ (List.length_map _), List.foldl_append]
  generalize hA : askOf rows (rows.map plainOf) h = a
  have keys : (((List.range rows.length).map (fun n => ((rows.map plainOf)[n]?, dotsOf rows n))).map (·.2)) = (List.range rows.length).map (dotsOf rows) := by
    rw [List.map_map]; rfl
  obtain ⟨p1, p2, _⟩ := first_pass a ((List.range rows.length).map (fun n => ((rows.map plainOf)[n]?, dotsOf rows n))) ([], g0, g0) (by rw [keys]; exact keys_nd R) (fun p hp => by
    obtain ⟨n, hn, rfl⟩ := List.mem_map.mp hp
    exact ⟨key_new R (List.mem_range.mp hn), key_new R (List.mem_range.mp hn)⟩)
  generalize hs : List.foldl (toldStep a) ([], g0, g0) ((List.range rows.length).map (fun n => ((rows.map plainOf)[n]?, dotsOf rows n))) = s at *
  have p3 := second_pass a (fun k => (s.2.1 k).getD 0) (fun k => (s.2.2 k).getD 0) ((List.range rows.length).map (fun n => ((none : Option Str), dotsOf rows n))) s (fun p hp => by
    obtain ⟨n, hn, rfl⟩ := List.mem_map.mp hp
    obtain ⟨q1, q2⟩ := p2 _ (List.mem_map_of_mem hn)
    dsimp only at q1 q2 ⊢
    rw [q1, q2]; exact ⟨rfl, rfl⟩)
  rw [p3, p1, List.nil_append, List.map_map, List.map_map]
  have fin : ∀ n ∈ List.range rows.length, reprD (cov1 a ((rows.map plainOf)[n]?, dotsOf rows n)) ++ reprD (cov2 a ((rows.map plainOf)[n]?, dotsOf rows n)) = want1 (((rows[n]?).map (dueF rows h)).getD (false, false)) := by
    intro n hn
    have hn := List.mem_range.mp hn
    unfold cov1 cov2
    dsimp only
    rw [← hA, cov1_eq R H hn, cov2_eq R H hn, List.getElem?_eq_getElem hn, (at_row hn).1]
    show _ = want1 (dueF rows h rows[n])
    unfold dueF want1
    dsimp only
    cases (h.any fun x => inB (wsAt rows x) rows[n].ws) <;> cases (h.any fun x => inP (wsAt rows x) rows[n].ws) <;> decide +kernel
  have want : wantS (rows.map (dueF rows h)) = (List.range rows.length).map fun n => want1 (((rows[n]?).map (dueF rows h)).getD (false, false)) := by
    apply List.ext_getElem?
    intro i
    unfold wantS
    rw [List.map_map, List.getElem?_map, List.getElem?_map]
    by_cases hi : i < rows.length
    · rw [List.getElem?_range hi, List.getElem?_eq_getElem hi]
      simp only [Option.map_some]
      rw [List.getElem?_eq_getElem hi]
      rfl
    · rw [List.getElem?_eq_none (by omega), List.getElem?_eq_none (by rw [List.length_range]; omega)]; rfl
  rw [want]
  congr 1
  · exact List.map_congr_left fun n hn => fin n hn
  · refine List.map_congr_left fun n hn => ?_
    rw [← fin n hn]
    obtain ⟨q1, q2⟩ := p2 _ (List.mem_map_of_mem hn)
    dsimp only [Function.comp] at q1 q2 ⊢
    rw [q1, q2]
    rfl
end Mine
end
section
open PySem PySem.W PyProof.Rows PySem.Calls
namespace Mine
theorem oks_words {W : List Str} (h : WsOk W) : Oks W := fun x hx => (word_free (h.word x hx)).2.2.2.2.2
theorem facts_of (ns : List Int) (hne : ns ≠ []) (hl : ns.length ≤ 8) : LawFacts ns := by
  obtain ⟨I, l1, l2⟩ := rows_inv ns hne
  have R := rows_ok_of I
  refine ⟨l2, by omega, fun r hr => ?_, fun r hr q hq => ?_, fun t ht => ?_, fun t ht => ?_, fun t ht => ?_⟩
  · have w := R.ws r hr
    obtain ⟨a1, a2, a3, a4, a5⟩ := row_norm (I.ok r hr)
    have hm := R.mode r hr
    have hp := plain_len a3 a4
    refine ⟨a1, a2, hm, fileS_eq hm, listS_size _, a3, fun x hx => Nat.le_trans (word_free (a4 x hx)).2.2.2.1 (by decide), oks_words w, plain_P a5 a3 a4, by omega, plain_rooted a5 a3 a4, plain_strOk a4, listS_strOk _⟩
  · obtain ⟨g1, g2⟩ := least_greatest r.ws q.ws
    exact ⟨plain_strOk (sharedW_ok (R.ws r hr) (R.ws q hq)).word, g1, g2⟩
  · rw [told_eq R (hand_ok _ _), ← state_due R]
  · have H := hand_ok (rowsS ns) (ns.take t)
    exact ⟨Nat.le_trans (few_of_nodup _ _ H.nd H.lt) (by omega), H.lt⟩
  · have H := hand_ok (rowsS ns) (ns.take t)
    constructor
    · intro x hx
      have e : (askOf (rowsS ns) ((rowsS ns).map plainOf) (stateS (rowsS ns) (ns.take t)).1).dirs1 = [("/ab" : Str)] := by
        show [normD "/ab"] = _
        rw [normD_ab]
      rw [e] at hx
      rw [List.mem_singleton.mp hx, show (Str.ofString "/ab").length = 3 from by decide +kernel]
      decide
    · intro x hx
      rw [dirs2_eq R H] at hx
      obtain ⟨n, hn, rfl⟩ := List.mem_map.mp hx
      have hn := H.lt n hn
      obtain ⟨_, _, a3, a4, _⟩ := row_norm (I.ok _ (List.getElem_mem hn))
      have hp := plain_len a3 a4
      have e : pathAt (rowsS ns) n = plainOf (rowsS ns)[n] := by
        unfold pathAt plainOf
        rw [(at_row hn).1]
      rw [e]
      exact Nat.le_trans hp (by decide)
theorem facts (is : List Int) : LawFacts (numbersS is) := by
  refine facts_of _ ?_ ?_
  · unfold numbersS; exact List.cons_ne_nil _ _
  · unfold numbersS
    rw [List.length_append, List.length_take]
    simp only [List.length_cons, List.length_nil]
    omega
end Mine
end
section
open PySem PySem.W PyProof.Rows
namespace Mine
theorem ints_rd {h : Heap} {X : Addr → Prop} : ∀ {vs : List Value} {ns : List Int}, IntsAre vs ns → RdAll h X vs (ns.map .int)
  | _, _, .nil => .nil
  | _, _, .cons n t r => .cons (.int _ _) (ints_rd r)
theorem room9 : Room 9 callerA := ⟨rfl, rfl, by decide +kernel, by decide +kernel⟩
end Mine
set_option maxRecDepth 100000 in
set_option maxHeartbeats 8000000 in
theorem PySem.Challenge.cw_in0292_01_holds : PySem.Challenge.rw_in0292_01.Holds := by
  w_on
  refine holds_law Mine.said0 fun said => ?_
  refine holds_open (q := Mine.qv) (loose := Mine.lse) (Xt := Mine.xt) (XP := fun _ _ => True) (Yf := Mine.hk.obs) (Ya := Mine.hk.val) (YP := Mine.hk.says) (N := 4000) Mine.left Mine.hk.of Mine.hk.keeps (fun _ _ => trivial) (fun _ _ _ _ _ => trivial) (by rfl) (by rfl) (by rfl) (fun s e => recFacts_of e) (by rfl) said (by decide +kernel) ⟨rfl, rfl, rfl, rfl, rfl, by decide +kernel⟩ ?hw ?hc
  case hw => w_witness2
  intro w s₀ s₁ mg mb G Y fa o pm cd doc dV kV ho hd hcd hD hmg hg args vals as hpre hlay hrd hwl hlo
  have KX := kIn_of Y
  refine Ground.open G ?_
  intro T B D TE TW
  have CX : Mine.Cx w s₁.heap mg mb := ⟨KX, T.g, T.b, T.nolimit, T.builtins⟩
  have hfa : mg (Str.ofString "law") = some (.ref fa) := by assumption
  clear ho hd hcd hD hmg B D TE TW T
  wrow_args hpre hlay hrd hwl hlo
  all_goals (first | refine callC_kw (enter_call ?_) | refine enter_call ?_ | refine callC_kw (enter_callW ?_) | refine enter_callW ?_ | skip)
  rename_i ns _ _ _ _ _ _ _ a vs _ hL ra _ _ hI _ hlen _
  have hfa2 : mg (Str.ofString "law") = some (.ref 298) := PySem.W.mg_of CX.K CX.g rfl
  rw [hfa] at hfa2
  cases hfa2
  refine codeAny_mono ?_ (fun _ _ g => GoodW.toG g)
  refine (Mine.law_ok (prog := Challenge.rw_in0292_01.row.prog) CX ns (by omega) (Mine.facts ns)).run callerA s₁ (fun _ => False) _ [.ref a] Mine.room9 ⟨fun _ _ e => e, fun _ z => z.elim, fun _ z => z.elim⟩ (fun _ z => z) trivial (fun _ _ _ _ => trivial) (.cons ⟨a, vs, rfl, fun z => z, hL, Mine.ints_rd hI⟩ .nil) fun Z' xt' r gs v h' tk' dr' _ hG _ _ kp _ _ _ hv _ => ?_
  unfold Mine.lawG at hG
  subst hG
  cases hv
  refine ⟨.inl ⟨.bool true, .bool true, [], rfl, fun cls => ?_, ?_, ?_, ?_⟩, fun b o e => kp b o (fun z => z) e, rfl, hg⟩
  · rfl
  · exact .bool _
  · refine PySem.W.postW_of rfl rfl ?_
    first | (simp [PySem.W.same]; done) | (unfold PySem.W.same; rfl) | (rw [PySem.W.same]; rfl) | decide +kernel
  · exact fun _ => ⟨.nil, fun a h => nomatch h⟩
end
