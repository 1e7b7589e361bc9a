import PyProof.Rows.All
import Wide.All
import OpenK.AllK
import Wide.FinOn
import PySem.Challenge.RW_in0018_01
set_option Elab.async false
set_option linter.unusedVariables false
set_option linter.unusedSimpArgs false
set_option linter.unnecessarySimpa false
set_option maxRecDepth 100000
set_option maxHeartbeats 8000000
section
open PySem PySem.W PyProof.Rows
namespace Mine
noncomputable def stAt (i : Nat) : Stmt := PySem.Challenge.pw_in0018_01.main.body.getD i default
noncomputable def fnP : Stmt → Arguments
  | .FunctionDef _ a _ _ _ _ _ _ _ _ => a
  | _ => default
noncomputable def fnB : Stmt → List Stmt
  | .FunctionDef _ _ b _ _ _ _ _ _ _ => b
  | _ => []
noncomputable def fnS : Stmt → Scope
  | .FunctionDef _ _ _ _ _ _ s _ _ _ => s
  | _ => default
noncomputable def mkFn (n : Str) (i : Nat) (d k m : Value) (c : Addr) : Obj :=
  { cls := Value.type "function", data := Data.func { name := n, qualname := n, params := fnP (stAt i), body := FuncBody.stmts (fnB (stAt i)), scope := fnS (stAt i), globals := 3, closure := [], defaults := d, kwdefaults := k, pyModule := m, code := Value.ref c } }
noncomputable def hd.heap_39 (P : Params) : Frag := [
  (3, { cls := Value.type "dict", data := Data.dict #[{ hash := PyData.keyHash P (Str.ofString "__name__"), key := Value.str (Str.ofString "__name__") 165, val := Value.str (Str.ofString "law_in0018_01") 526 }, { hash := PyData.keyHash P (Str.ofString "__doc__"), key := Value.str (Str.ofString "__doc__") 166, val := Value.none }, { hash := PyData.keyHash P (Str.ofString "__package__"), key := Value.str (Str.ofString "__package__") 167, val := Value.none }, { hash := PyData.keyHash P (Str.ofString "__loader__"), key := Value.str (Str.ofString "__loader__") 168, val := Value.builtin "__main__.__loader__#opaque" }, { hash := PyData.keyHash P (Str.ofString "__spec__"), key := Value.str (Str.ofString "__spec__") 169, val := Value.none }, { hash := PyData.keyHash P (Str.ofString "__annotations__"), key := Value.str (Str.ofString "__annotations__") 170, val := Value.ref 6 }, { hash := PyData.keyHash P (Str.ofString "__builtins__"), key := Value.str (Str.ofString "__builtins__") 171, val := Value.ref 4 }, { hash := PyData.keyHash P (Str.ofString "__file__"), key := Value.str (Str.ofString "__file__") 173, val := Value.str (Str.ofString "/claim/cut.py") 172 }, { hash := PyData.keyHash P (Str.ofString "__cached__"), key := Value.str (Str.ofString "__cached__") 174, val := Value.none }, { hash := PyData.keyHash P (Str.ofString "_sre"), key := Value.str (Str.ofString "_sre") 275, val := Value.ref 12 }, { hash := PyData.keyHash P (Str.ofString "_twin_re_1"), key := Value.str (Str.ofString "_twin_re_1") 319, val := Value.ref 36 }, { hash := PyData.keyHash P (Str.ofString "_special_chars_map"), key := Value.str (Str.ofString "_special_chars_map") 467, val := Value.ref 38 }, { hash := PyData.keyHash P (Str.ofString "escape"), key := Value.str (Str.ofString "escape") 474, val := Value.ref 48 }, { hash := PyData.keyHash P (Str.ofString "_translate"), key := Value.str (Str.ofString "_translate") 495, val := Value.ref 55 }, { hash := PyData.keyHash P (Str.ofString "bisect_right"), key := Value.str (Str.ofString "bisect_right") 511, val := Value.ref 64 }, { hash := PyData.keyHash P (Str.ofString "bisect_left"), key := Value.str (Str.ofString "bisect_left") 525, val := Value.ref 73 }, { hash := PyData.keyHash P (Str.ofString "_law_item"), key := Value.str (Str.ofString "_law_item") 533, val := Value.ref 78 }, { hash := PyData.keyHash P (Str.ofString "_law_pressed"), key := Value.str (Str.ofString "_law_pressed") 539, val := Value.ref 83 }, { hash := PyData.keyHash P (Str.ofString "_law_members"), key := Value.str (Str.ofString "_law_members") 545, val := Value.ref 88 }, { hash := PyData.keyHash P (Str.ofString "_law_step"), key := Value.str (Str.ofString "_law_step") 551, val := Value.ref 93 }, { hash := PyData.keyHash P (Str.ofString "_law_falls"), key := Value.str (Str.ofString "_law_falls") 564, val := Value.ref 100 }, { hash := PyData.keyHash P (Str.ofString "_law_met"), key := Value.str (Str.ofString "_law_met") 577, val := Value.ref 107 }, { hash := PyData.keyHash P (Str.ofString "law"), key := Value.str (Str.ofString "law") 583, val := Value.ref 112 }] 23 }),
  (35, { cls := Value.type "tuple", data := Data.seq #[Value.int 14 0, Value.int 14 0, Value.int 4 0, Value.int 1 0, Value.int 1 0, Value.int 9 0, Value.int 0 0, Value.int 64 0, Value.int 0 0, Value.int 1342177280 0, Value.int 0 0, Value.int 0 0, Value.int 0 0, Value.int 0 0, Value.int 0 0, Value.int 17 0, Value.int 0 0, Value.int 13 0, Value.int 11 0, Value.int 9 0, Value.int 0 0, Value.int 64 0, Value.int 0 0, Value.int 1342177280 0, Value.int 0 0, Value.int 0 0, Value.int 0 0, Value.int 0 0, Value.int 0 0, Value.int 17 0, Value.int 1 0, Value.int 1 0] }),
  (36, { cls := Value.type "re.Pattern", data := Data.fields #[Value.str (Str.ofString "([&~|])") 283, Value.int 32 318, Value.int 1 0, Value.none, Value.none, Value.ref 35, Value.int 0 0] }),
  (38, { cls := Value.type "dict", data := Data.dict #[{ hash := 40, key := Value.int 40 323, val := Value.str (Str.ofString "\\(") 327 }, { hash := 41, key := Value.int 41 329, val := Value.str (Str.ofString "\\)") 333 }, { hash := 91, key := Value.int 91 335, val := Value.str (Str.ofString "\\[") 339 }, { hash := 93, key := Value.int 93 341, val := Value.str (Str.ofString "\\]") 345 }, { hash := 123, key := Value.int 123 347, val := Value.str (Str.ofString "\\{") 351 }, { hash := 125, key := Value.int 125 353, val := Value.str (Str.ofString "\\}") 357 }, { hash := 63, key := Value.int 63 359, val := Value.str (Str.ofString "\\?") 363 }, { hash := 42, key := Value.int 42 365, val := Value.str (Str.ofString "\\*") 369 }, { hash := 43, key := Value.int 43 371, val := Value.str (Str.ofString "\\+") 375 }, { hash := 45, key := Value.int 45 377, val := Value.str (Str.ofString "\\-") 381 }, { hash := 124, key := Value.int 124 383, val := Value.str (Str.ofString "\\|") 387 }, { hash := 94, key := Value.int 94 389, val := Value.str (Str.ofString "\\^") 393 }, { hash := 36, key := Value.int 36 395, val := Value.str (Str.ofString "\\$") 399 }, { hash := 92, key := Value.int 92 401, val := Value.str (Str.ofString "\\\\") 405 }, { hash := 46, key := Value.int 46 407, val := Value.str (Str.ofString "\\.") 411 }, { hash := 38, key := Value.int 38 413, val := Value.str (Str.ofString "\\&") 417 }, { hash := 126, key := Value.int 126 419, val := Value.str (Str.ofString "\\~") 423 }, { hash := 35, key := Value.int 35 425, val := Value.str (Str.ofString "\\#") 429 }, { hash := 32, key := Value.int 32 431, val := Value.str (Str.ofString "\\ ") 435 }, { hash := 9, key := Value.int 9 437, val := Value.str (Str.ofString "\\\t") 441 }, { hash := 10, key := Value.int 10 443, val := Value.str (Str.ofString "\\\n") 447 }, { hash := 13, key := Value.int 13 449, val := Value.str (Str.ofString "\\\x0d") 453 }, { hash := 11, key := Value.int 11 455, val := Value.str (Str.ofString "\\\x0b") 459 }, { hash := 12, key := Value.int 12 461, val := Value.str (Str.ofString "\\\x0c") 465 }] 24 }),
  (47, { cls := Value.type "code", data := Data.fields #[Value.str (Str.ofString "escape") 468, Value.str (Str.ofString "escape") 469, Value.str (Str.ofString "/claim/cut.py") 470, Value.int 5 0, Value.int 1 0, Value.int 0 0, Value.int 0 0, Value.int 3 0, Value.ref 42, Value.bool true, Value.int 276 0, Value.ref 43, Value.none, Value.ref 44, Value.ref 45, Value.ref 46, Value.int 472 0, Value.int 5 0, Value.str (Str.ofString "/claim/cut.py") 473] }),
  (48, mkFn (Str.ofString "escape") 4 (Value.none) (Value.none) (Value.str (Str.ofString "re") 320) 47),
  (54, { cls := Value.type "code", data := Data.fields #[Value.str (Str.ofString "_translate") 477, Value.str (Str.ofString "_translate") 478, Value.str (Str.ofString "/claim/cut.py") 479, Value.int 12 0, Value.int 3 0, Value.int 0 0, Value.int 0 0, Value.int 3 0, Value.ref 49, Value.bool true, Value.int 276 0, Value.ref 50, Value.none, Value.ref 51, Value.ref 52, Value.ref 53, Value.int 493 0, Value.int 12 0, Value.str (Str.ofString "/claim/cut.py") 494] }),
  (55, mkFn (Str.ofString "_translate") 6 (Value.none) (Value.none) (Value.str (Str.ofString "cpy313.fnmatch") 475) 54),
  (56, { cls := Value.type "tuple", data := Data.seq #[Value.int 0 498, Value.none] }),
  (57, { cls := Value.type "dict", data := Data.dict #[{ hash := PyData.keyHash P (Str.ofString "key"), key := Value.str (Str.ofString "key") 499, val := Value.none }] 1 }),
  (63, { cls := Value.type "code", data := Data.fields #[Value.str (Str.ofString "bisect_right") 500, Value.str (Str.ofString "bisect_right") 501, Value.str (Str.ofString "/claim/cut.py") 502, Value.int 75 0, Value.int 4 0, Value.int 0 0, Value.int 1 0, Value.int 3 0, Value.ref 58, Value.bool true, Value.int 276 0, Value.ref 59, Value.none, Value.ref 60, Value.ref 61, Value.ref 62, Value.int 509 0, Value.int 75 0, Value.str (Str.ofString "/claim/cut.py") 510] }),
  (64, mkFn (Str.ofString "bisect_right") 8 (Value.ref 56) (Value.ref 57) (Value.str (Str.ofString "cpy313.bisect") 496) 63),
  (65, { cls := Value.type "tuple", data := Data.seq #[Value.int 0 512, Value.none] }),
  (66, { cls := Value.type "dict", data := Data.dict #[{ hash := PyData.keyHash P (Str.ofString "key"), key := Value.str (Str.ofString "key") 513, val := Value.none }] 1 }),
  (72, { cls := Value.type "code", data := Data.fields #[Value.str (Str.ofString "bisect_left") 514, Value.str (Str.ofString "bisect_left") 515, Value.str (Str.ofString "/claim/cut.py") 516, Value.int 95 0, Value.int 4 0, Value.int 0 0, Value.int 1 0, Value.int 3 0, Value.ref 67, Value.bool true, Value.int 276 0, Value.ref 68, Value.none, Value.ref 69, Value.ref 70, Value.ref 71, Value.int 523 0, Value.int 95 0, Value.str (Str.ofString "/claim/cut.py") 524] }),
  (73, mkFn (Str.ofString "bisect_left") 9 (Value.ref 65) (Value.ref 66) (Value.str (Str.ofString "cpy313.bisect") 496) 72),
  (77, { cls := Value.type "code", data := Data.fields #[Value.str (Str.ofString "_law_item") 528, Value.str (Str.ofString "_law_item") 529, Value.str (Str.ofString "/claim/cut.py") 530, Value.int 116 0, Value.int 1 0, Value.int 0 0, Value.int 0 0, Value.int 3 0, Value.ref 74, Value.bool true, Value.int 276 0, Value.ref 75, Value.none, Value.none, Value.none, Value.ref 76, Value.int 531 0, Value.int 116 0, Value.str (Str.ofString "/claim/cut.py") 532] }),
  (78, mkFn (Str.ofString "_law_item") 11 (Value.none) (Value.none) (Value.str (Str.ofString "law_in0018_01") 526) 77),
  (82, { cls := Value.type "code", data := Data.fields #[Value.str (Str.ofString "_law_pressed") 534, Value.str (Str.ofString "_law_pressed") 535, Value.str (Str.ofString "/claim/cut.py") 536, Value.int 128 0, Value.int 1 0, Value.int 0 0, Value.int 0 0, Value.int 3 0, Value.ref 79, Value.bool true, Value.int 276 0, Value.ref 80, Value.none, Value.none, Value.none, Value.ref 81, Value.int 537 0, Value.int 128 0, Value.str (Str.ofString "/claim/cut.py") 538] }),
  (83, mkFn (Str.ofString "_law_pressed") 12 (Value.none) (Value.none) (Value.str (Str.ofString "law_in0018_01") 526) 82),
  (87, { cls := Value.type "code", data := Data.fields #[Value.str (Str.ofString "_law_members") 540, Value.str (Str.ofString "_law_members") 541, Value.str (Str.ofString "/claim/cut.py") 542, Value.int 130 0, Value.int 1 0, Value.int 0 0, Value.int 0 0, Value.int 3 0, Value.ref 84, Value.bool true, Value.int 276 0, Value.ref 85, Value.none, Value.none, Value.none, Value.ref 86, Value.int 543 0, Value.int 130 0, Value.str (Str.ofString "/claim/cut.py") 544] }),
  (88, mkFn (Str.ofString "_law_members") 13 (Value.none) (Value.none) (Value.str (Str.ofString "law_in0018_01") 526) 87),
  (92, { cls := Value.type "code", data := Data.fields #[Value.str (Str.ofString "_law_step") 546, Value.str (Str.ofString "_law_step") 547, Value.str (Str.ofString "/claim/cut.py") 548, Value.int 138 0, Value.int 4 0, Value.int 0 0, Value.int 0 0, Value.int 3 0, Value.ref 89, Value.bool true, Value.int 276 0, Value.ref 90, Value.none, Value.none, Value.none, Value.ref 91, Value.int 549 0, Value.int 138 0, Value.str (Str.ofString "/claim/cut.py") 550] }),
  (93, mkFn (Str.ofString "_law_step") 14 (Value.none) (Value.none) (Value.str (Str.ofString "law_in0018_01") 526) 92),
  (99, { cls := Value.type "code", data := Data.fields #[Value.str (Str.ofString "_law_falls") 552, Value.str (Str.ofString "_law_falls") 553, Value.str (Str.ofString "/claim/cut.py") 554, Value.int 142 0, Value.int 4 0, Value.int 0 0, Value.int 0 0, Value.int 3 0, Value.ref 94, Value.bool true, Value.int 276 0, Value.ref 95, Value.none, Value.ref 96, Value.ref 97, Value.ref 98, Value.int 562 0, Value.int 142 0, Value.str (Str.ofString "/claim/cut.py") 563] }),
  (100, mkFn (Str.ofString "_law_falls") 15 (Value.none) (Value.none) (Value.str (Str.ofString "law_in0018_01") 526) 99),
  (106, { cls := Value.type "code", data := Data.fields #[Value.str (Str.ofString "_law_met") 565, Value.str (Str.ofString "_law_met") 566, Value.str (Str.ofString "/claim/cut.py") 567, Value.int 153 0, Value.int 2 0, Value.int 0 0, Value.int 0 0, Value.int 3 0, Value.ref 101, Value.bool true, Value.int 276 0, Value.ref 102, Value.none, Value.ref 103, Value.ref 104, Value.ref 105, Value.int 575 0, Value.int 153 0, Value.str (Str.ofString "/claim/cut.py") 576] }),
  (107, mkFn (Str.ofString "_law_met") 16 (Value.none) (Value.none) (Value.str (Str.ofString "law_in0018_01") 526) 106),
  (111, { cls := Value.type "code", data := Data.fields #[Value.str (Str.ofString "law") 578, Value.str (Str.ofString "law") 579, Value.str (Str.ofString "/claim/cut.py") 580, Value.int 159 0, Value.int 1 0, Value.int 0 0, Value.int 0 0, Value.int 3 0, Value.ref 108, Value.bool true, Value.int 276 0, Value.ref 109, Value.none, Value.none, Value.none, Value.ref 110, Value.int 581 0, Value.int 159 0, Value.str (Str.ofString "/claim/cut.py") 582] }),
  (112, mkFn (Str.ofString "law") 17 (Value.none) (Value.none) (Value.str (Str.ofString "law_in0018_01") 526) 111)]
noncomputable def view : Program := { PySem.Challenge.rw_in0018_01.row.prog with main := { PySem.Challenge.rw_in0018_01.row.prog.main with body := [stAt 0, stAt 1, stAt 3, stAt 4, stAt 6, stAt 11, stAt 12, stAt 13, stAt 14, stAt 15, stAt 16, stAt 17] } }
noncomputable abbrev Hk : Hook := kmHook hd.heap_39 [3, 35, 36, 38, 47, 48, 54, 55, 56, 57, 63, 64, 65, 66, 72, 73, 77, 78, 82, 83, 87, 88, 92, 93, 99, 100, 106, 107, 111, 112] (fun _ => by kernel_rfl) [50, 109]
abbrev loose : List Str := [Str.ofString "_twin_re_1", Str.ofString "_special_chars_map", Str.ofString "bisect_right", Str.ofString "bisect_left"]
abbrev LeftAt (w : World) : Prop := (openEnds treeTable PySem.Challenge.rw_in0018_01.row.prog w 3568).map (fun s => (openSeen view loose (importedModules PySem.Challenge.rw_in0018_01.row.prog.main.body) (fun s => xlAt view [] s && recOk PySem.Challenge.rw_in0018_01.row.records s) true s, Hk.obs s)) = some (openGood view loose, Hk.val w)
theorem left1 (w : World) : LeftAt ((w.withFollow "special-get-raises" false).withFollow "comprehension-iter-twice" false) := by kernel_rfl
theorem left2 (w : World) : LeftAt ((w.withFollow "special-get-raises" true).withFollow "comprehension-iter-twice" false) := by kernel_rfl
theorem left3 (w : World) : LeftAt ((w.withFollow "special-get-raises" false).withFollow "comprehension-iter-twice" true) := by kernel_rfl
theorem left4 (w : World) : LeftAt ((w.withFollow "special-get-raises" true).withFollow "comprehension-iter-twice" true) := by kernel_rfl
theorem left : LeftO PySem.Challenge.rw_in0018_01.row.prog view loose (fun s => xlAt view [] s && recOk PySem.Challenge.rw_in0018_01.row.records s) Hk.obs Hk.val 3568 :=
  byRow2 "comprehension-iter-twice" (P := LeftAt) (byRow2 "special-get-raises" left1 left2) (byRow2 "special-get-raises" left3 left4)
end Mine
end
section
open PySem PySem.W PySem.Calls PyProof PyProof.Rows PySem.Spec PyProof.V
set_option linter.unusedVariables false
namespace Mine

abbrev pg : Program := PySem.Challenge.rw_in0018_01.row.prog

/-- what a ledger's object is -/
inductive Ct where
  | list (vs : List Value)
  | tup (vs : List Value)
  | obj (o : Obj)
  | pred (P : Obj → Prop)

def Ct.Is : Ct → Obj → Prop
  | .list vs, o => ∃ n, o = { cls := .type "list", data := .seq vs.toArray n }
  | .tup vs, o => o.cls = .type "tuple" ∧ ∃ n, o.data = .seq vs.toArray n
  | .obj o', o => o = o'
  | .pred P, o => P o

abbrev Led := List (Addr × Ct)

def Sub (h h' : Heap) : Prop := ∀ b o, h.get? b = some o → h'.get? b = some o
theorem Sub.refl (h : Heap) : Sub h h := fun _ _ e => e
theorem Sub.trans {a b c : Heap} (x : Sub a b) (y : Sub b c) : Sub a c := fun _ _ e => y _ _ (x _ _ e)
/-- all but those at the addresses stays -/
def Kp (l : List Addr) (h h' : Heap) : Prop := ∀ b o, b ∉ l → h.get? b = some o → h'.get? b = some o

/-- the two tables of codes -/
def TabOk (P : Addr) (h : Heap) : Prop := ∃ ps, h.get? P = some (tabObj ps) ∧ TriplesOk ps.toList
structure GI (h : Heap) : Prop where
  t1 : TabOk 50 h
  t2 : TabOk 50 h

structure TopL (mg mb : Str → Option Value) (h : Heap) : Prop where
  g : h.Ns mainGlobals mg
  b : h.Ns builtinsNs mb
  nolimit : h.NoLimit
  nodigits : ∃ mc, h.Ns cStatics mc ∧ mc "sys.int_max_str_digits" = none
  builtins : ∀ x : Str, x ≠ "__name__" → mb x = bootBuiltins x
  bmain : ∃ bm ob, mg "__builtins__" = some (.ref bm) ∧ bm ≠ builtinsNs ∧ h.get? bm = some ob ∧ ob.cls = .type "module" ∧ ob.dict = some builtinsNs ∧ ob.data = .plain

theorem TopL.keeps {mg mb : Str → Option Value} {h h' : Heap} (T : TopL mg mb h) (hk : Sub h h') : TopL mg mb h' where
  g := T.g.keeps hk
  b := T.b.keeps hk
  nolimit := T.nolimit.keeps hk
  nodigits := let ⟨mc, h1, h2⟩ := T.nodigits; ⟨mc, h1.keeps hk, h2⟩
  builtins := T.builtins
  bmain := let ⟨bm, ob, h1, h2, h3, r⟩ := T.bmain; ⟨bm, ob, h1, h2, hk _ _ h3, r⟩

structure Gd (w : World) (h : Heap) : Prop where
  k : (hd.heap_39 w.params).In h
  top : ∃ mg mb, TopL mg mb h
theorem Gd.keeps {w : World} {h h' : Heap} (G : Gd w h) (hk : Sub h h') : Gd w h' := ⟨G.k.keeps hk, let ⟨mg, mb, T⟩ := G.top; ⟨mg, mb, T.keeps hk⟩⟩

structure Cx where
  w : World
  A : Around
  h₀ : Heap
  os : OsState
  d : Nat
  env : Env
  ck : NameKind

structure Cx.Ok (C : Cx) : Prop where
  gd : Gd C.w C.h₀
  n1 : C.h₀.get? 50 = none
  n2 : C.h₀.get? 50 = none
  nL : C.h₀.get? C.env.locals = none
  hd : C.A.handled = none
  depth : C.A.depth + C.d < recursionLimit
  units : C.A.units + 8 * C.d < cLine
  kind : C.env.scope.kind = .function
  globals : C.env.globals = mainGlobals
  builtins : C.env.builtins = builtinsNs
  ck : C.ck = .cell ∨ C.ck = .free

structure St where
  loc : List (Str × Option Value)
  cel : List (Str × Addr × Option Value)
  led : Led

def St.addrs (S : St) : List Addr := S.cel.map (·.2.1) ++ S.led.map (·.1)

structure Holds (C : Cx) (S : St) (s : Shared) : Prop where
  loc : ∃ m, s.heap.Ns C.env.locals m ∧ ∀ x v, (x, some v) ∈ S.loc → m x = some v
  locs : ∀ x ov, (x, ov) ∈ S.loc → C.env.kindOf x = some .local
  locn : (S.loc.map (·.1)).Nodup
  keep : Sub C.h₀ s.heap
  cel : ∀ x c ov, (x, c, ov) ∈ S.cel → s.heap.IsCell c ov
  cels : ∀ x c ov, (x, c, ov) ∈ S.cel → C.env.kindOf x = some C.ck ∧ C.env.cells.lookup x = some c
  led : ∀ a c, (a, c) ∈ S.led → ∃ o, s.heap.get? a = some o ∧ c.Is o
  out : ∀ a ∈ S.addrs, a ≠ C.env.locals ∧ C.h₀.get? a = none ∧ a ≠ 50 ∧ a ≠ 50
  nodup : S.addrs.Nodup
  os : s.os = C.os
  gens : AllBare s.gens
  gi : GI s.heap

def Tr {α : Type} (C : Cx) (t : Sem α) (Q : α → St → Prop) (S : St) : Prop :=
  C.Ok → ∀ s, Holds C S s → wpAny (model pg C.w) C.A t (fun a s' => ∃ S', Holds C S' s' ∧ Q a S') (fun _ _ => False) s

section
variable {α β : Type} {C : Cx} {S : St}
theorem Tr.mono {t : Sem α} {Q Q' : α → St → Prop} (h : Tr C t Q S) (k : ∀ a S', Q a S' → Q' a S') : Tr C t Q' S :=
  fun ok s hs => wpAny_mono (h ok s hs) (fun a _ ⟨S', h1, q⟩ => ⟨S', h1, k a S' q⟩) fun _ _ e => e
theorem Tr.pur {a : α} {Q : α → St → Prop} (h : Q a S) : Tr C (pure a) Q S := fun _ _ hs => wpAny_pure ⟨S, hs, h⟩
theorem Tr.bind {m : Sem α} {f : α → Sem β} {Q : β → St → Prop} (h : Tr C m (fun a S' => Tr C (f a) Q S') S) : Tr C (m >>= f) Q S :=
  fun ok s hs => wpAny_bind (wpAny_mono (h ok s hs) (fun _ s' ⟨_, h1, q⟩ => q ok s' h1) fun _ _ e => e)
/-- a way to lift a rule of the syntax -/
theorem Tr.lift {t : Sem α} {m : Sem β} {Q : α → St → Prop} {f : β → St → Prop}
    (rule : ∀ (s : Shared), wpAny (model pg C.w) C.A m (fun b s' => ∃ S', Holds C S' s' ∧ f b S') (fun _ _ => False) s → wpAny (model pg C.w) C.A t (fun a s' => ∃ S', Holds C S' s' ∧ Q a S') (fun _ _ => False) s)
    (h : Tr C m f S) : Tr C t Q S := fun ok s hs => rule s (h ok s hs)
end

/-- from inside -/
theorem Tr.go {α : Type} {C : Cx} {S : St} {t : Sem α} {Q : α → St → Prop} (h : Tr C t Q S) (ok : C.Ok) {s : Shared} (hs : Holds C S s) {Q' : α → Shared → Prop} {E : Value → Shared → Prop}
    (k : ∀ a s' S', Holds C S' s' → Q a S' → Q' a s') : wpAny (model pg C.w) C.A t Q' E s :=
  wpAny_mono (h ok s hs) (fun a s' ⟨S', h1, q⟩ => k a s' S' h1 q) fun _ _ e => e.elim

theorem Holds.toks {C : Cx} {S : St} {s : Shared} (H : Holds C S s) (t : Nat) : Holds C S { s with toks := t } :=
  ⟨H.loc, H.locs, H.locn, H.keep, H.cel, H.cels, H.led, H.out, H.nodup, H.os, H.gens, H.gi⟩

end Mine
end
section
open PySem PySem.W PySem.Calls PyProof PyProof.Rows PySem.Spec PyProof.V
set_option linter.unusedVariables false
namespace Mine

inductive LPut (x : Str) (v : Value) : List (Str × Option Value) → List (Str × Option Value) → Prop
  | head {ov : Option Value} {r} : LPut x v ((x, ov) :: r) ((x, some v) :: r)
  | tail {p r r'} : LPut x v r r' → LPut x v (p :: r) (p :: r')
inductive CPut (x : Str) (c : Addr) (v : Value) : List (Str × Addr × Option Value) → List (Str × Addr × Option Value) → Prop
  | head {ov : Option Value} {r} : CPut x c v ((x, c, ov) :: r) ((x, c, some v) :: r)
  | tail {p r r'} : CPut x c v r r' → CPut x c v (p :: r) (p :: r')
inductive DPut (a : Addr) (c c' : Ct) : Led → Led → Prop
  | head {r} : DPut a c c' ((a, c) :: r) ((a, c') :: r)
  | tail {p r r'} : DPut a c c' r r' → DPut a c c' (p :: r) (p :: r')

theorem LPut.keys {x : Str} {v : Value} {l l' : List (Str × Option Value)} (h : LPut x v l l') : l'.map (·.1) = l.map (·.1) := by
  induction h with
  | head => rfl
  | tail _ ih => rw [List.map_cons, List.map_cons, ih]
theorem LPut.has {x : Str} {v : Value} {l l' : List (Str × Option Value)} (h : LPut x v l l') : ∃ ov, (x, ov) ∈ l := by
  induction h with
  | head => exact ⟨_, List.mem_cons_self⟩
  | tail _ ih => exact ⟨_, List.mem_cons_of_mem _ ih.choose_spec⟩

theorem LPut.mem {x : Str} {v : Value} {l l' : List (Str × Option Value)} (h : LPut x v l l') (n : (l.map (·.1)).Nodup) {y : Str} {ou : Option Value} (hy : (y, ou) ∈ l') : (y = x ∧ ou = some v) ∨ (y ≠ x ∧ (y, ou) ∈ l) := by
  induction h with
  | head =>
    rcases List.mem_cons.mp hy with e | hy2
    · cases e; exact .inl ⟨rfl, rfl⟩
    · rw [List.map_cons, List.nodup_cons] at n
      refine .inr ⟨fun e => n.1 (by subst e; exact List.mem_map.mpr ⟨_, hy2, rfl⟩), List.mem_cons_of_mem _ hy2⟩
  | tail h ih =>
    rw [List.map_cons, List.nodup_cons] at n
    rcases List.mem_cons.mp hy with e | hy2
    · subst e
      refine .inr ⟨fun e => n.1 ?_, List.mem_cons_self⟩
      obtain ⟨ov, hov⟩ := h.has
      subst e; exact List.mem_map.mpr ⟨_, hov, rfl⟩
    · rcases ih n.2 hy2 with e | e
      · exact .inl e
      · exact .inr ⟨e.1, List.mem_cons_of_mem _ e.2⟩
theorem CPut.keys {x : Str} {c : Addr} {v : Value} {l l' : List (Str × Addr × Option Value)} (h : CPut x c v l l') : l'.map (·.2.1) = l.map (·.2.1) := by
  induction h with
  | head => rfl
  | tail _ ih => rw [List.map_cons, List.map_cons, ih]
theorem CPut.has {x : Str} {c : Addr} {v : Value} {l l' : List (Str × Addr × Option Value)} (h : CPut x c v l l') : ∃ ov, (x, c, ov) ∈ l := by
  induction h with
  | head => exact ⟨_, List.mem_cons_self⟩
  | tail _ ih => exact ⟨_, List.mem_cons_of_mem _ ih.choose_spec⟩
theorem CPut.mem {x : Str} {c : Addr} {v : Value} {l l' : List (Str × Addr × Option Value)} (h : CPut x c v l l') (n : (l.map (·.2.1)).Nodup) {y : Str} {d : Addr} {ou : Option Value} (hy : (y, d, ou) ∈ l') :
    (y = x ∧ d = c ∧ ou = some v) ∨ (d ≠ c ∧ (y, d, ou) ∈ l) := by
  induction h with
  | head =>
    rcases List.mem_cons.mp hy with e | hy2
    · cases e; exact .inl ⟨rfl, rfl, rfl⟩
    · rw [List.map_cons, List.nodup_cons] at n
      refine .inr ⟨fun e => n.1 (by subst e; exact List.mem_map.mpr ⟨_, hy2, rfl⟩), List.mem_cons_of_mem _ hy2⟩
  | tail h ih =>
    rw [List.map_cons, List.nodup_cons] at n
    rcases List.mem_cons.mp hy with e | hy2
    · subst e
      refine .inr ⟨fun e => n.1 ?_, List.mem_cons_self⟩
      obtain ⟨ov, hov⟩ := h.has
      subst e; exact List.mem_map.mpr ⟨_, hov, rfl⟩
    · rcases ih n.2 hy2 with e | e
      · exact .inl e
      · exact .inr ⟨e.1, List.mem_cons_of_mem _ e.2⟩

theorem DPut.keys {a : Addr} {c c' : Ct} {l l' : Led} (h : DPut a c c' l l') : l'.map (·.1) = l.map (·.1) := by
  induction h with
  | head => rfl
  | tail _ ih => rw [List.map_cons, List.map_cons, ih]
theorem DPut.has {a : Addr} {c c' : Ct} {l l' : Led} (h : DPut a c c' l l') : (a, c) ∈ l := by
  induction h with
  | head => exact List.mem_cons_self
  | tail _ ih => exact List.mem_cons_of_mem _ ih
theorem DPut.mem {a : Addr} {c c' : Ct} {l l' : Led} (h : DPut a c c' l l') (n : (l.map (·.1)).Nodup) {b : Addr} {d : Ct} (hy : (b, d) ∈ l') : (b = a ∧ d = c') ∨ (b ≠ a ∧ (b, d) ∈ l) := by
  induction h with
  | head =>
    rcases List.mem_cons.mp hy with e | hy2
    · cases e; exact .inl ⟨rfl, rfl⟩
    · rw [List.map_cons, List.nodup_cons] at n
      refine .inr ⟨fun e => n.1 (by subst e; exact List.mem_map.mpr ⟨_, hy2, rfl⟩), List.mem_cons_of_mem _ hy2⟩
  | tail h ih =>
    rw [List.map_cons, List.nodup_cons] at n
    rcases List.mem_cons.mp hy with e | hy2
    · subst e
      refine .inr ⟨fun e => n.1 (by subst e; exact List.mem_map.mpr ⟨_, h.has, rfl⟩), List.mem_cons_self⟩
    · rcases ih n.2 hy2 with e | e
      · exact .inl e
      · exact .inr ⟨e.1, List.mem_cons_of_mem _ e.2⟩

theorem TabOk.keep {P : Addr} {h h' : Heap} (x : TabOk P h) (k : ∀ o, h.get? P = some o → h'.get? P = some o) : TabOk P h' := let ⟨ps, e, t⟩ := x; ⟨ps, k _ e, t⟩
theorem GI.keep {h h' : Heap} (x : GI h) (k : Sub h h') : GI h' := ⟨x.t1.keep (k 50), x.t2.keep (k 50)⟩
theorem GI.but {h h' : Heap} {a : Addr} (x : GI h) (k : Heap.ExtBut a h h') (ha : ∀ ps, h.get? a ≠ some (tabObj ps)) : GI h' := by
  obtain ⟨⟨p1, e1, t1⟩, ⟨p2, e2, t2⟩⟩ := x
  exact ⟨⟨p1, k _ _ (fun q => ha p1 (q ▸ e1)) e1, t1⟩, ⟨p2, k _ _ (fun q => ha p2 (q ▸ e2)) e2, t2⟩⟩

theorem St.out_led {S : St} {a : Addr} {c : Ct} (h : (a, c) ∈ S.led) : a ∈ S.addrs := List.mem_append_right _ (List.mem_map_of_mem (f := Prod.fst) h)
theorem St.out_cel {S : St} {x : Str} {c : Addr} {ov : Option Value} (h : (x, c, ov) ∈ S.cel) : c ∈ S.addrs := List.mem_append_left _ (List.mem_map_of_mem (f := fun p : Str × Addr × Option Value => p.2.1) h)
theorem Holds.nc {C : Cx} {S : St} {s : Shared} (H : Holds C S s) : (S.cel.map (·.2.1)).Nodup := (List.nodup_append.mp H.nodup).1
theorem Holds.nl {C : Cx} {S : St} {s : Shared} (H : Holds C S s) : (S.led.map (·.1)).Nodup := (List.nodup_append.mp H.nodup).2.1
theorem Holds.ncl {C : Cx} {S : St} {s : Shared} (H : Holds C S s) {x : Str} {c : Addr} {ov : Option Value} {a : Addr} {k : Ct} (h1 : (x, c, ov) ∈ S.cel) (h2 : (a, k) ∈ S.led) : c ≠ a :=
  (List.nodup_append.mp H.nodup).2.2 _ (List.mem_map_of_mem (f := fun p : Str × Addr × Option Value => p.2.1) h1) _ (List.mem_map_of_mem (f := Prod.fst) h2)

/-- what is seen of an object that is no table -/
theorem ns_no_tab {h : Heap} {L : Addr} {m : Str → Option Value} (n : h.Ns L m) (ps : Array Value) : h.get? L ≠ some (tabObj ps) := by
  obtain ⟨o, es, ep, e, hd, _⟩ := n
  intro q
  rw [e] at q; cases q; cases hd
theorem cell_no_tab {h : Heap} {c : Addr} {v : Option Value} (n : h.IsCell c v) (ps : Array Value) : h.get? c ≠ some (tabObj ps) := by
  obtain ⟨o, e, hd⟩ := n
  intro q
  rw [e] at q; cases q; cases hd

/-- a name of the frame's own is stored -/
theorem Holds.store {C : Cx} {l l' : List (Str × Option Value)} {cel led} {s : Shared} {x : Str} {v : Value} (H : Holds C ⟨l, cel, led⟩ s) (h0 : C.h₀.get? C.env.locals = none) (P : LPut x v l l') {h' : Heap} {m : Str → Option Value}
    (hm : s.heap.Ns C.env.locals m) (hml : ∀ x v, (x, some v) ∈ l → m x = some v) (hn : h'.Ns C.env.locals fun y => if y = x then some v else m y) (hs : Heap.SameBut C.env.locals s.heap h') (tk : Nat) : Holds C ⟨l', cel, led⟩ { s with heap := h', toks := tk } where
  loc := ⟨_, hn, fun y u hy => by
    rcases P.mem H.locn hy with ⟨rfl, e⟩ | ⟨e, hm'⟩
    · simp [Option.some.inj e]
    · simp only [if_neg e]; exact hml _ _ hm'⟩
  locs := fun y ov hy => by
    have : y ∈ l.map (·.1) := P.keys ▸ List.mem_map_of_mem (f := Prod.fst) hy
    obtain ⟨p, hp, rfl⟩ := List.mem_map.mp this
    exact H.locs p.1 p.2 hp
  locn := by show (l'.map (·.1)).Nodup; rw [P.keys]; exact H.locn
  keep := fun b o e => hs.extBut b o (fun q => by rw [q, h0] at e; cases e) (H.keep b o e)
  cel := fun y c ov hy => (H.cel y c ov hy).sameBut hs (H.out c (St.out_cel (S := ⟨l, cel, led⟩) hy)).1
  cels := H.cels
  led := fun a c ha => let ⟨o, e, i⟩ := H.led a c ha; ⟨o, hs.extBut a o (H.out a (St.out_led (S := ⟨l, cel, led⟩) ha)).1 e, i⟩
  out := H.out
  nodup := H.nodup
  os := H.os
  gens := H.gens
  gi := H.gi.but hs.extBut (ns_no_tab hm)

section
variable {C : Cx}
theorem Tr.storeL {l l' : List (Str × Option Value)} {cel led} {x : Str} {v : Value} {Q : Unit → St → Prop} (P : LPut x v l l') (h : Q () ⟨l', cel, led⟩) : Tr C (storeName C.env x v) Q ⟨l, cel, led⟩ := by
  intro ok s H
  obtain ⟨m, hm, hml⟩ := H.loc
  obtain ⟨ov, hov⟩ := P.has
  refine wpAny_storeName_local (H.locs _ _ hov) hm (fun h' hn hs => ⟨_, H.store ok.nL P hm hml hn hs _, h⟩) (by rw [ok.kind]; rfl)

theorem Tr.storeC {l : List (Str × Option Value)} {cel cel'} {led} {x : Str} {c : Addr} {v : Value} {Q : Unit → St → Prop} (P : CPut x c v cel cel') (hk : C.ck = .cell) (h : Q () ⟨l, cel', led⟩) : Tr C (storeName C.env x v) Q ⟨l, cel, led⟩ := by
  intro ok s H
  obtain ⟨ov, hov⟩ := P.has
  have k := H.cels _ _ _ hov
  have oc := H.out c (St.out_cel (S := ⟨l, cel, led⟩) hov)
  refine wpAny_storeName_cell ok.kind (hk ▸ k.1) k.2 (H.cel _ _ _ hov) fun h' hc hs => ⟨⟨l, cel', led⟩, ?_, h⟩
  have ad : (⟨l, cel', led⟩ : St).addrs = (⟨l, cel, led⟩ : St).addrs := by unfold St.addrs; rw [P.keys]
  refine ⟨?_, H.locs, H.locn, fun b o e => hs.extBut b o (fun q => by rw [q, oc.2.1] at e; cases e) (H.keep b o e), ?_, ?_, ?_, ?_, ?_, H.os, H.gens, H.gi.but hs.extBut (cell_no_tab (H.cel _ _ _ hov))⟩
  · obtain ⟨m, hm, hml⟩ := H.loc
    exact ⟨m, hm.sameBut hs (Ne.symm oc.1), hml⟩
  · intro y d ou hy
    rcases P.mem H.nc hy with ⟨rfl, rfl, rfl⟩ | ⟨e, hy'⟩
    · exact hc
    · exact (H.cel _ _ _ hy').sameBut hs e
  · intro y d ou hy
    rcases P.mem H.nc hy with ⟨rfl, rfl, rfl⟩ | ⟨e, hy'⟩
    · exact k
    · exact H.cels _ _ _ hy'
  · intro a k ha
    obtain ⟨o, e, i⟩ := H.led a k ha
    exact ⟨o, hs.extBut a o (Ne.symm (H.ncl hov ha)) e, i⟩
  · rw [ad]; exact H.out
  · rw [ad]; exact H.nodup

theorem Tr.nameL {S : St} {x : Str} {v : Value} {pos : Pos} {Q : Value → St → Prop} (hm : (x, some v) ∈ S.loc) (h : Q v S) (hd : (x == ("__debug__" : Str)) = false := by decide) : Tr C (eval (.Name x pos) C.env) Q S := by
  intro ok s H
  obtain ⟨m, hn, hml⟩ := H.loc
  exact wpAny_Name (wpAny_loadName_local ok.kind (H.locs _ _ hm) hn (hml _ _ hm) ⟨S, H, h⟩) hd
theorem Tr.nameC {S : St} {x : Str} {c : Addr} {v : Value} {pos : Pos} {Q : Value → St → Prop} (hm : (x, c, some v) ∈ S.cel) (h : Q v S) (hd : (x == ("__debug__" : Str)) = false := by decide) (hc : (x == ("__classdict__" : Str)) = false := by decide) : Tr C (eval (.Name x pos) C.env) Q S := by
  intro ok s H
  have k := H.cels _ _ _ hm
  rcases ok.ck with e | e
  · exact wpAny_Name (wpAny_loadName_cell ok.kind (e ▸ k.1) k.2 (H.cel _ _ _ hm) ⟨S, H, h⟩) hd
  · exact wpAny_Name (wpAny_loadName_free ok.kind (e ▸ k.1) k.2 (H.cel _ _ _ hm) ⟨S, H, h⟩ hc) hd

def Glb (C : Cx) (gl : List Str) : Prop := ∀ x ∈ gl, C.env.kindOf x = some .globalImplicit
theorem Tr.nameG {S : St} {gl : List Str} {x : Str} {v : Value} {pos : Pos} {Q : Value → St → Prop} (G : Glb C gl) (hx : x ∈ gl) (e : ∀ P, nsIn (hd.heap_39 P) mainGlobals x = some (some v)) (h : Q v S) (hd : (x == ("__debug__" : Str)) = false := by decide) : Tr C (eval (.Name x pos) C.env) Q S := by
  intro ok s H
  obtain ⟨mg, mb, T⟩ := ok.gd.top
  exact Name_function_global ok.kind (G x hx) (loadGlobal_global (by rw [ok.globals]; exact T.g.keeps H.keep) (mg_of ok.gd.k T.g (e _)) ⟨S, H, h⟩) hd
theorem Tr.nameB {S : St} {gl : List Str} {x : Str} {v : Value} {pos : Pos} {Q : Value → St → Prop} (G : Glb C gl) (hx : x ∈ gl) (e : ∀ P, nsIn (hd.heap_39 P) mainGlobals x = some none) (hv : bootBuiltins x = some v) (hn : x ≠ "__name__") (h : Q v S) (hd : (x == ("__debug__" : Str)) = false := by decide) : Tr C (eval (.Name x pos) C.env) Q S := by
  intro ok s H
  obtain ⟨mg, mb, T⟩ := ok.gd.top
  exact Name_function_global ok.kind (G x hx) (loadGlobal_builtin (by rw [ok.globals]; exact T.g.keeps H.keep) (mg_none_of ok.gd.k T.g (e _)) (by rw [ok.builtins]; exact T.b.keeps H.keep) ((T.builtins x hn).trans hv) ⟨S, H, h⟩) hd
end
end Mine
end
section
open PySem PySem.W PySem.Calls PyProof PyProof.Rows PySem.Spec PyProof.V
set_option linter.unusedVariables false
namespace Mine
section
variable {C : Cx} {S : St}

theorem Tr.execs_nil {Q : Flow → St → Prop} (h : Q .next S) : Tr C (execs [] C.env) Q S := fun _ _ hs => wpAny_execs_nil ⟨S, hs, h⟩
def Then (C : Cx) (rest : List Stmt) (Q : Flow → St → Prop) (f : Flow) (S : St) : Prop := match f with
  | .next => Tr C (execs rest C.env) Q S
  | f => Q f S
theorem Tr.execs_cons {st : Stmt} {rest : List Stmt} {Q : Flow → St → Prop} (h : Tr C (exec st C.env) (Then C rest Q) S) : Tr C (execs (st :: rest) C.env) Q S :=
  fun ok s hs => wpAny_execs_cons (h.go ok hs fun f s1 S1 h1 q1 => by
    cases f with
    | next => exact q1 ok s1 h1
    | _ => exact ⟨S1, h1, q1⟩)
theorem Tr.ret {e : Expr} {pos : Pos} {Q : Flow → St → Prop} (h : Tr C (eval e C.env) (fun v S' => Q (.ret v) S') S) : Tr C (exec (.Return (some e) pos) C.env) Q S :=
  fun ok s hs => wpAny_Return_some (h ok s hs)
theorem Tr.ifS {test : Expr} {body orelse : List Stmt} {pos : Pos} {Q : Flow → St → Prop}
    (h : Tr C (PySem.isTrue test C.env (eval test C.env)) (fun b S1 => if b = true then Tr C (execs body C.env) Q S1 else Tr C (execs orelse C.env) Q S1) S) : Tr C (exec (.If test body orelse pos) C.env) Q S :=
  fun ok s hs => wpAny_If (h.go ok hs fun b s1 S1 h1 q1 => by
    cases b with
    | true => simp only [if_true] at q1 ⊢; exact q1 ok s1 h1
    | false => simp only [Bool.false_eq_true, if_false] at q1 ⊢; exact q1 ok s1 h1)
theorem Tr.ifE {test body orelse : Expr} {pos : Pos} {Q : Value → St → Prop}
    (h : Tr C (PySem.isTrue test C.env (eval test C.env)) (fun b S1 => if b = true then Tr C (eval body C.env) Q S1 else Tr C (eval orelse C.env) Q S1) S) : Tr C (eval (.IfExp test body orelse pos) C.env) Q S :=
  fun ok s hs => wpAny_IfExp (h.go ok hs fun b s1 S1 h1 q1 => by
    cases b with
    | true => simp only [if_true] at q1 ⊢; exact q1 ok s1 h1
    | false => simp only [Bool.false_eq_true, if_false] at q1 ⊢; exact q1 ok s1 h1)
theorem Tr.assert {test : Expr} {pos : Pos} {Q : Flow → St → Prop} (h : Tr C (PySem.isTrue test C.env (eval test C.env)) (fun b S1 => b = true ∧ Q .next S1) S) : Tr C (exec (.Assert test none pos) C.env) Q S :=
  fun ok s hs => wpAny_Assert ok.hd (h.go ok hs fun b s1 S1 h1 q1 => by rw [q1.1, if_pos rfl]; exact ⟨S1, h1, q1.2⟩)
theorem Tr.exprS {e : Expr} {pos : Pos} {Q : Flow → St → Prop} (h : Tr C (eval e C.env) (fun v S' => v = .none ∧ Q .next S') S) (hi : interactive C.env = false) (hsw : swapsWith e none pos.line C.env = pure false := by rfl) : Tr C (exec (.Expr e pos) C.env) Q S :=
  fun ok s hs => wpAny_Expr (h.go ok hs fun v s1 S1 h1 q1 => by rw [q1.1]; exact ⟨S1, h1, q1.2⟩) hi hsw
theorem Tr.assignN {x : Str} {pos' : Pos} {value : Expr} {pos : Pos} {Q : Flow → St → Prop} (h : Tr C (eval value C.env) (fun v S1 => Tr C (storeName C.env x v) (fun _ S2 => Q .next S2) S1) S)
    (hsw : swapsWith value (some (.Name x pos')) pos.line C.env = pure false := by rfl) : Tr C (exec (.Assign [.Name x pos'] value pos) C.env) Q S :=
  fun ok s hs => wpAny_Assign_Name (h.go ok hs fun v s1 S1 h1 q1 => q1.go ok h1 fun _ s2 S2 h2 q2 => ⟨S2, h2, q2⟩) hsw
theorem Tr.assignSub {o i : Expr} {pos' : Pos} {value : Expr} {pos : Pos} {Q : Flow → St → Prop}
    (h : Tr C (eval value C.env) (fun v S1 => Tr C (eval o C.env) (fun ov S2 => Tr C (eval i C.env) (fun iv S3 => Tr C (setItem ov iv v) (fun _ S4 => Q .next S4) S3) S2) S1) S)
    (hsw : swapsWith value (some (.Subscript o i pos')) pos.line C.env = pure false := by rfl) : Tr C (exec (.Assign [.Subscript o i pos'] value pos) C.env) Q S :=
  fun ok s hs => wpAny_Assign_Subscript (h.go ok hs fun v s1 S1 h1 q1 => q1.go ok h1 fun _ s2 S2 h2 q2 => q2.go ok h2 fun _ s3 S3 h3 q3 => q3.go ok h3 fun _ s4 S4 h4 q4 => ⟨S4, h4, q4⟩) hsw
theorem Tr.delSub {o i : Expr} {pos' pos : Pos} {Q : Flow → St → Prop}
    (h : Tr C (eval o C.env) (fun ov S2 => Tr C (eval i C.env) (fun iv S3 => Tr C (delItem ov iv) (fun _ S4 => Q .next S4) S3) S2) S) : Tr C (exec (.Delete [.Subscript o i pos'] pos) C.env) Q S :=
  fun ok s hs => wpAny_Delete (wpAny_deleteEach_cons (wpAny_delete_Subscript (h.go ok hs fun _ s2 S2 h2 q2 => q2.go ok h2 fun _ s3 S3 h3 q3 => q3.go ok h3 fun _ s4 S4 h4 q4 => wpAny_deleteEach_nil ⟨S4, h4, q4⟩)))

-- values
theorem Tr.int {i : Int} {k : Nat} {pos : Pos} {Q : Value → St → Prop} (h : ∀ t, Q (.int i t) S) : Tr C (eval (.Constant (.int i) k pos) C.env) Q S :=
  fun _ _ hs => wpAny_Constant_int ⟨S, hs.toks _, h _⟩
theorem Tr.str {x : Str} {k : Nat} {pos : Pos} {Q : Value → St → Prop} (h : ∀ t, Q (.str x t) S) : Tr C (eval (.Constant (.str x) k pos) C.env) Q S :=
  fun _ _ hs => Calls.Constant_str ⟨S, hs.toks _, h _⟩
theorem Tr.boolc {b : Bool} {k : Nat} {pos : Pos} {Q : Value → St → Prop} (h : Q (.bool b) S) : Tr C (eval (.Constant (.bool b) k pos) C.env) Q S :=
  fun _ _ hs => wpAny_Constant_bool ⟨S, hs, h⟩
theorem Tr.nonec {k : Nat} {pos : Pos} {Q : Value → St → Prop} (h : Q .none S) : Tr C (eval (.Constant .none k pos) C.env) Q S :=
  fun _ _ hs => wpAny_Constant_none ⟨S, hs, h⟩
theorem Tr.binop {l r : Expr} {op : Operator} {pos : Pos} {Q : Value → St → Prop} (h : Tr C (eval l C.env) (fun a S1 => Tr C (eval r C.env) (fun b S2 => Tr C (binaryOp op a b) Q S2) S1) S) : Tr C (eval (.BinOp l op r pos) C.env) Q S :=
  fun ok s hs => wpAny_BinOp (h.go ok hs fun _ s1 S1 h1 q1 => q1.go ok h1 fun _ s2 S2 h2 q2 => q2 ok s2 h2)
theorem Tr.cmp1 {l r : Expr} {op : CmpOp} {pos : Pos} {Q : Value → St → Prop} (h : Tr C (eval l C.env) (fun a S1 => Tr C (eval r C.env) (fun b S2 => Tr C (compareOp op a b) Q S2) S1) S) (hb : behindInMarks op r = false := by rfl) :
    Tr C (eval (.Compare l [op] [r] pos) C.env) Q S :=
  fun ok s hs => wpAny_Compare1 (h.go ok hs fun _ s1 S1 h1 q1 => q1.go ok h1 fun _ s2 S2 h2 q2 => q2 ok s2 h2) hb
/-- a test that is one comparison: it gives a bool -/
theorem Tr.isCmp1 {l r : Expr} {op : CmpOp} {pos : Pos} {whole : Sem Value} {Q : Bool → St → Prop} (h : Tr C (eval l C.env) (fun a S1 => Tr C (eval r C.env) (fun b S2 => Tr C (compareOp op a b) (fun c S3 => ∃ x, c = .bool x ∧ Q x S3) S2) S1) S)
    (hb : behindInMarks op r = false := by rfl) : Tr C (PySem.isTrue (.Compare l [op] [r] pos) C.env whole) Q S :=
  fun ok s hs => wpAny_isTrue_Compare1 (h.go ok hs fun _ s1 S1 h1 q1 => q1.go ok h1 fun _ s2 S2 h2 q2 => q2.go ok h2 fun c s3 S3 h3 q3 => by
    obtain ⟨x, rfl, q⟩ := q3
    exact wpAny_truthy_bool ⟨S3, h3, q⟩) hb
theorem Tr.isCmp2 {l r₁ r₂ : Expr} {op₁ op₂ : CmpOp} {pos : Pos} {whole : Sem Value} {Q : Bool → St → Prop}
    (h : Tr C (eval l C.env) (fun a S1 => Tr C (eval r₁ C.env) (fun b S2 => Tr C (compareOp op₁ a b) (fun c S3 => ∃ x, c = .bool x ∧
      if x = true then Tr C (eval r₂ C.env) (fun d S4 => Tr C (compareOp op₂ b d) (fun c S5 => ∃ y, c = .bool y ∧ Q y S5) S4) S3 else Q false S3) S2) S1) S)
    (hb : lastMarks [op₁, op₂] [r₁, r₂] = false := by rfl) : Tr C (PySem.isTrue (.Compare l [op₁, op₂] [r₁, r₂] pos) C.env whole) Q S :=
  fun ok s hs => isTrue_chain (h.go ok hs fun a s1 S1 h1 q1 => by
    show wpAny _ _ (testChain pos a [op₁, op₂] [eval r₁ C.env, eval r₂ C.env]) _ _ _
    unfold testChain
    refine wpAny_bind (wpAny_holding (q1.go ok h1 fun b s2 S2 h2 q2 => wpAny_bind (wpAny_standAt (wpAny_bind (wpAny_holding (q2.go ok h2 fun c s3 S3 h3 q3 => ?_))))))
    obtain ⟨x, rfl, q⟩ := q3
    refine wpAny_bind (wpAny_release (wpAny_bind (wpAny_holding (wpAny_truthy_bool ?_))))
    cases x with
    | false => exact wpAny_pure ⟨S3, h3, by simpa using q⟩
    | true =>
      simp only [if_true] at q
      show wpAny _ _ (testChain pos b [op₂] [eval r₂ C.env]) _ _ _
      unfold testChain
      refine wpAny_bind (wpAny_holding (q.go ok h3 fun d s4 S4 h4 q4 => wpAny_bind (wpAny_standAt (wpAny_bind (wpAny_operate' (q4.go ok h4 fun c s5 S5 h5 q5 => ?_))))))
      obtain ⟨y, rfl, q⟩ := q5
      exact wpAny_holding (wpAny_truthy_bool ⟨S5, h5, q⟩)) hb
theorem Tr.isNot {x : Expr} {pos : Pos} {whole : Sem Value} {Q : Bool → St → Prop} (h : Tr C (PySem.isTrue x C.env (eval x C.env)) (fun b S1 => Q (!b) S1) S) : Tr C (PySem.isTrue (.UnaryOp .Not x pos) C.env whole) Q S :=
  fun ok s hs => wpAny_isTrue_Not (h ok s hs)
theorem Tr.isBool {op : BoolOp} {vs : List Expr} {pos : Pos} {whole : Sem Value} {Q : Bool → St → Prop} (h : Tr C (allTrue op vs C.env) Q S) : Tr C (PySem.isTrue (.BoolOp op vs pos) C.env whole) Q S :=
  fun ok s hs => wpAny_isTrue_BoolOp (h ok s hs)
theorem Tr.or_cons {x : Expr} {rest : List Expr} {Q : Bool → St → Prop} (h : Tr C (PySem.isTrue x C.env (eval x C.env)) (fun b S1 => if b = true then Q true S1 else Tr C (allTrue .Or rest C.env) Q S1) S) : Tr C (allTrue .Or (x :: rest) C.env) Q S :=
  fun ok s hs => wpAny_allTrue_Or_cons (h.go ok hs fun b s1 S1 h1 q1 => by
    cases b with
    | true => simp only [if_true] at q1 ⊢; exact ⟨S1, h1, q1⟩
    | false => simp only [Bool.false_eq_true, if_false] at q1 ⊢; exact q1 ok s1 h1)
theorem Tr.or_nil {Q : Bool → St → Prop} (h : Q false S) : Tr C (allTrue .Or [] C.env) Q S := fun _ _ hs => wpAny_allTrue_Or_nil ⟨S, hs, h⟩
theorem Tr.and_cons {x : Expr} {rest : List Expr} {Q : Bool → St → Prop} (h : Tr C (PySem.isTrue x C.env (eval x C.env)) (fun b S1 => if b = true then Tr C (allTrue .And rest C.env) Q S1 else Q false S1) S) : Tr C (allTrue .And (x :: rest) C.env) Q S :=
  fun ok s hs => wpAny_allTrue_And_cons (h.go ok hs fun b s1 S1 h1 q1 => by
    cases b with
    | false => simp only [Bool.false_eq_true, if_false] at q1 ⊢; exact ⟨S1, h1, q1⟩
    | true => simp only [if_true] at q1 ⊢; exact q1 ok s1 h1)
theorem Tr.and_nil {Q : Bool → St → Prop} (h : Q true S) : Tr C (allTrue .And [] C.env) Q S := fun _ _ hs => wpAny_allTrue_And_nil ⟨S, hs, h⟩
theorem Tr.isVal {e : Expr} {whole : Sem Value} {Q : Bool → St → Prop} (h : Tr C whole (fun v S1 => Tr C (truthy v) Q S1) S)
    (hp : PySem.isTrue e C.env whole = (do let v ← whole; standAt e.pos; holding [v] (truthy v)) := by rfl) : Tr C (PySem.isTrue e C.env whole) Q S :=
  fun ok s hs => wpAny_isTrue_value (h.go ok hs fun _ s1 S1 h1 q1 => q1 ok s1 h1) hp
theorem Tr.truthyB {b : Bool} {Q : Bool → St → Prop} (h : Q b S) : Tr C (truthy (.bool b)) Q S := fun _ _ hs => wpAny_truthy_bool ⟨S, hs, h⟩
theorem Tr.and2 {x y : Expr} {pos : Pos} {Q : Value → St → Prop} (h : Tr C (eval x C.env) (fun v S1 => Tr C (truthy v) (fun t S2 => if t = true then Tr C (eval y C.env) Q S2 else Q v S2) S1) S) : Tr C (eval (.BoolOp .And [x, y] pos) C.env) Q S :=
  fun ok s hs => wpAny_And2 (h.go ok hs fun v s1 S1 h1 q1 => q1.go ok h1 fun b s2 S2 h2 q2 => by
    cases b with
    | false => simp only [Bool.false_eq_true, if_false] at q2 ⊢; exact ⟨S2, h2, q2⟩
    | true => simp only [if_true] at q2 ⊢; exact q2 ok s2 h2)
theorem Tr.or2 {x y : Expr} {pos : Pos} {Q : Value → St → Prop} (h : Tr C (eval x C.env) (fun v S1 => Tr C (truthy v) (fun t S2 => if t = true then Q v S2 else Tr C (eval y C.env) Q S2) S1) S) : Tr C (eval (.BoolOp .Or [x, y] pos) C.env) Q S :=
  fun ok s hs => wpAny_Or2 (h.go ok hs fun v s1 S1 h1 q1 => q1.go ok h1 fun b s2 S2 h2 q2 => by
    cases b with
    | true => simp only [if_true] at q2 ⊢; exact ⟨S2, h2, q2⟩
    | false => simp only [Bool.false_eq_true, if_false] at q2 ⊢; exact q2 ok s2 h2)
theorem Tr.subscr {value slice : Expr} {pos : Pos} {Q : Value → St → Prop} (h : Tr C (eval value C.env) (fun o S1 => Tr C (eval slice C.env) (fun i S2 => Tr C (subscriptTail value slice o i) Q S2) S1) S) : Tr C (eval (.Subscript value slice pos) C.env) Q S :=
  fun ok s hs => Subscript_ (h.go ok hs fun _ s1 S1 h1 q1 => q1.go ok h1 fun _ s2 S2 h2 q2 => q2 ok s2 h2)

-- lists of expressions
theorem Tr.spl_nil {pos : Pos} {Q : List Value → St → Prop} (h : Q [] S) : Tr C (spliced (backTo pos (starEach [] C.env))) Q S := fun _ _ hs => wpAny_pure ⟨S, hs, h⟩
theorem Tr.spl_cons {e : Expr} {es : List Expr} {pos : Pos} {Q : List Value → St → Prop}
    (h : Tr C (eval e C.env) (fun v S1 => Tr C (spliced (backTo pos (starEach es C.env))) (fun vs S2 => Q (v :: vs) S2) S1) S)
    (he : starEach (e :: es) C.env = (false, eval e C.env) :: starEach es C.env := by rfl) : Tr C (spliced (backTo pos (starEach (e :: es) C.env))) Q S := by
  intro ok s hs
  rw [he]
  show wpAny _ _ (do let v ← eval e C.env; let here ← (pure [v] : Sem (List Value)); return here ++ (← holding here (spliced (backTo pos (starEach es C.env))))) _ _ s
  exact wpAny_bind (h.go ok hs fun v s1 S1 h1 q1 => wpAny_bind (wpAny_pure (wpAny_bind (wpAny_holding (q1.go ok h1 fun vs s2 S2 h2 q2 => wpAny_pure ⟨S2, h2, q2⟩)))))
end
end Mine
end
section
open PySem PySem.W PySem.Calls PyProof PyProof.Rows PySem.Spec PyProof.V
set_option linter.unusedVariables false
namespace Mine

structure Back (muts : List Addr) (s s' : Shared) (new : Led) : Prop where
  os : s'.os = s.os
  gens : AllBare s'.gens
  gi : GI s'.heap
  keep : ∀ b o, b ≠ 50 → b ≠ 50 → b ∉ muts → s.heap.get? b = some o → s'.heap.get? b = some o
  made : ∀ a c, (a, c) ∈ new → (∃ o, s'.heap.get? a = some o ∧ c.Is o) ∧ (a ∈ muts ∨ s.heap.get? a = none)
  nodup : (new.map (·.1)).Nodup

def Spec (w : World) (muts : List Addr) (d : Nat) (f : Value) (args : List Value) (kw : List (Str × Value)) (R : Value → Led → Prop) (s : Shared) : Prop :=
  ∀ A : Around, A.handled = none → A.depth + d < recursionLimit → A.units + 8 * d < cLine →
    wpAny (model pg w) A (call f args kw) (fun v s' => ∃ new, Back muts s s' new ∧ R v new) (fun _ _ => False) s

structure Pre (w : World) (muts : List Addr) (s : Shared) : Prop where
  gd : Gd w (hideAll s.heap (50 :: 50 :: muts))
  gi : GI s.heap
  gens : AllBare s.gens

theorem Spec.mono {w : World} {muts : List Addr} {d d' : Nat} {f : Value} {args : List Value} {kw : List (Str × Value)} {R R' : Value → Led → Prop} {s : Shared} (h : Spec w muts d f args kw R s) (hd : d ≤ d')
    (k : ∀ v new, R v new → R' v new) : Spec w muts d' f args kw R' s :=
  fun A h1 h2 h3 => wpAny_mono (h A h1 (by omega) (by omega)) (fun v s' ⟨new, b, r⟩ => ⟨new, b, k v new r⟩) fun _ _ e => e

theorem Holds.sub {C : Cx} {S : St} {s : Shared} (ok : C.Ok) (H : Holds C S s) {muts : List Addr} (hm : ∀ a ∈ muts, a ∈ S.addrs) : Sub C.h₀ (hideAll s.heap (50 :: 50 :: muts)) := fun b o e => by
  refine hideAll_get _ (H.keep b o e) fun q => ?_
  rcases List.mem_cons.mp q with rfl | q
  · rw [ok.n1] at e; cases e
  · rcases List.mem_cons.mp q with rfl | q
    · rw [ok.n2] at e; cases e
    · rw [(H.out b (hm b q)).2.1] at e; cases e
theorem Holds.pre {C : Cx} {S : St} {s : Shared} (ok : C.Ok) (H : Holds C S s) {muts : List Addr} (hm : ∀ a ∈ muts, a ∈ S.addrs) : Pre C.w muts s := ⟨ok.gd.keeps (H.sub ok hm), H.gi, H.gens⟩
theorem Holds.pre0 {C : Cx} {S : St} {s : Shared} (ok : C.Ok) (H : Holds C S s) : Pre C.w [] s := H.pre ok (fun _ h => nomatch h)

theorem L_no {C : Cx} {S : St} {s : Shared} (H : Holds C S s) : C.env.locals ≠ 50 ∧ C.env.locals ≠ 50 := by
  obtain ⟨m, hm, _⟩ := H.loc
  obtain ⟨⟨p1, e1, _⟩, ⟨p2, e2, _⟩⟩ := H.gi
  exact ⟨fun q => ns_no_tab hm p1 (q ▸ e1), fun q => ns_no_tab hm p2 (q ▸ e2)⟩

theorem St.addrs_split {loc cel} {pre rest : Led} : (⟨loc, cel, pre ++ rest⟩ : St).addrs = cel.map (·.2.1) ++ (pre.map (·.1) ++ rest.map (·.1)) := by
  unfold St.addrs; rw [List.map_append]

theorem Holds.back {C : Cx} {loc cel} {pre rest new : Led} {s s' : Shared} (ok : C.Ok) (H : Holds C ⟨loc, cel, pre ++ rest⟩ s) (B : Back (pre.map (·.1)) s s' new) : Holds C ⟨loc, cel, new ++ rest⟩ s' := by
  have hL := L_no H
  have hnd := H.nodup
  rw [St.addrs_split] at hnd
  obtain ⟨n1, n2, n3⟩ := List.nodup_append.mp hnd
  obtain ⟨n4, n5, n6⟩ := List.nodup_append.mp n2
  have inP : ∀ a ∈ pre.map (·.1), a ∈ (⟨loc, cel, pre ++ rest⟩ : St).addrs := fun a ha => by rw [St.addrs_split]; exact List.mem_append_right _ (List.mem_append_left _ ha)
  have inR : ∀ a ∈ rest.map (·.1), a ∈ (⟨loc, cel, pre ++ rest⟩ : St).addrs := fun a ha => by rw [St.addrs_split]; exact List.mem_append_right _ (List.mem_append_right _ ha)
  have inC : ∀ a ∈ cel.map (fun p => p.2.1), a ∈ (⟨loc, cel, pre ++ rest⟩ : St).addrs := fun a ha => by rw [St.addrs_split]; exact List.mem_append_left _ ha
  have some_of : ∀ a ∈ (⟨loc, cel, pre ++ rest⟩ : St).addrs, ∃ o, s.heap.get? a = some o := fun a ha => by
    rcases List.mem_append.mp ha with h | h
    · obtain ⟨⟨x, c, ov⟩, hp, rfl⟩ := List.mem_map.mp h
      obtain ⟨o, e, _⟩ := H.cel x c ov hp
      exact ⟨o, e⟩
    · obtain ⟨⟨a, c⟩, hp, rfl⟩ := List.mem_map.mp h
      obtain ⟨o, e, _⟩ := H.led a c hp
      exact ⟨o, e⟩
  have kp : ∀ a o, a ∈ (⟨loc, cel, pre ++ rest⟩ : St).addrs → a ∉ pre.map (·.1) → s.heap.get? a = some o → s'.heap.get? a = some o := fun a o ha hp e =>
    B.keep a o (H.out a ha).2.2.1 (H.out a ha).2.2.2 hp e
  have newA : ∀ a c, (a, c) ∈ new → a ∈ pre.map (·.1) ∨ s.heap.get? a = none := fun a c h => (B.made a c h).2
  refine ⟨?_, H.locs, H.locn, fun b o e => ?_, fun x c ov hx => ?_, H.cels, fun a c ha => ?_, fun a ha => ?_, ?_, B.os.trans H.os, B.gens, B.gi⟩
  · obtain ⟨m, ⟨o, es, ep, e, r⟩, hml⟩ := H.loc
    exact ⟨m, ⟨o, es, ep, B.keep _ _ hL.1 hL.2 (fun q => (H.out _ (inP _ q)).1 rfl) e, r⟩, hml⟩
  · exact B.keep b o (fun q => by rw [q, ok.n1] at e; cases e) (fun q => by rw [q, ok.n2] at e; cases e) (fun q => by rw [(H.out _ (inP _ q)).2.1] at e; cases e) (H.keep b o e)
  · obtain ⟨o, e, hd⟩ := H.cel x c ov hx
    have hc : c ∈ cel.map (fun p => p.2.1) := List.mem_map.mpr ⟨_, hx, rfl⟩
    exact ⟨o, kp c o (inC c hc) (fun q => n3 c hc c (List.mem_append_left _ q) rfl) e, hd⟩
  · rcases List.mem_append.mp ha with ha | ha
    · exact (B.made a c ha).1
    · obtain ⟨o, e, i⟩ := H.led a c (List.mem_append_right _ ha)
      have hr : a ∈ rest.map (·.1) := List.mem_map.mpr ⟨_, ha, rfl⟩
      exact ⟨o, kp a o (inR a hr) (fun q => n6 a q a hr rfl) e, i⟩
  · rw [St.addrs_split] at ha
    rcases List.mem_append.mp ha with ha | ha
    · exact H.out a (inC a ha)
    · rcases List.mem_append.mp ha with ha | ha
      · obtain ⟨⟨a, c⟩, hp, rfl⟩ := List.mem_map.mp ha
        rcases newA a c hp with h | h
        · exact H.out a (inP a h)
        · have ne : ∀ b o, s.heap.get? b = some o → a ≠ b := fun b o e q => by rw [← q, h] at e; cases e
          obtain ⟨m, ⟨o, es, ep, e, r⟩, hml⟩ := H.loc
          obtain ⟨⟨p1, e1, _⟩, ⟨p2, e2, _⟩⟩ := H.gi
          refine ⟨ne _ _ e, ?_, ne _ _ e1, ne _ _ e2⟩
          show C.h₀.get? a = none
          cases q : C.h₀.get? a with
          | none => rfl
          | some o' => have := H.keep a o' q; rw [h] at this; cases this
      · exact H.out a (inR a ha)
  · rw [St.addrs_split]
    refine List.nodup_append.mpr ⟨n1, List.nodup_append.mpr ⟨B.nodup, n5, fun a ha b hb q => ?_⟩, fun a ha b hb q => ?_⟩
    · subst q
      obtain ⟨⟨a, c⟩, hp, rfl⟩ := List.mem_map.mp ha
      rcases newA a c hp with h | h
      · exact n6 a h a hb rfl
      · obtain ⟨o, e⟩ := some_of a (inR a hb)
        have h' : s.heap.get? a = none := h
        rw [h'] at e; cases e
    · subst q
      rcases List.mem_append.mp hb with hb | hb
      · obtain ⟨⟨a, c⟩, hp, rfl⟩ := List.mem_map.mp hb
        rcases newA a c hp with h | h
        · exact n3 a ha a (List.mem_append_left _ h) rfl
        · obtain ⟨o, e⟩ := some_of a (inC a ha)
          have h' : s.heap.get? a = none := h
          rw [h'] at e; cases e
      · exact n3 a ha a (List.mem_append_right _ hb) rfl

/-- a call of the text's, by what is said of it -/
theorem Tr.callM {C : Cx} {loc cel} {pre rest : Led} {f : Value} {args : List Value} {kw : List (Str × Value)} {d : Nat} {R : Value → Led → Prop} {Q : Value → St → Prop} (hd : d ≤ C.d)
    (hs : ∀ s, C.Ok → Holds C ⟨loc, cel, pre ++ rest⟩ s → Spec C.w (pre.map (·.1)) d f args kw R s) (hQ : ∀ v new, R v new → Q v ⟨loc, cel, new ++ rest⟩) : Tr C (call f args kw) Q ⟨loc, cel, pre ++ rest⟩ := by
  intro ok s H
  refine wpAny_mono (hs s ok H C.A ok.hd (by have := ok.depth; omega) (by have := ok.units; omega)) (fun v s' ⟨new, b, r⟩ => ?_) fun _ _ e => e
  exact ⟨_, H.back ok b, hQ v new r⟩
theorem Tr.call0 {C : Cx} {loc cel} {led : Led} {f : Value} {args : List Value} {kw : List (Str × Value)} {d : Nat} {R : Value → Led → Prop} {Q : Value → St → Prop} (hd : d ≤ C.d)
    (hs : ∀ s, C.Ok → Holds C ⟨loc, cel, led⟩ s → Spec C.w [] d f args kw R s) (hQ : ∀ v new, R v new → Q v ⟨loc, cel, new ++ led⟩) : Tr C (call f args kw) Q ⟨loc, cel, led⟩ :=
  Tr.callM (pre := []) hd hs hQ

-- entering a def of the text's
theorem bindL_get {kindOf : Str → Option NameKind} : ∀ {binds : List (Str × Value)} {m : Str → Option Value} {x : Str} {v : Value}, (binds.map (·.1)).Nodup → kindOf x = some .local → (x, v) ∈ binds → bindL kindOf binds m x = some v
  | (n, u) :: r, m, x, v, hn, hk, h => by
    rw [List.map_cons, List.nodup_cons] at hn
    unfold bindL
    rcases List.mem_cons.mp h with e | h
    · cases e
      have : ∀ (r : List (Str × Value)) (m : Str → Option Value), n ∉ r.map (·.1) → bindL kindOf r m n = m n := by
        intro r
        induction r with
        | nil => intros; rfl
        | cons p r ih =>
          intro m hx
          rw [List.map_cons, List.mem_cons, not_or] at hx
          obtain ⟨pn, pv⟩ := p
          unfold bindL
          rw [ih _ hx.2]
          split
          · exact if_neg hx.1
          · rfl
      rw [this r _ hn.1, if_pos hk, if_pos rfl]
    · exact bindL_get hn.2 hk h
theorem bindC_get {kindOf : Str → Option NameKind} : ∀ {binds : List (Str × Value)} {m : Str → Option Value} {x : Str} {v : Value}, (binds.map (·.1)).Nodup → kindOf x ≠ some .local → (x, v) ∈ binds → bindC kindOf binds m x = some v
  | (n, u) :: r, m, x, v, hn, hk, h => by
    rw [List.map_cons, List.nodup_cons] at hn
    unfold bindC
    rcases List.mem_cons.mp h with e | h
    · cases e
      have : ∀ (r : List (Str × Value)) (m : Str → Option Value), n ∉ r.map (·.1) → bindC kindOf r m n = m n := by
        intro r
        induction r with
        | nil => intros; rfl
        | cons p r ih =>
          intro m hx
          rw [List.map_cons, List.mem_cons, not_or] at hx
          obtain ⟨pn, pv⟩ := p
          unfold bindC
          rw [ih _ hx.2]
          split
          · rfl
          · exact if_neg hx.1
      rw [this r _ hn.1, if_neg hk, if_pos rfl]
    · exact bindC_get hn.2 hk h
theorem bindC_none {kindOf : Str → Option NameKind} : ∀ {binds : List (Str × Value)} {m : Str → Option Value} {x : Str}, x ∉ binds.map (·.1) → bindC kindOf binds m x = m x
  | [], _, _, _ => rfl
  | (n, u) :: r, m, x, h => by
    rw [List.map_cons, List.mem_cons, not_or] at h
    unfold bindC
    rw [bindC_none h.2]
    split
    · rfl
    · exact if_neg h.1

theorem mem_of_look {α : Type} {x : Str} {v : α} : ∀ {l : List (Str × α)}, l.lookup x = some v → (x, v) ∈ l
  | (y, u) :: r, h => by
    rw [List.lookup_cons] at h
    cases hb : x == y with
    | true => rw [hb] at h; cases h; rw [eq_of_beq hb]; exact List.mem_cons_self
    | false => rw [hb] at h; exact List.mem_cons_of_mem _ (mem_of_look h)
theorem not_mem_of_look {α : Type} {x : Str} : ∀ {l : List (Str × α)}, l.lookup x = none → x ∉ l.map (·.1)
  | [], _ => by simp
  | (y, u) :: r, h => by
    rw [List.lookup_cons] at h
    cases hb : x == y with
    | true => rw [hb] at h; cases h
    | false =>
      rw [hb] at h
      rw [List.map_cons, List.mem_cons, not_or]
      exact ⟨fun e => by rw [e] at hb; simp at hb, not_mem_of_look h⟩

structure FnAt (f : Addr) (fd : FuncData) : Prop where
  at' : ∀ P, ∃ oc od osl, (hd.heap_39 P).lookup f = some ⟨oc, od, .func fd, osl⟩
  code : ∀ P, codeIn (hd.heap_39 P) fd.code fd.qualname = true
  clo : fd.closure = []
  glo : fd.globals = mainGlobals
  blt : fd.builtins = builtinsNs
  co : fd.scope.isCoroutine = false
  gen : fd.scope.isGenerator = false
  kind : fd.scope.kind = .function

/-- what a frame of that def's knows at its start -/
def startLoc (ln : List Str) (binds : List (Str × Value)) : List (Str × Option Value) := ln.map fun x => (x, binds.lookup x)
def startCel (scope : Scope) (L : Addr) (binds : List (Str × Value)) : List (Str × Addr × Option Value) := (cellsFrom (L + 1) scope.names []).map fun p => (p.1, p.2, binds.lookup p.1)

theorem Spec.enter {w : World} {muts : List Addr} {ml : Led} {s : Shared} {f : Addr} {fd : FuncData} {body : List Stmt} {args : List Value} {kw : List (Str × Value)} {binds : List (Str × Value)} {ln gl : List Str} {d : Nat} {R : Value → Led → Prop}
    (P : Pre w muts s) (hml : muts = ml.map (·.1)) (hmi : ∀ a c, (a, c) ∈ ml → (∃ o, s.heap.get? a = some o ∧ c.Is o) ∧ a ≠ 50 ∧ a ≠ 50) (hmn : muts.Nodup)
    (fa : FnAt f fd) (hbody : fd.body = .stmts body) (hbind : ∀ s, Pre w muts s → BindsTo s fd ⟨args, kw⟩ binds) (hbn : (binds.map (·.1)).Nodup)
    (hkinds : (binds.all fun y => fd.scope.names.lookup y.1 == some .local || fd.scope.names.lookup y.1 == some .cell) = true)
    (hnd : ((cellsFrom 0 fd.scope.names []).map (·.1)).Nodup) (hcl : ((cellsFrom 0 fd.scope.names []).all fun p => fd.scope.names.lookup p.1 == some .cell) = true)
    (hln : (ln.all fun x => fd.scope.names.lookup x == some .local) = true) (hlnn : ln.Nodup) (hgl : (gl.all fun x => fd.scope.names.lookup x == some .globalImplicit) = true)
    (h : ∀ (C : Cx) (L : Addr), C.w = w → C.h₀ = hideAll s.heap (50 :: 50 :: muts) → C.d = d → C.ck = .cell → Glb C gl → interactive C.env = false → C.env.code = fd.code → C.env.qual = fd.qualname ++ ".<locals>." → C.env.scope = fd.scope → C.env.cells = cellsFrom (L + 1) fd.scope.names [] →
      Tr C (execs body C.env) (fun fl S' => R (match fl with | .ret v => v | _ => .none) S'.led) ⟨startLoc ln binds, startCel fd.scope L binds, ml⟩) :
    Spec w muts (d + 1) (.ref f) args kw R s := by
  intro A hh hdep hun
  have K : ∀ b o, (hideAll s.heap (50 :: 50 :: muts)).get? b = some o → s.heap.get? b = some o := fun b o e => of_hideAll _ e
  have G := P.gd
  have GS : Gd w s.heap := G.keeps K
  obtain ⟨mg, mb, T⟩ := GS.top
  obtain ⟨oc, od, osl, ho⟩ := fa.at' w.params
  have hob := GS.k _ _ ho
  refine wpAny_call (codeAny_call_function (body := body) (by omega) hob rfl fa.co fa.gen hbody (codeRec_of GS.k (fa.code _)) ?_)
  refine hbind s P _ _ _ _ ?_
  rw [fa.clo, fa.glo, fa.blt]
  refine wpAny_newFunctionEnv_cells fa.kind (kindsX hkinds _) fun env he s' x => ?_
  refine ⟨T.nolimit.keeps x.toInCall.keep, codeAny_func ?_⟩
  have hloc : env.locals = s.heap.objs.size := by rw [he]; rfl
  have hsc : env.scope = fd.scope := by rw [he]; rfl
  have hcells : env.cells = cellsFrom (s.heap.objs.size + 1) fd.scope.names [] := by rw [he]; rfl
  have hko : ∀ y, env.kindOf y = fd.scope.names.lookup y := fun y => by unfold Env.kindOf; rw [hsc]
  let C : Cx := { w, A := A.deeper env, h₀ := hideAll s.heap (50 :: 50 :: muts), os := s.os, d, env, ck := .cell }
  have fresh : ∀ a, s.heap.objs.size ≤ a → s.heap.get? a = none := fun a ha => by
    cases e : s.heap.get? a with
    | none => rfl
    | some o' => exact absurd (Heap.lt_size e) (Nat.not_lt.mpr ha)
  have fresh0 : ∀ a, s.heap.objs.size ≤ a → (hideAll s.heap (50 :: 50 :: muts)).get? a = none := fun a ha => by
    cases e : (hideAll s.heap (50 :: 50 :: muts)).get? a with
    | none => rfl
    | some o' => have := K _ _ e; rw [fresh a ha] at this; cases this
  obtain ⟨⟨p1, e1, t1⟩, ⟨p2, e2, t2⟩⟩ := P.gi
  have l50 : 50 < s.heap.objs.size := Heap.lt_size e1
  have l109 : 50 < s.heap.objs.size := Heap.lt_size e2
  have ok : C.Ok := {
    gd := G, n1 := hideAll_none _ List.mem_cons_self, n2 := hideAll_none _ (List.mem_cons_of_mem _ List.mem_cons_self), nL := fresh0 _ (by show _ ≤ env.locals; rw [hloc]; exact Nat.le_refl _), hd := hh,
    depth := by show A.depth + 1 + d < _; omega
    units := by show A.units + 3 + 8 * d < _; omega
    kind := by show env.scope.kind = _; rw [hsc]; exact fa.kind
    globals := by show env.globals = _; rw [he]; rfl
    builtins := by show env.builtins = _; rw [he]; rfl
    ck := .inl rfl }
  have hglb : Glb C gl := fun y hy => by
    show env.kindOf y = _
    rw [hko]
    exact beq_iff_eq.mp (List.all_eq_true.mp hgl y hy)
  obtain ⟨h₁, tk, rfl, _⟩ := x.done
  have hk₁ := x.toInCall.keep
  have ndk : ∀ n, ((cellsFrom n fd.scope.names []).map (·.1)).Nodup := fun n => by rw [cellsFrom_names fd.scope.names n 0 [] [] rfl]; exact hnd
  have clk : ∀ n y c, (y, c) ∈ cellsFrom n fd.scope.names [] → fd.scope.names.lookup y = some .cell := fun n y c hm => by
    have h1 : y ∈ (cellsFrom n fd.scope.names []).map (·.1) := List.mem_map.mpr ⟨_, hm, rfl⟩
    rw [cellsFrom_names fd.scope.names n 0 [] [] rfl] at h1
    obtain ⟨p, hp, rfl⟩ := List.mem_map.mp h1
    exact beq_iff_eq.mp (List.all_eq_true.mp hcl p hp)
  have H : Holds C ⟨startLoc ln binds, startCel fd.scope s.heap.objs.size binds, ml⟩ { s with heap := h₁, toks := tk } := by
    refine ⟨⟨_, x.toInCall.ns, fun y v hy => ?_⟩, fun y ov hy => ?_, ?_, fun b o e => hk₁ b o (K b o e), fun y c ov hy => ?_, fun y c ov hy => ?_, fun a c ha => ?_, fun a ha => ?_, ?_, rfl, P.gens, ?_⟩
    · obtain ⟨z, hz, e⟩ := List.mem_map.mp hy
      have e1 : z = y := congrArg Prod.fst e
      have e2 : binds.lookup z = some v := congrArg Prod.snd e
      subst e1
      refine bindL_get hbn ?_ (mem_of_look e2)
      rw [hko]; exact beq_iff_eq.mp (List.all_eq_true.mp hln _ hz)
    · obtain ⟨z, hz, e⟩ := List.mem_map.mp hy
      cases e
      show env.kindOf _ = _
      rw [hko]; exact beq_iff_eq.mp (List.all_eq_true.mp hln _ hz)
    · show ((ln.map fun x => (x, binds.lookup x)).map (·.1)).Nodup
      rw [List.map_map]
      have : ((fun x : Str × Option Value => x.1) ∘ fun x => (x, binds.lookup x)) = id := rfl
      rw [this, List.map_id]; exact hlnn
    · obtain ⟨⟨z, c'⟩, hz, e⟩ := List.mem_map.mp hy
      cases e
      have hl := lookup_of_mem_nodup (ndk _) hz
      have hc := x.cell z c' (by rw [hcells]; exact hl)
      have kz := clk _ _ _ hz
      cases q : binds.lookup z with
      | none => rw [bindC_none (not_mem_of_look q)] at hc; exact hc
      | some v => rw [bindC_get hbn (by rw [hko, kz]; intro e; cases e) (mem_of_look q)] at hc; exact hc
    · obtain ⟨⟨z, c'⟩, hz, e⟩ := List.mem_map.mp hy
      cases e
      exact ⟨by show env.kindOf z = _; rw [hko]; exact clk _ _ _ hz, by show env.cells.lookup z = _; rw [hcells]; exact lookup_of_mem_nodup (ndk _) hz⟩
    · obtain ⟨⟨o, e, i⟩, _⟩ := hmi a c ha
      exact ⟨o, hk₁ _ _ e, i⟩
    · rcases List.mem_append.mp ha with ha | ha
      · obtain ⟨q, hq, rfl⟩ := List.mem_map.mp ha
        obtain ⟨⟨z, c'⟩, hz, rfl⟩ := List.mem_map.mp hq
        have hab := x.above z c' (by rw [hcells]; exact hz)
        rw [hloc] at hab
        refine ⟨?_, fresh0 _ (Nat.le_of_lt hab), Nat.ne_of_gt (Nat.lt_trans l50 hab), Nat.ne_of_gt (Nat.lt_trans l109 hab)⟩
        show c' ≠ env.locals
        rw [hloc]; exact Nat.ne_of_gt hab
      · obtain ⟨⟨a, c⟩, hp, rfl⟩ := List.mem_map.mp ha
        obtain ⟨⟨o, e, i⟩, n1, n2⟩ := hmi a c hp
        refine ⟨?_, hideAll_none _ (List.mem_cons_of_mem _ (List.mem_cons_of_mem _ (by rw [hml]; exact List.mem_map.mpr ⟨_, hp, rfl⟩))), n1, n2⟩
        show a ≠ env.locals
        rw [hloc]; exact Nat.ne_of_lt (Heap.lt_size e)
    · refine List.nodup_append.mpr ⟨?_, by rw [← hml]; exact hmn, fun a ha b hb q => ?_⟩
      · have ap := x.apart
        rw [hcells] at ap
        show (((cellsFrom (s.heap.objs.size + 1) fd.scope.names []).map fun p => (p.1, p.2, binds.lookup p.1)).map (·.2.1)).Nodup
        rw [List.map_map]
        exact List.pairwise_map.mpr ap
      · subst q
        obtain ⟨q, hq, rfl⟩ := List.mem_map.mp ha
        obtain ⟨⟨z, c'⟩, hz, rfl⟩ := List.mem_map.mp hq
        have hab := x.above z c' (by rw [hcells]; exact hz)
        rw [hloc] at hab
        obtain ⟨⟨a2, c2⟩, hp, e2⟩ := List.mem_map.mp hb
        obtain ⟨⟨o, e, i⟩, _⟩ := hmi a2 c2 hp
        have e3 : a2 = c' := e2
        rw [e3, fresh _ (Nat.le_of_lt hab)] at e
        cases e
    · exact ⟨⟨p1, hk₁ _ _ e1, t1⟩, ⟨p2, hk₁ _ _ e2, t2⟩⟩
  refine (h C s.heap.objs.size rfl rfl rfl rfl hglb ?_ ?_ ?_ hsc hcells).go ok H fun fl s₂ S₂ H₂ q => ?_
  · show interactive env = false
    unfold interactive
    rw [hsc, fa.kind]; rfl
  · show env.code = _; rw [he]; rfl
  · show env.qual = _; rw [he]; rfl
  · refine ⟨S₂.led, ⟨H₂.os, H₂.gens, H₂.gi, fun b o n1 n2 n3 e => ?_, fun a c ha => ⟨H₂.led a c ha, ?_⟩, H₂.nl⟩, q⟩
    · exact H₂.keep b o (hideAll_get _ e fun q => by
        rcases List.mem_cons.mp q with q | q
        · exact n1 q
        · rcases List.mem_cons.mp q with q | q
          · exact n2 q
          · exact n3 q)
    · have o2 := H₂.out a (St.out_led ha)
      by_cases hm : a ∈ muts
      · exact .inl hm
      · refine .inr ?_
        cases q : s.heap.get? a with
        | none => rfl
        | some o =>
          have := hideAll_get (50 :: 50 :: muts) q fun q => by
            rcases List.mem_cons.mp q with q | q
            · exact o2.2.2.1 q
            · rcases List.mem_cons.mp q with q | q
              · exact o2.2.2.2 q
              · exact hm q
          rw [show (hideAll s.heap (50 :: 50 :: muts)).get? a = none from o2.2.1] at this
          cases this
end Mine
end
section
open PySem PySem.W PySem.Calls PyProof PyProof.Rows PySem.Spec PyProof.V PySem.Builtin.Str
set_option linter.unusedVariables false
namespace Mine

/-- a text by its signs -/
def tx (l : List Nat) : Str := ⟨l.toArray⟩
theorem tx_len (l : List Nat) : (tx l).length = l.length := by show l.toArray.size = _; simp
theorem tx_add (a b : List Nat) : tx a ++ tx b = tx (a ++ b) := by
  show Str.mk (a.toArray ++ b.toArray) = Str.mk (a ++ b).toArray
  simp
theorem tx_inj {a b : List Nat} (h : tx a = tx b) : a = b := by
  have := congrArg (fun s : Str => s.cps.toList) h
  simpa [tx] using this
theorem tx_beq (a b : List Nat) : (tx a == tx b) = decide (a = b) := by
  by_cases h : a = b
  · subst h; simp
  · rw [decide_eq_false h]
    exact beq_eq_false_iff_ne.mpr fun e => h (tx_inj e)
theorem tx_bne (a b : List Nat) : (tx a != tx b) = !decide (a = b) := by rw [bne, tx_beq]
theorem tx_of (x : Str) : x = tx x.cps.toList := by cases x; simp [tx]

def bnd (b : Option Int) (d n : Nat) : Nat := match b with
  | none => d
  | some i => (max 0 (min (if i < 0 then i + n else i) (n : Int))).toNat
def cut {α : Type} (lo hi : Option Int) (l : List α) : List α := (l.drop (bnd lo 0 l.length)).take (bnd hi l.length l.length - bnd lo 0 l.length)

theorem strInd (lo hi : Option Int) (n : Nat) : strSliceIndices lo hi 1 n = sliceRange ((bnd lo 0 n : Nat) : Int) ((bnd hi n n : Nat) : Int) 1 := by
  unfold strSliceIndices bnd
  simp only [show (1 : Int) > 0 by decide, if_true]
  congr 1
  · cases lo with
    | none => rfl
    | some i => dsimp only; split <;> omega
  · cases hi with
    | none => rfl
    | some i => dsimp only; split <;> omega
theorem pick_eq (x : Array Nat) (a b : Nat) : (sliceRange (a : Int) (b : Int) 1).filterMap (x[·]?) = (x.toList.drop a).take (b - a) := by
  rw [sliceRange_one, pick_run]
theorem pick_cut (x : Str) (lo hi : Option Int) : (strSliceIndices lo hi 1 x.length).filterMap (x.cps[·]?) = cut lo hi x.cps.toList := by
  have hn : x.length = x.cps.toList.length := by show x.cps.size = _; simp
  rw [strInd, pick_eq]
  unfold cut
  rw [hn]
theorem slicePick_cut (vs : List Value) (lo hi : Option Int) : slicePick vs.toArray lo hi none = (cut lo hi vs).toArray := by
  have e : sliceBounds lo hi none vs.toArray.size = (((bnd lo 0 vs.length : Nat) : Int), ((bnd hi vs.length vs.length : Nat) : Int), 1) := by
    unfold sliceBounds bnd
    simp only [Option.getD_none, show (1 : Int) > 0 by decide, if_true, List.size_toArray]
    congr 1
    · cases lo with
      | none => rfl
      | some i => dsimp only; split <;> omega
    · congr 1
      cases hi with
      | none => rfl
      | some i => dsimp only; split <;> omega
  unfold slicePick
  rw [e]
  simp only [sliceRange_one, pick_run]
  rfl

section
variable {C : Cx} {S : St}

def LAt (C : Cx) (S : St) (a : Addr) (vs : List Value) : Prop := (a, Ct.list vs) ∈ S.led ∨ C.h₀.IsList a vs.toArray
theorem LAt.is {s : Shared} {a : Addr} {vs : List Value} (x : LAt C S a vs) (H : Holds C S s) : s.heap.IsList a vs.toArray := by
  rcases x with x | ⟨o, e, r⟩
  · obtain ⟨o, e, n, rfl⟩ := H.led _ _ x
    exact ⟨_, e, rfl, n, rfl⟩
  · exact ⟨o, H.keep _ _ e, r⟩

theorem Holds.push {loc cel} {led : Led} {s : Shared} (ok : C.Ok) (H : Holds C ⟨loc, cel, led⟩ s) {o : Obj} (hf : o.isFreed = false) (c : Ct) (hc : c.Is o) (tk : Nat) : Holds C ⟨loc, cel, (s.heap.objs.size, c) :: led⟩ { s with heap := s.heap.push o, toks := tk } := by
  have up : Sub s.heap (s.heap.push o) := fun b o' e => Heap.get?_push_of_some _ e
  have fresh : s.heap.get? s.heap.objs.size = none := by
    cases e : s.heap.get? s.heap.objs.size with
    | none => rfl
    | some o' => exact absurd (Heap.lt_size e) (Nat.lt_irrefl _)
  have ne : ∀ b o', s.heap.get? b = some o' → s.heap.objs.size ≠ b := fun b o' e q => by rw [← q, fresh] at e; cases e
  refine ⟨?_, H.locs, H.locn, H.keep.trans up, fun x c ov h => (H.cel x c ov h).keeps up, H.cels, fun a k ha => ?_, fun a ha => ?_, ?_, H.os, H.gens, H.gi.keep up⟩
  · obtain ⟨m, hm, hml⟩ := H.loc
    exact ⟨m, hm.keeps up, hml⟩
  · rcases List.mem_cons.mp ha with e | ha
    · cases e
      exact ⟨o, Heap.get?_push_size _ hf, hc⟩
    · obtain ⟨o', e, i⟩ := H.led a k ha
      exact ⟨o', up _ _ e, i⟩
  · have : a = s.heap.objs.size ∨ a ∈ (⟨loc, cel, led⟩ : St).addrs := by
      unfold St.addrs at ha ⊢
      rw [List.map_cons] at ha
      rcases List.mem_append.mp ha with h | h
      · exact .inr (List.mem_append_left _ h)
      · rcases List.mem_cons.mp h with h | h
        · exact .inl h
        · exact .inr (List.mem_append_right _ h)
    rcases this with rfl | h
    · obtain ⟨m, ⟨oL, es, ep, e, _⟩, _⟩ := H.loc
      obtain ⟨⟨p1, e1, _⟩, ⟨p2, e2, _⟩⟩ := H.gi
      refine ⟨ne _ _ e, ?_, ne _ _ e1, ne _ _ e2⟩
      cases q : C.h₀.get? s.heap.objs.size with
      | none => rfl
      | some o' => have := H.keep _ _ q; rw [fresh] at this; cases this
    · exact H.out a h
  · have hn := H.nodup
    unfold St.addrs at hn ⊢
    rw [List.map_cons]
    obtain ⟨n1, n2, n3⟩ := List.nodup_append.mp hn
    have nc : s.heap.objs.size ∉ cel.map (·.2.1) := fun q => by
      obtain ⟨⟨x, c', ov⟩, hp, e'⟩ := List.mem_map.mp q
      obtain ⟨o', e, _⟩ := H.cel x c' ov hp
      exact ne _ _ e e'.symm
    have nl : s.heap.objs.size ∉ led.map (·.1) := fun q => by
      obtain ⟨⟨a, k⟩, hp, e'⟩ := List.mem_map.mp q
      obtain ⟨o', e, _⟩ := H.led a k hp
      exact ne _ _ e e'.symm
    refine List.nodup_append.mpr ⟨n1, List.nodup_cons.mpr ⟨nl, n2⟩, fun a ha b hb q => ?_⟩
    subst q
    rcases List.mem_cons.mp hb with rfl | hb
    · exact nc ha
    · exact n3 a ha a hb rfl
theorem Holds.drop1 {loc cel} {led : Led} {p : Addr × Ct} {s : Shared} (H : Holds C ⟨loc, cel, p :: led⟩ s) : Holds C ⟨loc, cel, led⟩ s := by
  have sub : ∀ a ∈ (⟨loc, cel, led⟩ : St).addrs, a ∈ (⟨loc, cel, p :: led⟩ : St).addrs := fun a ha => by
    unfold St.addrs at ha ⊢
    rcases List.mem_append.mp ha with h | h
    · exact List.mem_append_left _ h
    · exact List.mem_append_right _ (List.mem_cons_of_mem _ h)
  refine ⟨H.loc, H.locs, H.locn, H.keep, H.cel, H.cels, fun a k ha => H.led a k (List.mem_cons_of_mem _ ha), fun a ha => H.out a (sub a ha), ?_, H.os, H.gens, H.gi⟩
  have hn := H.nodup
  unfold St.addrs at hn ⊢
  rw [List.map_cons] at hn
  obtain ⟨n1, n2, n3⟩ := List.nodup_append.mp hn
  exact List.nodup_append.mpr ⟨n1, (List.nodup_cons.mp n2).2, fun a ha b hb => n3 a ha b (List.mem_cons_of_mem _ hb)⟩
theorem Holds.pushU {S : St} {s : Shared} (ok : C.Ok) (H : Holds C S s) {o : Obj} (hf : o.isFreed = false) (tk : Nat) : Holds C S { s with heap := s.heap.push o, toks := tk } := by
  obtain ⟨loc, cel, led⟩ := S
  exact (H.push ok hf (.obj o) rfl tk).drop1

theorem Tr.newList {loc cel} {led : Led} {vs : List Value} {Q : Value → St → Prop} (hsz : vs.length ≤ sizeLine) (h : ∀ a, Q (.ref a) ⟨loc, cel, (a, .list vs) :: led⟩) : Tr C (PySem.newList vs) Q ⟨loc, cel, led⟩ :=
  fun ok s H => wpAny_newList ⟨_, H.push ok rfl (.list vs) ⟨_, rfl⟩ s.toks, h _⟩ hsz
theorem Tr.newTuple {loc cel} {led : Led} {vs : List Value} {Q : Value → St → Prop} (hsz : vs.length ≤ sizeLine) (h : ∀ a, Q (.ref a) ⟨loc, cel, (a, .tup vs) :: led⟩) : Tr C (PySem.newTuple vs) Q ⟨loc, cel, led⟩ :=
  fun ok s H => wpAny_newTuple ⟨_, H.push ok rfl (.tup vs) ⟨rfl, _, rfl⟩ s.toks, h _⟩ hsz
theorem Tr.list {es : List Expr} {pos : Pos} {Q : Value → St → Prop} (h : Tr C (spliced (backTo pos (starEach es C.env))) (fun vs S1 => Tr C (PySem.newList vs) Q S1) S) : Tr C (eval (.List es pos) C.env) Q S :=
  fun ok s hs => List_ (h.go ok hs fun _ s1 S1 h1 q1 => q1 ok s1 h1)
theorem Tr.tuple {es : List Expr} {k : Nat} {pos : Pos} {Q : Value → St → Prop} (h : Tr C (spliced (backTo pos (starEach es C.env))) (fun vs S1 => Tr C (PySem.newTuple vs) Q S1) S) : Tr C (eval (.Tuple es k pos) C.env) Q S :=
  fun ok s hs => Tuple_ (h.go ok hs fun _ s1 S1 h1 q1 => q1 ok s1 h1)

/-- an object of the ledger turned -/
theorem Holds.turn {loc cel} {led led' : Led} {a : Addr} {c c' : Ct} {s : Shared} (H : Holds C ⟨loc, cel, led⟩ s) (P : DPut a c c' led led') {h' : Heap} (hs : Heap.SameBut a s.heap h') {o' : Obj} (ho : h'.get? a = some o') (hc : c'.Is o') (tk : Nat) :
    Holds C ⟨loc, cel, led'⟩ { s with heap := h', toks := tk } := by
  have hm := P.has
  have oa := H.out a (St.out_led hm)
  have ad : (⟨loc, cel, led'⟩ : St).addrs = (⟨loc, cel, led⟩ : St).addrs := by unfold St.addrs; rw [P.keys]
  refine ⟨?_, H.locs, H.locn, fun b o e => hs.extBut b o (fun q => by rw [q, oa.2.1] at e; cases e) (H.keep b o e), fun x k ov hx => (H.cel x k ov hx).sameBut hs (H.ncl hx hm), H.cels, fun b k hb => ?_, by rw [ad]; exact H.out, by rw [ad]; exact H.nodup, H.os, H.gens, ?_⟩
  · obtain ⟨m, hn, hml⟩ := H.loc
    exact ⟨m, hn.sameBut hs (Ne.symm oa.1), hml⟩
  · rcases P.mem H.nl hb with ⟨rfl, rfl⟩ | ⟨e, hb'⟩
    · exact ⟨o', ho, hc⟩
    · obtain ⟨o, e', i⟩ := H.led b k hb'
      exact ⟨o, hs.extBut b o e e', i⟩
  · obtain ⟨⟨p1, e1, t1⟩, ⟨p2, e2, t2⟩⟩ := H.gi
    exact ⟨⟨p1, hs.extBut _ _ (Ne.symm oa.2.2.1) e1, t1⟩, ⟨p2, hs.extBut _ _ (Ne.symm oa.2.2.2) e2, t2⟩⟩
section
variable {prog : Program} {w : World} {A : Around} {E : Value → Shared → Prop} {s : Shared}
theorem setItem_at {l : Addr} {items : Array Value} {n : Nat} {k : Int} {t : Tok} {v : Value} {Q : Unit → Shared → Prop} (ho : s.heap.get? l = some { cls := .type "list", data := .seq items n })
    (h0 : 0 ≤ k) (hfit : k < 2 ^ 63) (hn : k < items.size)
    (hQ : ∀ h' n', h'.get? l = some { cls := .type "list", data := .seq (items.setIfInBounds k.toNat v) n' } → Heap.SameBut l s.heap h' → Q () { s with heap := h' }) :
    wpAny (model prog w) A (PySem.setItem (.ref l) (.int k t) v) Q E s := by
  have hl : s.heap.IsList l items := ⟨_, ho, rfl, _, rfl⟩
  unfold PySem.setItem
  try with_reducible refine wpAny_holding ?_
  first | refine wpAny_bind (wpAny_pure ?_) | skip
  refine wpAny_bind (wpAny_sequenceKey hl.typeIs (by decide) ?_)
  refine wpAny_bind (wpAny_callSpecial?_slot (name := Str.ofString "__setitem__") hl.typeIs slot_list_setitem
    (wpAny_call_entry slot_list_setitem hl.typeIs entry_list_setitem ?_ (args_list_setitem _ _ _)))
  show wpAny _ _ (Builtin.List.listSubscript? (.int k t) >>= _) _ _ s
  refine wpAny_bind (wpAny_listSubscript_int (fitsIndex_of h0 hfit) ?_)
  clear hfit
  obtain ⟨j, rfl⟩ := Int.eq_ofNat_of_zero_le h0
  have hj : j < items.size := by omega
  have hx' : items[j]? = some items[j] := Array.getElem?_eq_getElem hj
  show wpAny _ _ ((seqItemAt l j >>= fun r => pure (r.map (j, ·))) >>= _) _ _ s
  refine wpAny_bind (wpAny_bind (wpAny_seqItemAt ho rfl (wpAny_pure ?_)))
  rw [hx']
  show wpAny _ _ (setSeqItemAt l j v >>= _) _ _ s
  have hfin : (s.heap.update l (Obj.mapSeq (·.setIfInBounds j v))).get? l = some { cls := .type "list", data := .seq (items.setIfInBounds j v) n } := by
    rw [Heap.get?_update_self _ ho (by simp [Obj.mapSeq]; rfl)]
    simp [Obj.mapSeq]
  refine wpAny_bind (wpAny_setSeqItemAt ho rfl ?_)
  first
    | exact wpAny_bind (wpAny_pure (wpAny_pure ⟨.none, rfl, wpAny_pure (hQ _ _ hfin (Heap.SameBut.update ..))⟩))
    | exact wpAny_pure ⟨.none, rfl, wpAny_pure (hQ _ _ hfin (Heap.SameBut.update ..))⟩
end
theorem Tr.append {loc cel} {led led' : Led} {a : Addr} {vs : List Value} {x : Value} {Q : Value → St → Prop} (P : DPut a (.list vs) (.list (vs ++ [x])) led led') (hsz : vs.length ≤ sizeLine) (h : Q .none ⟨loc, cel, led'⟩) :
    Tr C (call (.builtin "list.append") [.ref a, x]) Q ⟨loc, cel, led⟩ := by
  intro ok s H
  obtain ⟨o, e, n, rfl⟩ := H.led _ _ P.has
  refine append_at e (fun h' hs hl => ?_) (by rw [List.size_toArray]; exact hsz)
  rw [List.push_toArray] at hl
  exact ⟨_, H.turn P hs hl ⟨_, rfl⟩ _, h⟩
theorem Tr.setItem {loc cel} {led led' : Led} {a : Addr} {vs : List Value} {x : Value} {k : Int} {t : Tok} {Q : Unit → St → Prop} (h0 : 0 ≤ k) (h1 : k < vs.length) (hsz : vs.length ≤ sizeLine) (P : DPut a (.list vs) (.list (vs.set k.toNat x)) led led') (h : Q () ⟨loc, cel, led'⟩) :
    Tr C (PySem.setItem (.ref a) (.int k t) x) Q ⟨loc, cel, led⟩ := by
  intro ok s H
  have hz : sizeLine < 2 ^ 63 := by rw [sizeLine_eq]; decide
  obtain ⟨o, e, n, rfl⟩ := H.led _ _ P.has
  refine setItem_at e h0 (by omega) (by simpa using h1) (fun h' n' hl hs => ?_)
  rw [List.setIfInBounds_toArray] at hl
  exact ⟨_, H.turn P hs hl ⟨_, rfl⟩ _, h⟩
theorem Tr.item {S : St} {a : Addr} {vs : List Value} {k : Int} {t : Tok} {x : Value} {value slice : Expr} {Q : Value → St → Prop} (L : LAt C S a vs) (h0 : 0 ≤ k) (hk : k < 2 ^ 63) (hx : vs[k.toNat]? = some x) (h : Q x S)
    (hs : subscripted slice false (.ref a) (.int k t) = operate [.ref a, .int k t] (getItem (.ref a) (.int k t)) := by rfl) : Tr C (subscriptTail value slice (.ref a) (.int k t)) Q S :=
  fun ok s H => tail_any (L.is H).typeIs slot_list_getitem.lookup (wpAny_getItem_list (L.is H) h0 hk (by simpa using hx) ⟨S, H, h⟩) hs
theorem Tr.itemNeg {S : St} {a : Addr} {vs : List Value} {k : Int} {t : Tok} {x : Value} {value slice : Expr} {Q : Value → St → Prop} (L : LAt C S a vs) (h0 : k < 0) (hk : -(vs.length : Int) ≤ k) (hz : -2 ^ 63 ≤ k) (hx : vs[(k + vs.length).toNat]? = some x) (h : Q x S)
    (hs : subscripted slice false (.ref a) (.int k t) = operate [.ref a, .int k t] (getItem (.ref a) (.int k t)) := by rfl) : Tr C (subscriptTail value slice (.ref a) (.int k t)) Q S :=
  fun ok s H => tail_any (L.is H).typeIs slot_list_getitem.lookup (wpAny_getItem_list_neg (L.is H) h0 (by simpa using hk) hz (by simpa using hx) ⟨S, H, h⟩) hs
theorem Tr.lenList {S : St} {a : Addr} {vs : List Value} {Q : Value → St → Prop} (L : LAt C S a vs) (hsz : vs.length < 2 ^ 63) (h : ∀ t, Q (.int vs.length t) S) : Tr C (call (.builtin "len") [.ref a]) Q S :=
  fun ok s H => len_list (L.is H) (by simp only [List.size_toArray]; omega) (by simp only [List.size_toArray]; exact ⟨S, H.toks _, h _⟩)
theorem Tr.truthyList {S : St} {a : Addr} {vs : List Value} {Q : Bool → St → Prop} (L : LAt C S a vs) (hsz : vs.length < 2 ^ 63) (h : Q (!vs.isEmpty) S) : Tr C (truthy (.ref a)) Q S :=
  fun ok s H => wpAny_truthy_list (L.is H) (by simp only [List.size_toArray]; omega) ⟨S, H.toks _, by simpa using h⟩
theorem Tr.lenStr {S : St} {l : List Nat} {u : Tok} {Q : Value → St → Prop} (hsz : l.length < 2 ^ 63) (h : ∀ t, Q (.int l.length t) S) : Tr C (call (.builtin "len") [.str (tx l) u]) Q S :=
  fun ok s H => len_str (by rw [tx_len]; omega) (by rw [tx_len]; exact ⟨S, H.toks _, h _⟩)
theorem Tr.itemStr {S : St} {l : List Nat} {t u : Tok} {k : Int} {c : Nat} {value slice : Expr} {Q : Value → St → Prop} (h0 : -(l.length : Int) ≤ k) (hz : -(2 ^ 62) ≤ k ∧ k < 2 ^ 62) (hc : l[(if k < 0 then k + l.length else k).toNat]? = some c) (h : ∀ t, Q (.str (tx [c]) t) S)
    (hs : subscripted slice false (.str (tx l) t) (.int k u) = operate [.str (tx l) t, .int k u] (getItem (.str (tx l) t) (.int k u)) := by rfl) (ht : ∀ r, letTemporaryGo value (.str (tx l) t) r = pure () := by intro _; rfl) :
    Tr C (subscriptTail value slice (.str (tx l) t) (.int k u)) Q S := by
  intro ok s H
  obtain ⟨hlt, hcl⟩ := List.getElem?_eq_some_iff.mp hc
  have hkl : k < (l.length : Int) := by split at hlt <;> omega
  have hi : Txt.item (tx l) k = tx [c] := by
    unfold Txt.item Txt.charAt seqIndex?
    rw [tx_len]
    have h2 : (decide (0 ≤ (if k < 0 then k + (l.length : Int) else k)) && decide ((if k < 0 then k + (l.length : Int) else k) < (l.length : Int))) = true := by
      simp only [Bool.and_eq_true, decide_eq_true_eq]; split <;> omega
    dsimp only
    rw [if_pos h2]
    have h3 : (tx l).cps[(if k < 0 then k + (l.length : Int) else k).toNat]? = some c := by show l.toArray[_]? = _; rw [List.getElem?_toArray]; exact hc
    rw [Option.bind_some, h3]; rfl
  refine item_str (fitsSsize_of (N := 9223372036854775808) (by omega) (by omega) (Int.le_refl _)) (by rw [tx_len]; omega) (by rw [tx_len]; exact hkl) (fun _ => ?_) hs ht
  rw [hi]; exact ⟨S, H.toks _, h _⟩
theorem Tr.truthyStr {S : St} {l : List Nat} {u : Tok} {Q : Bool → St → Prop} (hsz : l.length < 2 ^ 63) (h : Q (!l.isEmpty) S) : Tr C (truthy (.str (tx l) u)) Q S := by
  intro ok s H
  refine SBL.truthy (by rw [tx_len]; omega) ⟨S, H.toks _, ?_⟩
  have e : (((tx l).length : Int) != 0) = !l.isEmpty := by
    rw [tx_len]
    cases l with
    | nil => rfl
    | cons a r => simp [bne]; omega
  rw [e]; exact h
end
end Mine
end
section
open PySem PySem.W PySem.Calls PyProof PyProof.Rows PySem.Spec PyProof.V PySem.Builtin.Str
set_option linter.unusedVariables false
namespace Mine
theorem bnd_le (b : Option Int) (d n : Nat) (h : d ≤ n) : bnd b d n ≤ n := by
  unfold bnd
  cases b with
  | none => exact h
  | some i => dsimp only; split <;> omega
section
variable {C : Cx} {S : St}

-- parts of a slice
theorem Tr.part_none {Q : Value → St → Prop} (h : Q .none S) : Tr C (evalPart none C.env) Q S := fun _ _ hs => wpAny_pure ⟨S, hs, h⟩
theorem Tr.part_some {e : Expr} {Q : Value → St → Prop} (h : Tr C (eval e C.env) Q S) : Tr C (evalPart (some e) C.env) Q S := h
inductive PIs : Value → Option Int → Prop
  | none : PIs .none none
  | int {i : Int} {t : Tok} : PIs (.int i t) (some i)
theorem PIs.part {v : Value} {lo : Option Int} (h : PIs v lo) : ∃ p : Option (Int × Tok), v = partValue p ∧ p.map (·.1) = lo := by
  cases h with
  | none => exact ⟨Option.none, rfl, rfl⟩
  | int => exact ⟨some (_, _), rfl, rfl⟩
theorem PIs.isPart {v : Value} {lo : Option Int} (h : PIs v lo) : IsPart v lo := by
  cases h with
  | none => first | rfl | exact trivial | constructor
  | int => first | rfl | exact trivial | exact ⟨_, rfl⟩ | constructor
theorem cut_len {α : Type} (lo hi : Option Int) (l : List α) : (cut lo hi l).length ≤ l.length := by
  unfold cut; simp only [List.length_take, List.length_drop]; omega

theorem Tr.sliceStr {value : Expr} {lower upper : Option Expr} {p pos : Pos} {Q : Value → St → Prop}
    (h : Tr C (eval value C.env) (fun o S1 => Tr C (evalPart lower C.env) (fun vl S2 => Tr C (evalPart upper C.env) (fun vu S3 =>
      ∃ l t lo hi, o = .str (tx l) t ∧ PIs vl lo ∧ PIs vu hi ∧ l.length ≤ sizeLine ∧ ∀ t', Q (.str (tx (cut lo hi l)) t') S3) S2) S1) S) :
    Tr C (eval (.Subscript value (.Slice lower upper none p) pos) C.env) Q S := by
  intro ok s hs
  refine Subscript_ (h.go ok hs fun o s1 S1 h1 q1 => ?_)
  refine wpAny_Slice (q1.go ok h1 fun vl s2 S2 h2 q2 => q2.go ok h2 fun vu s3 S3 h3 q3 => ?_)
  obtain ⟨l, t, lo, hi, rfl, pl, pu, hz, q⟩ := q3
  obtain ⟨p1, rfl, e1⟩ := pl.part
  obtain ⟨p2, rfl, e2⟩ := pu.part
  show wpAny _ _ (pure Value.none) _ _ _
  refine wpAny_pure ?_
  have H4 := h3.pushU ok (o := { cls := .type "slice", data := .fields #[partValue p1, partValue p2, .none] }) rfl s3.toks
  refine tail_any (T := "str") (ops := [.ref s3.heap.objs.size, .str (tx l) t]) rfl slot_str_getitem.lookup ?_ rfl
  refine wpAny_getItem_str_slice (l := p1) (u := p2) (st := none) ⟨_, Heap.get?_push_size _ rfl, rfl, rfl⟩ rfl ?_
  have e : (slicePicked (tx l) p1 p2 none).filterMap ((tx l).cps[·]?) = cut lo hi l := by
    unfold slicePicked
    rw [e1, e2]
    show (strSliceIndices lo hi 1 (tx l).length).filterMap _ = _
    rw [pick_cut]
    show cut lo hi l.toArray.toList = _
    simp
  unfold sliceMade
  split
  · rename_i hall
    simp only [Bool.and_eq_true, beq_iff_eq] at hall
    have h5 := hall.2
    unfold slicePicked at h5
    rw [e1, e2] at h5
    have h6 : (strSliceIndices lo hi 1 (tx l).length).length = (tx l).length := h5
    rw [strInd, sliceRange_one, List.length_map, List.length_range, tx_len] at h6
    have hl : cut lo hi l = l := by
      have b2 := bnd_le hi l.length l.length (Nat.le_refl _)
      unfold cut
      have b1 : bnd lo 0 l.length = 0 ∨ l.length = 0 := by omega
      rcases b1 with b1 | b1
      · rw [b1] at h6 ⊢
        rw [List.drop_zero, List.take_of_length_le (by omega)]
      · have : l = [] := List.length_eq_zero_iff.mp b1
        subst this; simp
    have q' := q t
    rw [hl] at q'
    exact ⟨S3, H4, q'⟩
  · rw [e]
    refine ⟨?_, S3, H4.toks _, q _⟩
    show (tx (cut lo hi l)).length ≤ _
    rw [tx_len]; exact Nat.le_trans (cut_len lo hi l) hz
end
end Mine
end
section
open PySem PySem.W PySem.Calls PyProof PyProof.Rows PySem.Spec PyProof.V PySem.Builtin.Str
set_option linter.unusedVariables false
namespace Mine
section
variable {C : Cx} {S : St}

theorem Tr.sliceList {value : Expr} {lower upper : Option Expr} {p pos : Pos} {Q : Value → St → Prop}
    (h : Tr C (eval value C.env) (fun o S1 => Tr C (evalPart lower C.env) (fun vl S2 => Tr C (evalPart upper C.env) (fun vu S3 =>
      ∃ a vs lo hi, o = .ref a ∧ LAt C S3 a vs ∧ PIs vl lo ∧ PIs vu hi ∧ vs.length ≤ sizeLine ∧ ∀ b, Q (.ref b) ⟨S3.loc, S3.cel, (b, .list (cut lo hi vs)) :: S3.led⟩) S2) S1) S)
    (ht : ∀ o r, letTemporaryGo value o r = pure () := by intro _ _; rfl) :
    Tr C (eval (.Subscript value (.Slice lower upper none p) pos) C.env) Q S := by
  intro ok s hs
  refine wpAny_Subscript_list_slice (h.go ok hs fun o s1 S1 h1 q1 => q1.go ok h1 fun vl s2 S2 h2 q2 => q2.go ok h2 fun vu s3 S3 h3 q3 => ?_) ht
  obtain ⟨a, vs, lo, hi, rfl, L, pl, pu, hz, q⟩ := q3
  refine ⟨a, vs.toArray, lo, hi, rfl, L.is h3, by rw [List.size_toArray]; exact hz, pl.isPart, pu.isPart, ?_⟩
  have H4 := h3.pushU ok (o := { cls := .type "slice", data := .fields #[vl, vu, .none] }) rfl s3.toks
  rw [slicePick_cut]
  have e : s3.heap.objs.size + 1 = (s3.heap.push { cls := .type "slice", data := .fields #[vl, vu, .none] }).objs.size := by rw [Heap.size_push]
  rw [e]
  obtain ⟨loc, cel, led⟩ := S3
  exact ⟨_, H4.push ok (o := { cls := .type "list", data := .seq (cut lo hi vs).toArray }) rfl (.list (cut lo hi vs)) ⟨_, rfl⟩ s3.toks, q _⟩

-- ints
theorem Tr.addI {a b : Int} {t u : Tok} {Q : Value → St → Prop} (h : ∀ t, Q (.int (a + b) t) S) : Tr C (binaryOp .Add (.int a t) (.int b u)) Q S := fun _ _ H => add_int ⟨S, H.toks _, h _⟩
theorem Tr.subI {a b : Int} {t u : Tok} {Q : Value → St → Prop} (h : ∀ t, Q (.int (a - b) t) S) : Tr C (binaryOp .Sub (.int a t) (.int b u)) Q S := fun _ _ H => sub_int ⟨S, H.toks _, h _⟩
theorem Tr.modI {a b : Int} {t u : Tok} {Q : Value → St → Prop} (hb : b ≠ 0) (h : ∀ t, Q (.int (a.fmod b) t) S) : Tr C (binaryOp .Mod (.int a t) (.int b u)) Q S := fun _ _ H => mod_int hb ⟨S, H.toks _, h _⟩
theorem Tr.divI {a b : Int} {t u : Tok} {Q : Value → St → Prop} (hb : b ≠ 0) (hp : Builtin.divisionGoesByPylong a b = false) (h : ∀ t, Q (.int (a.fdiv b) t) S) : Tr C (binaryOp .FloorDiv (.int a t) (.int b u)) Q S :=
  fun _ _ H => floordiv_int hb ⟨S, H.toks _, h _⟩ (.inl hp)
-- comparisons
theorem Tr.ltI {a b : Int} {t u : Tok} {Q : Value → St → Prop} (h : Q (.bool (decide (a < b))) S) : Tr C (compareOp .Lt (.int a t) (.int b u)) Q S := fun _ _ H => lt_int ⟨S, H, h⟩
theorem Tr.leI {a b : Int} {t u : Tok} {Q : Value → St → Prop} (h : Q (.bool (decide (a ≤ b))) S) : Tr C (compareOp .LtE (.int a t) (.int b u)) Q S := fun _ _ H => le_int ⟨S, H, h⟩
theorem Tr.gtI {a b : Int} {t u : Tok} {Q : Value → St → Prop} (h : Q (.bool (decide (b < a))) S) : Tr C (compareOp .Gt (.int a t) (.int b u)) Q S := fun _ _ H => gt_int ⟨S, H, h⟩
theorem Tr.geI {a b : Int} {t u : Tok} {Q : Value → St → Prop} (h : Q (.bool (decide (b ≤ a))) S) : Tr C (compareOp .GtE (.int a t) (.int b u)) Q S := fun _ _ H => ge_int ⟨S, H, h⟩
theorem int_beq (a b : Int) : (a == b) = decide (a = b) := by by_cases q : a = b <;> simp [q]
theorem Tr.eqI {a b : Int} {t u : Tok} {Q : Value → St → Prop} (h : Q (.bool (decide (a = b))) S) : Tr C (compareOp .Eq (.int a t) (.int b u)) Q S := fun _ _ H => eq_int ⟨S, H, by rw [int_beq]; exact h⟩
theorem Tr.eqB {a b : Bool} {Q : Value → St → Prop} (h : Q (.bool (a == b)) S) : Tr C (compareOp .Eq (.bool a) (.bool b)) Q S := fun _ _ H => eq_bool ⟨S, H, h⟩
theorem Tr.neB {a b : Bool} {Q : Value → St → Prop} (h : Q (.bool (a != b)) S) : Tr C (compareOp .NotEq (.bool a) (.bool b)) Q S := fun _ _ H => ne_bool ⟨S, H, h⟩
theorem Tr.eqS {a b : List Nat} {t u : Tok} {Q : Value → St → Prop} (h : Q (.bool (decide (a = b))) S) : Tr C (compareOp .Eq (.str (tx a) t) (.str (tx b) u)) Q S := fun _ _ H => eq_str ⟨S, H, by rw [tx_beq]; exact h⟩
theorem Tr.neS {a b : List Nat} {t u : Tok} {Q : Value → St → Prop} (h : Q (.bool (!decide (a = b))) S) : Tr C (compareOp .NotEq (.str (tx a) t) (.str (tx b) u)) Q S := fun _ _ H => ne_str ⟨S, H, by rw [tx_bne]; exact h⟩
theorem tx_list (l : List Nat) : (tx l).cps.toList = l := by show l.toArray.toList = l; simp
theorem Tr.ltS {a b : List Nat} {t u : Tok} {Q : Value → St → Prop} (h : Q (.bool (decide (a < b))) S) : Tr C (compareOp .Lt (.str (tx a) t) (.str (tx b) u)) Q S := fun _ _ H => lt_str ⟨S, H, by simp only [tx_list]; exact h⟩
theorem Tr.leS {a b : List Nat} {t u : Tok} {Q : Value → St → Prop} (h : Q (.bool (!decide (b < a))) S) : Tr C (compareOp .LtE (.str (tx a) t) (.str (tx b) u)) Q S := fun _ _ H => P.le_str ⟨S, H, by simp only [tx_list]; exact h⟩
theorem Tr.gtS {a b : List Nat} {t u : Tok} {Q : Value → St → Prop} (h : Q (.bool (decide (b < a))) S) : Tr C (compareOp .Gt (.str (tx a) t) (.str (tx b) u)) Q S := fun _ _ H => P.gt_str ⟨S, H, by simp only [tx_list]; exact h⟩
theorem Tr.inS1 {c : Nat} {b : List Nat} {t u : Tok} {Q : Value → St → Prop} (h : Q (.bool (decide (c ∈ b))) S) : Tr C (compareOp .In (.str (tx [c]) t) (.str (tx b) u)) Q S :=
  fun _ _ H => in_str ⟨S, H, by
    have := StrLaws.found_one (tx b) c
    rw [tx_list] at this
    show Q (.bool (!(Builtin.Str.occurrences (tx b) ⟨#[c]⟩ 0 (tx b).length 1).isEmpty)) S
    rw [this]; exact h⟩
theorem Tr.notinS1 {c : Nat} {b : List Nat} {t u : Tok} {Q : Value → St → Prop} (h : Q (.bool (!decide (c ∈ b))) S) : Tr C (compareOp .NotIn (.str (tx [c]) t) (.str (tx b) u)) Q S :=
  fun _ _ H => PyProof.Rows.notIn_str ⟨S, H, by
    have := StrLaws.found_one (tx b) c
    rw [tx_list] at this
    have e : (Builtin.Str.occurrences (tx b) ⟨#[c]⟩ 0 (tx b).length 1).isEmpty = !decide (c ∈ b) := by rw [← this, Bool.not_not]
    first
      | (show Q (.bool (!(!(Builtin.Str.occurrences (tx b) ⟨#[c]⟩ 0 (tx b).length 1).isEmpty))) S
         rw [this]; exact h)
      | (show Q (.bool ((Builtin.Str.occurrences (tx b) ⟨#[c]⟩ 0 (tx b).length 1).isEmpty)) S
         rw [e]; exact h)⟩

-- calls
theorem Tr.callN {x : Str} {np pos : Pos} {args : List Expr} {kws : List Keyword} {Q : Value → St → Prop}
    (h : Tr C (eval (.Name x np) C.env) (fun f S1 => Tr C (callWith pos f [] (backTo pos (starEach args C.env)) (backToKw pos (keywordEach kws C.env))) Q S1) S) : Tr C (eval (.Call (.Name x np) args kws pos) C.env) Q S :=
  fun ok s hs => wpAny_Call_ofName (h.go ok hs fun _ s1 S1 h1 q1 => q1 ok s1 h1)
theorem Tr.callM1 {o : Expr} {name : Str} {apos pos : Pos} {args : List Expr} {Q : Value → St → Prop} (pl : Sem Bool)
    (h : Tr C (eval o C.env) (fun ov S1 => Tr C (getMethod ov name pl) (fun fx S2 => Tr C (callWith pos fx.1 fx.2 (backTo pos (starEach args C.env)) (backToKw pos (keywordEach [] C.env))) Q S2) S1) S)
    (he : eval (.Call (.Attribute o name apos) args [] pos) C.env = (do
      let ov ← eval o C.env
      standAt apos.atName
      let (f, first) ← holding [ov] (getMethod ov name pl)
      callWith pos f first (backTo pos (starEach args C.env)) [])) : Tr C (eval (.Call (.Attribute o name apos) args [] pos) C.env) Q S :=
  fun ok s hs => MethodCall_ (pl := pl) (h.go ok hs fun _ s1 S1 h1 q1 => q1.go ok h1 fun _ s2 S2 h2 q2 => q2 ok s2 h2) he
def Kept (C : Cx) (f : Value) : Prop := ∀ (ok : C.Ok) S' s, Holds C S' s → ∃ k, (k = Keeper.frame ∨ k = Keeper.machine ∨ k = Keeper.boundFrame) ∧ Looks (model pg C.w) s.heap (keeperOf f) k
theorem kept_builtin {id : String} : Kept C (.builtin id) := fun _ _ _ _ => ⟨.machine, .inr (.inl rfl), Looks.of_pure rfl⟩
theorem kept_type {id : String} : Kept C (.type id) := fun _ _ _ _ => ⟨.machine, .inr (.inl rfl), Looks.of_pure rfl⟩
theorem kept_K {f : Value} (hk : ∀ P, keepIn (hd.heap_39 P) f = true) : Kept C f := fun ok S' s H => keeps_K (hk _) s.heap (ok.gd.k.keeps H.keep)
/-- a call of a built-in or of a def: the arguments, then the call -/
theorem Tr.callW {pos : Pos} {f : Value} {first : List Value} {e : Expr} {rest : List Expr} {Q : Value → St → Prop} (hk : Kept C f)
    (h : Tr C (spliced (backTo pos (starEach (e :: rest) C.env))) (fun vs S1 => Tr C (call f (first ++ vs)) Q S1) S)
    (he : starEach (e :: rest) C.env = (false, eval e C.env) :: starEach rest C.env := by rfl) (hp : ((backTo pos (starEach rest C.env)).any fun x => x.1) = false := by rfl) :
    Tr C (callWith pos f first (backTo pos (starEach (e :: rest) C.env)) (backToKw pos (keywordEach [] C.env))) Q S := by
  intro ok s hs
  have hw := h ok s hs
  rw [he] at hw ⊢
  refine callWith_of (P := fun h => ∃ S' s', Holds C S' s' ∧ s'.heap = h) (by show ((false || (backTo pos (starEach rest C.env)).any fun x => x.1) || false) = false; rw [hp]; rfl) (fun h ⟨S', s', H', e⟩ => e ▸ hk ok S' s' H') ?_
  exact evalArgs_plain (wpAny_mono hw (fun vs s1 ⟨S1, h1, q1⟩ => ⟨⟨S1, s1, h1, rfl⟩, q1 ok s1 h1⟩) fun _ _ e => e)
theorem Tr.callW0 {pos : Pos} {f : Value} {first : List Value} {Q : Value → St → Prop} (hk : Kept C f) (h : Tr C (call f (first ++ [])) Q S) :
    Tr C (callWith pos f first (backTo pos (starEach [] C.env)) (backToKw pos (keywordEach [] C.env))) Q S :=
  fun ok s hs => callWith_of (P := fun h => ∃ S' s', Holds C S' s' ∧ s'.heap = h) rfl (fun h ⟨S', s', H', e⟩ => e ▸ hk ok S' s' H') (evalArgs_nil3 ⟨⟨S, s, hs, rfl⟩, h ok s hs⟩)
theorem Tr.callWK {pos : Pos} {f : Value} {first : List Value} {e : Expr} {rest : List Expr} {kws : List Keyword} {Q : Value → St → Prop} (hk : Kept C f)
    (h : Tr C (spliced (backTo pos (starEach (e :: rest) C.env))) (fun vs S1 => Tr C (evalAll (List.map (fun x => x.snd) (backToKw pos (keywordEach kws C.env)))) (fun ks S2 =>
      Tr C (call f (first ++ vs) ((List.filterMap (fun x => x.fst) (backToKw pos (keywordEach kws C.env))).zip ks)) Q S2) S1) S)
    (hall : ((backToKw pos (keywordEach kws C.env)).all fun x => x.fst.isSome) = true) (hno : ((backToKw pos (keywordEach kws C.env)).any fun x => x.fst.isNone) = false)
    (he : starEach (e :: rest) C.env = (false, eval e C.env) :: starEach rest C.env := by rfl) (hp : ((backTo pos (starEach rest C.env)).any fun x => x.1) = false := by rfl) :
    Tr C (callWith pos f first (backTo pos (starEach (e :: rest) C.env)) (backToKw pos (keywordEach kws C.env))) Q S := by
  intro ok s hs
  refine callWith_of (P := fun h => ∃ S' s', Holds C S' s' ∧ s'.heap = h) (by rw [he, hno]; show ((false || (backTo pos (starEach rest C.env)).any fun x => x.1) || false) = false; rw [hp]; rfl) (fun h ⟨S', s', H', e⟩ => e ▸ hk ok S' s' H') ?_
  exact evalArgs_kw2 hall (h.go ok hs fun vs s1 S1 h1 q1 => q1.go ok h1 fun ks s2 S2 h2 q2 => ⟨⟨S2, s2, h2, rfl⟩, q2 ok s2 h2⟩) he
theorem Tr.kw_nil {pos : Pos} {Q : List Value → St → Prop} (h : Q [] S) : Tr C (evalAll (List.map (fun x => x.snd) (backToKw pos (keywordEach [] C.env)))) Q S := fun ok s hs => kwAll_nil ⟨S, hs, h⟩
theorem Tr.kw_cons {pos p : Pos} {name : Str} {value : Expr} {rest : List Keyword} {Q : List Value → St → Prop}
    (h : Tr C (eval value C.env) (fun v S1 => Tr C (evalAll (List.map (fun x => x.snd) (backToKw pos (keywordEach rest C.env)))) (fun vs S2 => Q (v :: vs) S2) S1) S) :
    Tr C (evalAll (List.map (fun x => x.snd) (backToKw pos (keywordEach ({ arg := some name, value := value, pos := p } :: rest) C.env)))) Q S :=
  fun ok s hs => kwAll_cons (h.go ok hs fun _ s1 S1 h1 q1 => q1.go ok h1 fun _ s2 S2 h2 q2 => ⟨S2, h2, q2⟩)

-- methods of built-in things
theorem Tr.methS {name : Str} {id : String} {l : List Nat} {t : Tok} {pl : Sem Bool} {Q : Value × List Value → St → Prop} (hs : Slot "str" name id) (hp : PlainAttrs "str") (ht : typeOf (.builtin id) = pure (.type "method_descriptor"))
    (h : Q (.builtin id, [.str (tx l) t]) S) : Tr C (getMethod (.str (tx l) t) name pl) Q S :=
  fun ok s H => getMethod_builtin (T := "str") rfl hp hs ht (fun a e => by cases e) ⟨S, H, h⟩
theorem Tr.methI {name : Str} {id : String} {i : Int} {t : Tok} {pl : Sem Bool} {Q : Value × List Value → St → Prop} (hs : Slot "int" name id) (hp : PlainAttrs "int") (ht : typeOf (.builtin id) = pure (.type "method_descriptor"))
    (h : Q (.builtin id, [.int i t]) S) : Tr C (getMethod (.int i t) name pl) Q S :=
  fun ok s H => getMethod_builtin (T := "int") rfl hp hs ht (fun a e => by cases e) ⟨S, H, h⟩

-- loops
theorem Tr.whileS {test : Expr} {body : List Stmt} {pos : Pos} {Q : Flow → St → Prop} (I : Nat → St → Prop) (n : Nat) (h0 : I n S)
    (turn : ∀ n S, I n S → Tr C (PySem.isTrue test C.env (eval test C.env)) (fun b S1 => if b = true then Tr C (execs body C.env) (fun f S2 => match f with
        | .next => ∃ m, m < n ∧ I m S2
        | .cont => ∃ m, m < n ∧ I m S2
        | .brk => Q .next S2
        | .ret v => Q (.ret v) S2) S1 else Q .next S1) S) : Tr C (exec (.While test body [] pos) C.env) Q S := by
  intro ok s hs
  refine wpAny_While (codeAny_whileLoop (fun n s => ∃ S, Holds C S s ∧ I n S) (fun n s ⟨S', H', hI⟩ => (turn n S' hI).go ok H' fun b s1 S1 h1 q1 => ?_) n ⟨S, hs, h0⟩)
  cases b with
  | true =>
    simp only [if_true] at q1 ⊢
    refine q1.go ok h1 fun f s2 S2 h2 q2 => ?_
    cases f with
    | next => obtain ⟨m, hm, i⟩ := q2; exact ⟨m, hm, S2, h2, i⟩
    | cont => obtain ⟨m, hm, i⟩ := q2; exact ⟨m, hm, S2, h2, i⟩
    | brk => exact ⟨S2, h2, q2⟩
    | ret v => exact ⟨S2, h2, q2⟩
  | false =>
    simp only [Bool.false_eq_true, if_false] at q1 ⊢
    exact wpAny_execs_nil ⟨S1, h1, q1⟩
end
end Mine
end
section
open PySem PySem.W PySem.Calls PyProof PyProof.Rows PySem.Spec PyProof.V PySem.Builtin.Str
set_option linter.unusedVariables false
namespace Mine

/-- an object that nobody tracks has turned -/
theorem Holds.ext {C : Cx} {loc cel} {led : Led} {p : Addr × Ct} {s : Shared} (H : Holds C ⟨loc, cel, p :: led⟩ s) {h' : Heap} (hx : Heap.ExtBut p.1 s.heap h') (tk : Nat) : Holds C ⟨loc, cel, led⟩ { s with heap := h', toks := tk } := by
  obtain ⟨a, c⟩ := p
  have oa := H.out a (St.out_led (S := ⟨loc, cel, (a, c) :: led⟩) List.mem_cons_self)
  have D := H.drop1
  have nl := (List.nodup_cons.mp (show ((a :: led.map (·.1)).Nodup) from H.nl)).1
  have hx' : Heap.ExtBut a s.heap h' := hx
  refine ⟨?_, D.locs, D.locn, fun b o e => hx' b o (fun q => by rw [q, oa.2.1] at e; cases e) (H.keep b o e), fun x k ov h => ?_, D.cels, fun b k hb => ?_, D.out, D.nodup, D.os, D.gens, ?_⟩
  · obtain ⟨m, ⟨o, es, ep, e, r⟩, hml⟩ := H.loc
    exact ⟨m, ⟨o, es, ep, hx' _ _ (Ne.symm oa.1) e, r⟩, hml⟩
  · obtain ⟨o, e, hd⟩ := H.cel x k ov h
    exact ⟨o, hx' _ _ (H.ncl h List.mem_cons_self) e, hd⟩
  · obtain ⟨o, e, i⟩ := H.led b k (List.mem_cons_of_mem _ hb)
    exact ⟨o, hx' _ _ (fun q => nl (q ▸ List.mem_map.mpr ⟨_, hb, rfl⟩)) e, i⟩
  · obtain ⟨⟨p1, e1, t1⟩, ⟨p2, e2, t2⟩⟩ := H.gi
    exact ⟨⟨p1, hx' _ _ (Ne.symm oa.2.2.1) e1, t1⟩, ⟨p2, hx' _ _ (Ne.symm oa.2.2.2) e2, t2⟩⟩

/-- an iterator -/
structure Itr (C : Cx) (n : Nat) (P : Nat → Value → Prop) (K : Nat → Obj → Prop) (F : Led → Prop) : Prop where
  next : ∀ (i : Nat) loc cel led it, i < n → F led → C.Ok → ∀ s, Holds C ⟨loc, cel, (it, .pred (K i)) :: led⟩ s → ∀ (Q : Option Value → Shared → Prop) (E : Value → Shared → Prop),
    (∀ v s', P i v → Holds C ⟨loc, cel, (it, .pred (K (i + 1))) :: led⟩ s' → Q (some v) s') → wpAny (model pg C.w) C.A (pyNext (.ref it)) Q E s
  done : ∀ loc cel led it, F led → C.Ok → ∀ s, Holds C ⟨loc, cel, (it, .pred (K n)) :: led⟩ s → ∀ (Q : Option Value → Shared → Prop) (E : Value → Shared → Prop),
    (∀ s', Holds C ⟨loc, cel, led⟩ s' → Q none s') → wpAny (model pg C.w) C.A (pyNext (.ref it)) Q E s
  self : ∀ (i : Nat) loc cel led it, C.Ok → ∀ s, Holds C ⟨loc, cel, (it, .pred (K i)) :: led⟩ s → ∀ (Q : Value → Shared → Prop) (E : Value → Shared → Prop), Q (.ref it) s → wpAny (model pg C.w) C.A (pyIter (.ref it)) Q E s
  let' : ∀ (i : Nat) loc cel led it, C.Ok → ∀ s, Holds C ⟨loc, cel, (it, .pred (K i)) :: led⟩ s → ∀ (elts : List Expr) (k : Nat) (pos : Pos) (T : Addr) (Q : Unit → Shared → Prop) (E : Value → Shared → Prop), Q () s →
    wpAny (model pg C.w) C.A (letOwnedTupleGo (.Tuple elts k pos) (.ref it) (.ref T)) Q E s

def Src (C : Cx) (v : Value) (n : Nat) (P : Nat → Value → Prop) (F : Led → Prop) : Prop :=
  ∃ K, Itr C n P K F ∧ ∀ loc cel led, F led → C.Ok → ∀ s, Holds C ⟨loc, cel, led⟩ s → ∀ (Q : Value → Shared → Prop) (E : Value → Shared → Prop),
    (∀ it s', Holds C ⟨loc, cel, (it, .pred (K 0)) :: led⟩ s' → Q (.ref it) s') → wpAny (model pg C.w) C.A (pyIter v) Q E s

def LAtL (C : Cx) (led : Led) (a : Addr) (vs : List Value) : Prop := (a, Ct.list vs) ∈ led ∨ C.h₀.IsList a vs.toArray

theorem head_pred {C : Cx} {loc cel led it} {K : Obj → Prop} {s : Shared} (H : Holds C ⟨loc, cel, (it, .pred K) :: led⟩ s) : ∃ o, s.heap.get? it = some o ∧ K o := H.led _ _ List.mem_cons_self

theorem src_list {C : Cx} {a : Addr} {vs : List Value} : Src C (.ref a) vs.length (fun i v => vs[i]? = some v) (fun led => LAtL C led a vs) := by
  have lis : ∀ {loc cel led it K s}, LAtL C led a vs → Holds C ⟨loc, cel, (it, .pred K) :: led⟩ s → s.heap.IsList a vs.toArray := fun {loc cel led it K s} hF H => LAt.is (C := C) (S := ⟨loc, cel, (it, .pred K) :: led⟩) (hF.imp (fun h => List.mem_cons_of_mem _ h) id) H
  refine ⟨fun i o => o.cls = .type "list_iterator" ∧ o.data = .fields #[.ref a, .int i 0], ⟨?_, ?_, ?_, ?_⟩, ?_⟩
  · intro i loc cel led it hi hF ok s H Q E hQ
    obtain ⟨o, e, k⟩ := head_pred H
    refine wpAny_pyNext_list_item ⟨o, e, k⟩ (lis hF H) (x := vs[i]) (by simp [hi]) fun h' hit hs => ?_
    obtain ⟨o', e', k'⟩ := hit
    exact hQ _ _ (List.getElem?_eq_getElem hi) (H.turn .head hs e' (by exact k') _)
  · intro loc cel led it hF ok s H Q E hQ
    obtain ⟨o, e, k⟩ := head_pred H
    exact wpAny_pyNext_list_end ok.hd ⟨o, e, k⟩ (lis hF H) (by simp) fun h' hx => hQ _ (H.ext hx _)
  · intro i loc cel led it ok s H Q E hQ
    obtain ⟨o, e, k⟩ := head_pred H
    exact wpAny_pyIter_listiter ⟨o, e, k⟩ hQ
  · intro i loc cel led it ok s H elts k pos T Q E hQ
    obtain ⟨o, e, k⟩ := head_pred H
    exact wpAny_letOwnedTupleGo_listiter ⟨o, e, k⟩ hQ
  · intro loc cel led hF ok s H Q E hQ
    exact wpAny_pyIter_list (LAt.is (C := C) (S := ⟨loc, cel, led⟩) hF H) (hQ _ _ (H.push ok rfl (.pred _) (by exact ⟨rfl, rfl⟩) _))
theorem src_str {C : Cx} {l : List Nat} {t : Tok} (hl : ∀ c ∈ l, c < 128) : Src C (.str (tx l) t) l.length (fun i v => ∃ c u, l[i]? = some c ∧ v = .str (tx [c]) u) (fun _ => True) := by
  have asc : ((tx l).cps.all fun x => decide (x < 128)) = true := by
    show (l.toArray.all _) = true
    simpa using hl
  refine ⟨fun i o => o.cls = .type "str_ascii_iterator" ∧ o.data = .fields #[.str (tx l) t, .int i 0], ⟨?_, ?_, ?_, ?_⟩, ?_⟩
  · intro i loc cel led it hi hF ok s H Q E hQ
    obtain ⟨o, e, k⟩ := head_pred H
    refine wpAny_pyNext_ascii_item (x := tx l) (t := t) ⟨o, e, k⟩ (c := l[i]) (by show l.toArray[i]? = _; simp [hi]) fun h' hit hs => ?_
    obtain ⟨o', e', k'⟩ := hit
    exact hQ _ _ ⟨_, _, List.getElem?_eq_getElem hi, rfl⟩ (H.turn .head hs e' (by exact k') _)
  · intro loc cel led it hF ok s H Q E hQ
    obtain ⟨o, e, k⟩ := head_pred H
    exact wpAny_pyNext_ascii_end (x := tx l) (t := t) ok.hd ⟨o, e, k⟩ (by show l.toArray[l.length]? = _; simp) fun h' hx => hQ _ (H.ext hx _)
  · intro i loc cel led it ok s H Q E hQ
    obtain ⟨o, e, k⟩ := head_pred H
    exact wpAny_pyIter_striter_ascii (x := tx l) (t := t) ⟨o, e, k⟩ hQ
  · intro i loc cel led it ok s H elts k pos T Q E hQ
    obtain ⟨o, e, k1, k2⟩ := head_pred H
    unfold letOwnedTupleGo
    refine wpAny_bind (wpAny_load e ?_)
    rw [k1, k2]
    exact wpAny_pure hQ
  · intro loc cel led hF ok s H Q E hQ
    exact wpAny_pyIter_ascii asc (hQ _ _ (H.push ok rfl (.pred _) (by exact ⟨rfl, rfl⟩) _))

def RngO (a b c : Int) (o : Obj) : Prop := ∃ t u v, o = { cls := .type "range", data := .fields #[.int a t, .int b u, .int c v] }
def RAtL (C : Cx) (led : Led) (r : Addr) (a b c : Int) : Prop := (r, Ct.pred (RngO a b c)) ∈ led ∨ ∃ o, C.h₀.get? r = some o ∧ RngO a b c o

inductive Pick (a : Addr) (c : Ct) : Led → Led → Prop
  | head {r} : Pick a c ((a, c) :: r) r
  | tail {p r r'} : Pick a c r r' → Pick a c (p :: r) (p :: r')
theorem Pick.perm {a : Addr} {c : Ct} {l l' : Led} (h : Pick a c l l') : l.Perm ((a, c) :: l') := by
  induction h with
  | head => exact .refl _
  | tail _ ih => exact (ih.cons _).trans (.swap _ _ _)
theorem Holds.perm {C : Cx} {loc cel} {l l' : Led} {s : Shared} (H : Holds C ⟨loc, cel, l⟩ s) (p : l.Perm l') : Holds C ⟨loc, cel, l'⟩ s := by
  have pa : (⟨loc, cel, l⟩ : St).addrs.Perm (⟨loc, cel, l'⟩ : St).addrs := (p.map _).append_left _
  exact ⟨H.loc, H.locs, H.locn, H.keep, H.cel, H.cels, fun a c h => H.led a c (p.mem_iff.mpr h), fun a h => H.out a (pa.mem_iff.mpr h), pa.nodup_iff.mp H.nodup, H.os, H.gens, H.gi⟩
theorem Holds.sublist {C : Cx} {loc cel} {l l' : Led} {s : Shared} (H : Holds C ⟨loc, cel, l⟩ s) (p : l'.Sublist l) : Holds C ⟨loc, cel, l'⟩ s := by
  have pa : (⟨loc, cel, l'⟩ : St).addrs.Sublist (⟨loc, cel, l⟩ : St).addrs := (p.map _).append_left _
  exact ⟨H.loc, H.locs, H.locn, H.keep, H.cel, H.cels, fun a c h => H.led a c (p.mem h), fun a h => H.out a (pa.mem h), pa.nodup H.nodup, H.os, H.gens, H.gi⟩
/-- a state said in fewer words -/
theorem Tr.weak {α : Type} {C : Cx} {loc cel} {l l' : Led} {t : Sem α} {Q : α → St → Prop} (p : l'.Sublist l) (h : Tr C t Q ⟨loc, cel, l'⟩) : Tr C t Q ⟨loc, cel, l⟩ := fun ok s H => h ok s (H.sublist p)
theorem Tr.perm {α : Type} {C : Cx} {loc cel} {l l' : Led} {t : Sem α} {Q : α → St → Prop} (p : l.Perm l') (h : Tr C t Q ⟨loc, cel, l'⟩) : Tr C t Q ⟨loc, cel, l⟩ := fun ok s H => h ok s (H.perm p)

section
variable {C : Cx} {S : St}
/-- a for; its iterator stands at the ledger's head -/
theorem Tr.forS {target iter : Expr} {body : List Stmt} {pos : Pos} {Q : Flow → St → Prop} {n : Nat} {P : Nat → Value → Prop} {F : Led → Prop} (I : Nat → St → Prop)
    (hi : Tr C (eval iter C.env) (fun v S1 => Src C v n P F ∧ F S1.led ∧ I 0 S1) S)
    (hF : ∀ i S, I i S → F S.led)
    (turn : ∀ i S it K x, i < n → P i x → I i S → Tr C (assign target C.env x) (fun _ S1 => Tr C (execs body C.env) (fun f S2 => match f with
        | .next => ∃ led, Pick it K S2.led led ∧ I (i + 1) ⟨S2.loc, S2.cel, led⟩
        | .cont => ∃ led, Pick it K S2.led led ∧ I (i + 1) ⟨S2.loc, S2.cel, led⟩
        | .brk => Q .next S2
        | .ret v => Q (.ret v) S2) S1) ⟨S.loc, S.cel, (it, K) :: S.led⟩)
    (fin : ∀ S, I n S → Q .next S)
    (hlet : (∃ x p, target = .Name x p) ∨ ((∃ elts k p, target = .Tuple elts k p) ∧ ∀ i x, P i x → ∃ T, x = .ref T))
    (hs : ∀ x, foldedSetIterable iter C.env x = pure x := by intro _; rfl) : Tr C (exec (.For target iter body [] pos) C.env) Q S := by
  intro ok s hs'
  refine wpAny_For (hi.go ok hs' fun v s1 S1 h1 q1 => ?_) hs
  obtain ⟨⟨K, W, start⟩, hF1, hI⟩ := q1
  refine start _ _ _ hF1 ok s1 h1 _ _ fun it s2 h2 => ?_
  refine codeAny_forLoop_any (fun k s => ∃ i S, k = n - i ∧ i ≤ n ∧ I i S ∧ Holds C ⟨S.loc, S.cel, (it, .pred (K i)) :: S.led⟩ s) ?_ n ⟨0, S1, rfl, Nat.zero_le _, hI, h2⟩
  rintro k s3 ⟨i, S3, rfl, hin, hI3, h3⟩
  by_cases hlt : i < n
  · refine W.next i _ _ _ _ hlt (hF i S3 hI3) ok s3 h3 _ _ fun x s4 hx h4 => ?_
    have body' := fun (E : Value → Shared → Prop) => (turn i S3 it (.pred (K (i + 1))) x hlt hx hI3).go ok h4 (E := E) (Q' := fun _ s5 => wpAny (model pg C.w) C.A (execs body C.env) (fun f s6 => match f with
        | .next => ∃ m, m < n - i ∧ ∃ i S, m = n - i ∧ i ≤ n ∧ I i S ∧ Holds C ⟨S.loc, S.cel, (it, .pred (K i)) :: S.led⟩ s6
        | .cont => ∃ m, m < n - i ∧ ∃ i S, m = n - i ∧ i ≤ n ∧ I i S ∧ Holds C ⟨S.loc, S.cel, (it, .pred (K i)) :: S.led⟩ s6
        | .brk => ∃ S', Holds C S' s6 ∧ Q .next S'
        | .ret v => ∃ S', Holds C S' s6 ∧ Q (.ret v) S') E s5) (fun _ s5 S5 h5 q5 => q5.go ok h5 fun f s6 S6 h6 q6 => by
      cases f with
      | next =>
        obtain ⟨led, pk, i6⟩ := q6
        exact ⟨n - (i + 1), by omega, i + 1, ⟨S6.loc, S6.cel, led⟩, rfl, hlt, i6, Holds.perm (l := S6.led) h6 pk.perm⟩
      | cont =>
        obtain ⟨led, pk, i6⟩ := q6
        exact ⟨n - (i + 1), by omega, i + 1, ⟨S6.loc, S6.cel, led⟩, rfl, hlt, i6, Holds.perm (l := S6.led) h6 pk.perm⟩
      | brk => exact ⟨S6, h6, q6⟩
      | ret v => exact ⟨S6, h6, q6⟩)
    rcases hlet with ⟨y, p, rfl⟩ | ⟨⟨elts, kk, p, rfl⟩, hT⟩
    · exact wpAny_pure (body' _)
    · obtain ⟨T, rfl⟩ := hT i x hx
      exact W.let' (i + 1) _ _ _ _ ok s4 h4 _ _ _ _ _ _ (body' _)
  · obtain rfl : i = n := Nat.le_antisymm hin (Nat.not_lt.mp hlt)
    refine W.done _ _ _ _ (hF i S3 hI3) ok s3 h3 _ _ fun s4 h4 => ?_
    exact wpAny_execs_nil ⟨S3, h4, fin S3 hI3⟩
end
end Mine
end
section
open PySem PySem.W PySem.Calls PyProof PyProof.Rows PySem.Spec PyProof.V PySem.Builtin.Str
set_option linter.unusedVariables false
namespace Mine

def IsNsO (o : Obj) : Prop := ∃ m, LCg.NsObj o m
def IsCellO (o : Obj) : Prop := ∃ ov, o.data = .cell ov

/-- the cells that a block captures -/
def capOf (scope : Scope) (cel : List (Str × Addr × Option Value)) : List (Str × Addr × Option Value) := cel.filter fun p => scope.names.lookup p.1 == some .free

structure CompCx (C C' : Cx) (scope : Scope) : Prop where
  w : C'.w = C.w
  A : C'.A = C.A
  d : C'.d = C.d
  os : C'.os = C.os
  ck : C'.ck = .cell
  sub : Sub C.h₀ C'.h₀
  glb : ∀ x, scope.names.lookup x = some .globalImplicit → C'.env.kindOf x = some .globalImplicit
  inter : interactive C'.env = false

theorem lookup_mapk (g : Str → NameKind → NameKind) : ∀ {names : List (Str × NameKind)} {x : Str} {k : NameKind}, names.lookup x = some k → (names.map fun p => (p.1, g p.1 p.2)).lookup x = some (g x k)
  | (n, k) :: r, x, k', h => by
    rw [List.map_cons, List.lookup_cons]
    rw [List.lookup_cons] at h
    cases hx : x == n with
    | true =>
      rw [hx] at h
      cases h
      have e : x = n := eq_of_beq hx
      subst e
      rfl
    | false =>
      rw [hx] at h
      exact lookup_mapk g h
theorem relabel_get {env : Env} {scope : Scope} {x : Str} {k : NameKind} (h : scope.names.lookup x = some k) :
    (relabel scope env).names.lookup x = some (if (k == NameKind.free && env.scope.kind == .function && env.kindOf x == some .cell) then NameKind.cell else k) := by
  have := lookup_mapk (fun x k => if (k == NameKind.free && env.scope.kind == .function && env.kindOf x == some .cell) then NameKind.cell else k) h
  have e : (relabel scope env).names = scope.names.map fun p => (p.1, if (p.2 == NameKind.free && env.scope.kind == .function && env.kindOf p.1 == some .cell) then NameKind.cell else p.2) := by
    unfold relabel
    refine List.map_congr_left fun p _ => ?_
    obtain ⟨n, k⟩ := p
    dsimp only
    split <;> rfl
  rw [e]; exact this

theorem inj_nodup {α β : Type} {f : α → β} : ∀ {l : List α}, (l.map f).Nodup → ∀ {a b : α}, a ∈ l → b ∈ l → f a = f b → a = b
  | x :: r, hn, a, b, ha, hb, e => by
    rw [List.map_cons, List.nodup_cons] at hn
    rcases List.mem_cons.mp ha with h1 | h1 <;> rcases List.mem_cons.mp hb with h2 | h2
    · rw [h1, h2]
    · exact absurd (List.mem_map.mpr ⟨b, h2, by rw [← e, h1]⟩) hn.1
    · exact absurd (List.mem_map.mpr ⟨a, h1, by rw [e, h2]⟩) hn.1
    · exact inj_nodup hn.2 h1 h2 e
theorem cells_of {h : Heap} : ∀ {own : List (Str × Addr)}, (∀ p ∈ own, ∃ ov, h.IsCell p.2 ov) → ∃ ownc : List (Str × Addr × Option Value), ownc.map (fun p => (p.1, p.2.1)) = own ∧ ∀ x c ov, (x, c, ov) ∈ ownc → h.IsCell c ov
  | [], _ => ⟨[], rfl, fun _ _ _ h => nomatch h⟩
  | p :: r, hh => by
    obtain ⟨ov, hov⟩ := hh p List.mem_cons_self
    obtain ⟨l, e, hl⟩ := cells_of fun q hq => hh q (List.mem_cons_of_mem _ hq)
    refine ⟨(p.1, p.2, ov) :: l, by simp [e], fun x c v h => ?_⟩
    rcases List.mem_cons.mp h with h | h
    · cases h; exact hov
    · exact hl _ _ _ h

/-- the turn's own frame, out of the function's -/
theorem comp_in {C : Cx} {scope : Scope} {cl : List (Str × Addr)} {loc cel} {led : Led} {own : List (Str × Addr)} {it D Cc : Addr} {KI KD : Ct} {ln : List Str} {s : Shared} {cenv : Env}
    (ok : C.Ok) (H : Holds C ⟨loc, cel, (it, KI) :: (D, KD) :: (Cc, .pred IsNsO) :: (own.map (fun p => (p.2, Ct.pred IsCellO)) ++ led)⟩ s)
    (he : cenv.locals = Cc) (hg : cenv.globals = mainGlobals) (hb : cenv.builtins = builtinsNs) (hk : cenv.scope.kind = .function)
    (hln : ∀ x ∈ ln, cenv.kindOf x = some .local) (hlnn : ln.Nodup)
    (hown : ∀ p ∈ own, cenv.kindOf p.1 = some .cell ∧ cenv.cells.lookup p.1 = some p.2)
    (hcap : ∀ x c ov, (x, c, ov) ∈ capOf scope cel → cenv.kindOf x = some .cell ∧ cenv.cells.lookup x = some c)
    (hglb : ∀ x, scope.names.lookup x = some .globalImplicit → cenv.kindOf x = some .globalImplicit) :
    ∃ C' : Cx, CompCx C C' scope ∧ C'.env = cenv ∧ C'.Ok ∧ (∃ ownc, ownc.map (fun p => (p.1, p.2.1)) = own ∧ Holds C' ⟨ln.map fun x => (x, none), ownc ++ capOf scope cel, led⟩ s) ∧
      ∀ S' s' ownc', ownc'.map (fun p => (p.1, p.2.1)) = own → S'.cel = ownc' ++ capOf scope cel → Holds C' S' s' → Holds C ⟨loc, cel, (it, KI) :: (D, KD) :: (Cc, .pred IsNsO) :: (own.map (fun p => (p.2, Ct.pred IsCellO)) ++ S'.led)⟩ s' := by
  let hid := 50 :: 50 :: Cc :: (own.map (·.2) ++ ((capOf scope cel).map (·.2.1) ++ led.map (·.1)))
  let C' : Cx := { C with h₀ := hideAll s.heap hid, env := cenv, ck := .cell }
  have hnd := H.nodup
  have ad : ∀ {l : Led}, (⟨loc, cel, (it, KI) :: (D, KD) :: (Cc, .pred IsNsO) :: (own.map (fun p => (p.2, Ct.pred IsCellO)) ++ l)⟩ : St).addrs = cel.map (·.2.1) ++ (it :: D :: Cc :: (own.map (·.2) ++ l.map (·.1))) := by
    intro l
    unfold St.addrs
    simp only [List.map_cons, List.map_append, List.map_map]
    rfl
  rw [ad] at hnd
  have hout : ∀ a ∈ cel.map (·.2.1) ++ (it :: D :: Cc :: (own.map (·.2) ++ led.map (·.1))), a ≠ C.env.locals ∧ C.h₀.get? a = none ∧ a ≠ 50 ∧ a ≠ 50 := fun a ha => H.out a (by rw [ad]; exact ha)
  obtain ⟨nc, nl, ncl⟩ := List.nodup_append.mp hnd
  obtain ⟨nit, nl2⟩ := List.nodup_cons.mp nl
  obtain ⟨nD, nl3⟩ := List.nodup_cons.mp nl2
  obtain ⟨nCc, nl4⟩ := List.nodup_cons.mp nl3
  obtain ⟨nown, nled, nol⟩ := List.nodup_append.mp nl4
  have capsub : ∀ p ∈ capOf scope cel, p ∈ cel := fun p hp => (List.mem_filter.mp hp).1
  have capadr : ∀ a ∈ (capOf scope cel).map (·.2.1), a ∈ cel.map (·.2.1) := fun a ha => by
    obtain ⟨p, hp, rfl⟩ := List.mem_map.mp ha
    exact List.mem_map.mpr ⟨p, capsub p hp, rfl⟩
  have inC : ∀ a ∈ cel.map (·.2.1), a ∈ cel.map (·.2.1) ++ (it :: D :: Cc :: (own.map (·.2) ++ led.map (·.1))) := fun a ha => List.mem_append_left _ ha
  have inCc : Cc ∈ cel.map (·.2.1) ++ (it :: D :: Cc :: (own.map (·.2) ++ led.map (·.1))) := List.mem_append_right _ (.tail _ (.tail _ (.head _)))
  have inIt : it ∈ cel.map (·.2.1) ++ (it :: D :: Cc :: (own.map (·.2) ++ led.map (·.1))) := List.mem_append_right _ (.head _)
  have inD : D ∈ cel.map (·.2.1) ++ (it :: D :: Cc :: (own.map (·.2) ++ led.map (·.1))) := List.mem_append_right _ (.tail _ (.head _))
  have inO : ∀ a ∈ own.map (·.2), a ∈ cel.map (·.2.1) ++ (it :: D :: Cc :: (own.map (·.2) ++ led.map (·.1))) := fun a ha => List.mem_append_right _ (.tail _ (.tail _ (.tail _ (List.mem_append_left _ ha))))
  have inL : ∀ a ∈ led.map (·.1), a ∈ cel.map (·.2.1) ++ (it :: D :: Cc :: (own.map (·.2) ++ led.map (·.1))) := fun a ha => List.mem_append_right _ (.tail _ (.tail _ (.tail _ (List.mem_append_right _ ha))))
  have hidin : ∀ a ∈ hid, a = 50 ∨ a = 50 ∨ (a ≠ C.env.locals ∧ C.h₀.get? a = none ∧ (a = Cc ∨ a ∈ own.map (·.2) ∨ a ∈ (capOf scope cel).map (·.2.1) ∨ a ∈ led.map (·.1))) := fun a ha => by
    rcases List.mem_cons.mp ha with h | ha
    · exact .inl h
    rcases List.mem_cons.mp ha with h | ha
    · exact .inr (.inl h)
    rcases List.mem_cons.mp ha with h | ha
    · have := hout Cc inCc
      exact .inr (.inr ⟨h ▸ this.1, h ▸ this.2.1, .inl h⟩)
    rcases List.mem_append.mp ha with h | ha
    · have := hout a (inO a h)
      exact .inr (.inr ⟨this.1, this.2.1, .inr (.inl h)⟩)
    rcases List.mem_append.mp ha with h | h
    · have := hout a (inC a (capadr a h))
      exact .inr (.inr ⟨this.1, this.2.1, .inr (.inr (.inl h))⟩)
    · have := hout a (inL a h)
      exact .inr (.inr ⟨this.1, this.2.1, .inr (.inr (.inr h))⟩)
  have Lno := L_no H
  have Lnot : C.env.locals ∉ hid := fun q => by
    rcases hidin _ q with h | h | h
    · exact Lno.1 h
    · exact Lno.2 h
    · exact h.1 rfl
  have sub0 : Sub C.h₀ (hideAll s.heap hid) := fun b o e => hideAll_get _ (H.keep b o e) fun q => by
    rcases hidin _ q with h | h | h
    · rw [h, ok.n1] at e; cases e
    · rw [h, ok.n2] at e; cases e
    · rw [h.2.1] at e; cases e
  have notHid : ∀ a, a ≠ 50 → a ≠ 50 → a ≠ Cc → a ∉ own.map (·.2) → a ∉ (capOf scope cel).map (·.2.1) → a ∉ led.map (·.1) → a ∉ hid := fun a h1 h2 h3 h4 h5 h6 q => by
    rcases hidin _ q with h | h | h
    · exact h1 h
    · exact h2 h
    · rcases h.2.2 with h | h | h | h
      · exact h3 h
      · exact h4 h
      · exact h5 h
      · exact h6 h
  have ok' : C'.Ok := {
    gd := ok.gd.keeps sub0
    n1 := hideAll_none _ List.mem_cons_self
    n2 := hideAll_none _ (List.mem_cons_of_mem _ List.mem_cons_self)
    nL := hideAll_none _ (by show cenv.locals ∈ _; rw [he]; exact List.mem_cons_of_mem _ (List.mem_cons_of_mem _ List.mem_cons_self))
    hd := ok.hd, depth := ok.depth, units := ok.units, kind := hk, globals := hg, builtins := hb, ck := .inl rfl }
  have itkeep : ∀ o, s.heap.get? it = some o → (hideAll s.heap hid).get? it = some o := fun o e => hideAll_get _ e (notHid it (hout it inIt).2.2.1 (hout it inIt).2.2.2
    (fun q => nit (q ▸ .tail _ (.head _))) (fun q => nit (.tail _ (.tail _ (List.mem_append_left _ q)))) (fun q => ncl it (capadr _ q) it (.head _) rfl) (fun q => nit (.tail _ (.tail _ (List.mem_append_right _ q)))))
  have Dkeep : ∀ o, s.heap.get? D = some o → (hideAll s.heap hid).get? D = some o := fun o e => hideAll_get _ e (notHid D (hout D inD).2.2.1 (hout D inD).2.2.2
    (fun q => nD (q ▸ .head _)) (fun q => nD (.tail _ (List.mem_append_left _ q))) (fun q => ncl D (capadr _ q) D (.tail _ (.head _)) rfl) (fun q => nD (.tail _ (List.mem_append_right _ q))))
  have celkeep : ∀ x c ov, (x, c, ov) ∈ cel → (x, c, ov) ∉ capOf scope cel → ∀ o, s.heap.get? c = some o → (hideAll s.heap hid).get? c = some o := fun x c ov hx hn o e => by
    have hc : c ∈ cel.map (·.2.1) := List.mem_map.mpr ⟨_, hx, rfl⟩
    refine hideAll_get _ e (notHid c (hout c (inC c hc)).2.2.1 (hout c (inC c hc)).2.2.2 (fun q => ncl c hc c (q ▸ .tail _ (.tail _ (.head _))) rfl) (fun q => ncl c hc c (.tail _ (.tail _ (.tail _ (List.mem_append_left _ q)))) rfl) (fun q => ?_)
      (fun q => ncl c hc c (.tail _ (.tail _ (.tail _ (List.mem_append_right _ q)))) rfl))
    obtain ⟨⟨y, c', ov'⟩, hy, e2⟩ := List.mem_map.mp q
    have e3 : c' = c := e2
    subst e3
    have same : (x, c', ov) = (y, c', ov') := inj_nodup (f := fun p : Str × Addr × Option Value => p.2.1) nc hx (capsub _ hy) rfl
    exact hn (same ▸ hy)
  -- the cells of the block's own
  have ownc := cells_of (h := s.heap) (own := own) fun p hp => by
    obtain ⟨o, e, ov, hd⟩ := H.led p.2 (.pred IsCellO) (.tail _ (.tail _ (.tail _ (List.mem_append_left _ (List.mem_map.mpr ⟨p, hp, rfl⟩)))))
    exact ⟨ov, o, e, hd⟩
  obtain ⟨ownc, eown, hownc⟩ := ownc
  have eown2 : ∀ l : List (Str × Addr × Option Value), l.map (fun p => (p.1, p.2.1)) = own → l.map (·.2.1) = own.map (·.2) := fun l e => by rw [← e, List.map_map]; rfl
  have hsub : Sub C'.h₀ s.heap := fun b o e => of_hideAll hid (h := s.heap) (show (hideAll s.heap hid).get? b = some o from e)
  have hno : ∀ a ∈ hid, C'.h₀.get? a = none := fun a ha => (hideAll_none hid ha : (hideAll s.heap hid).get? a = none)
  have Hin : Holds C' ⟨ln.map fun x => (x, none), ownc ++ capOf scope cel, led⟩ s := by
    have adr : (⟨ln.map fun x => (x, none), ownc ++ capOf scope cel, led⟩ : St).addrs = own.map (·.2) ++ (capOf scope cel).map (·.2.1) ++ led.map (·.1) := by
      unfold St.addrs; rw [List.map_append, eown2 _ eown]
    refine ⟨?_, fun x ov hx => ?_, ?_, hsub, fun x c ov hx => ?_, fun x c ov hx => ?_, fun a c ha => H.led a c (.tail _ (.tail _ (.tail _ (List.mem_append_right _ ha)))), fun a ha => ?_, ?_, H.os, H.gens, H.gi⟩
    · obtain ⟨o, e, m, hm⟩ := H.led Cc _ (.tail _ (.tail _ (.head _)))
      refine ⟨m, by show s.heap.Ns cenv.locals m; rw [he]; exact hm.ns e, fun x v hx => ?_⟩
      obtain ⟨y, hy, e2⟩ := List.mem_map.mp hx
      cases e2
    · obtain ⟨y, hy, e2⟩ := List.mem_map.mp hx
      cases e2
      exact hln _ hy
    · rw [List.map_map]
      have : ((fun x : Str × Option Value => x.1) ∘ fun x => (x, none)) = id := rfl
      rw [this, List.map_id]; exact hlnn
    · rcases List.mem_append.mp hx with h | h
      · exact hownc _ _ _ h
      · exact H.cel _ _ _ (capsub _ h)
    · rcases List.mem_append.mp hx with h | h
      · have : (x, c) ∈ own := by rw [← eown]; exact List.mem_map.mpr ⟨_, h, rfl⟩
        exact hown _ this
      · exact hcap _ _ _ h
    · rw [adr] at ha
      have hin : a ∈ hid := by
        refine List.mem_cons_of_mem _ (List.mem_cons_of_mem _ (List.mem_cons_of_mem _ ?_))
        rcases List.mem_append.mp ha with h | h
        · rcases List.mem_append.mp h with h | h
          · exact List.mem_append_left _ h
          · exact List.mem_append_right _ (List.mem_append_left _ h)
        · exact List.mem_append_right _ (List.mem_append_right _ h)
      have hin2 : a ∈ cel.map (·.2.1) ++ (it :: D :: Cc :: (own.map (·.2) ++ led.map (·.1))) := by
        rcases List.mem_append.mp ha with h | h
        · rcases List.mem_append.mp h with h | h
          · exact inO a h
          · exact inC a (capadr a h)
        · exact inL a h
      refine ⟨?_, hno a hin, (hout a hin2).2.2⟩
      show a ≠ cenv.locals
      intro q
      have q' : a = Cc := q.trans he
      rcases List.mem_append.mp ha with h | h
      · rcases List.mem_append.mp h with h | h
        · exact nCc (List.mem_append_left _ (q' ▸ h))
        · exact ncl a (capadr a h) Cc (List.mem_cons_of_mem _ (List.mem_cons_of_mem _ List.mem_cons_self)) q'
      · exact nCc (List.mem_append_right _ (q' ▸ h))
    · rw [adr]
      refine List.nodup_append.mpr ⟨List.nodup_append.mpr ⟨nown, (List.filter_sublist.map _).nodup nc, fun a ha b hb q => ?_⟩, nled, fun a ha b hb q => ?_⟩
      · subst q; exact ncl a (capadr a hb) a (.tail _ (.tail _ (.tail _ (List.mem_append_left _ ha)))) rfl
      · subst q
        rcases List.mem_append.mp ha with h | h
        · exact nol a h a hb rfl
        · exact ncl a (capadr a h) a (.tail _ (.tail _ (.tail _ (List.mem_append_right _ hb)))) rfl
  refine ⟨C', ⟨rfl, rfl, rfl, rfl, rfl, sub0, hglb, by show interactive cenv = false; unfold interactive; rw [hk]; rfl⟩, rfl, ok', ⟨ownc, eown, Hin⟩, fun S' s' ownc' eo ecel H' => ?_⟩
  obtain ⟨loc', cel', led'⟩ := S'
  have ecel' : cel' = ownc' ++ capOf scope cel := ecel
  subst ecel'
  have kp : ∀ a o, (hideAll s.heap hid).get? a = some o → s'.heap.get? a = some o := fun a o e => H'.keep a o e
  have adr' : (⟨loc', ownc' ++ capOf scope cel, led'⟩ : St).addrs = own.map (·.2) ++ (capOf scope cel).map (·.2.1) ++ led'.map (·.1) := by
    unfold St.addrs; rw [List.map_append, eown2 _ eo]
  have nd' := H'.nodup
  rw [adr'] at nd'
  obtain ⟨nd1, nd2, nd3⟩ := List.nodup_append.mp nd'
  have out' : ∀ a ∈ led'.map (·.1), a ≠ Cc ∧ (hideAll s.heap hid).get? a = none ∧ a ≠ 50 ∧ a ≠ 50 := fun a ha => by
    have := H'.out a (by rw [adr']; exact List.mem_append_right _ ha)
    exact ⟨he ▸ this.1, this.2⟩
  have celsome : ∀ c ∈ cel.map (·.2.1), c ∉ led'.map (·.1) := fun c hc q => by
    obtain ⟨⟨x, c', ov⟩, hx, e2⟩ := List.mem_map.mp hc
    have e3 : c' = c := e2
    subst e3
    by_cases hcp : (x, c', ov) ∈ capOf scope cel
    · exact nd3 c' (List.mem_append_right _ (List.mem_map.mpr ⟨_, hcp, rfl⟩)) c' q rfl
    · obtain ⟨o, e, _⟩ := H.cel x c' ov hx
      have := celkeep x c' ov hx hcp o e
      rw [(out' c' q).2.1] at this; cases this
  obtain ⟨oit, eit, kit⟩ := H.led it KI (.head _)
  obtain ⟨oD, eD, kD⟩ := H.led D KD (.tail _ (.head _))
  refine ⟨?_, H.locs, H.locn, fun b o e => kp b o (sub0 b o e), fun x c ov hx => ?_, H.cels, fun a c ha => ?_, fun a ha => ?_, ?_, H'.os, H'.gens, H'.gi⟩
  · obtain ⟨m, ⟨o, es, ep, e, r⟩, hml⟩ := H.loc
    exact ⟨m, ⟨o, es, ep, kp _ _ (hideAll_get _ e Lnot), r⟩, hml⟩
  · by_cases hcp : (x, c, ov) ∈ capOf scope cel
    · exact H'.cel x c ov (List.mem_append_right _ hcp)
    · obtain ⟨o, e, hd⟩ := H.cel x c ov hx
      exact ⟨o, kp _ _ (celkeep x c ov hx hcp o e), hd⟩
  · rcases List.mem_cons.mp ha with h | ha
    · cases h; exact ⟨oit, kp _ _ (itkeep _ eit), kit⟩
    rcases List.mem_cons.mp ha with h | ha
    · cases h; exact ⟨oD, kp _ _ (Dkeep _ eD), kD⟩
    rcases List.mem_cons.mp ha with h | ha
    · cases h
      obtain ⟨m, hm, _⟩ := H'.loc
      have hm' : s'.heap.Ns cenv.locals m := hm
      rw [he] at hm'
      obtain ⟨o, e, hn⟩ := LCg.ns_obj hm'
      exact ⟨o, e, m, hn⟩
    rcases List.mem_append.mp ha with h | h
    · obtain ⟨p, hp, e⟩ := List.mem_map.mp h
      cases e
      rw [← eo] at hp
      obtain ⟨⟨x, c, ov⟩, hx, rfl⟩ := List.mem_map.mp hp
      obtain ⟨o, e, hd⟩ := H'.cel x c ov (List.mem_append_left _ hx)
      exact ⟨o, e, ov, hd⟩
    · exact H'.led a c h
  · rw [ad] at ha
    have old : a ∈ cel.map (·.2.1) ++ (it :: D :: Cc :: (own.map (·.2) ++ led.map (·.1))) → a ≠ C.env.locals ∧ C.h₀.get? a = none ∧ a ≠ 50 ∧ a ≠ 50 := hout a
    rcases List.mem_append.mp ha with h | ha
    · exact old (inC a h)
    rcases List.mem_cons.mp ha with h | ha
    · exact old (h ▸ inIt)
    rcases List.mem_cons.mp ha with h | ha
    · exact old (h ▸ inD)
    rcases List.mem_cons.mp ha with h | ha
    · exact old (h ▸ inCc)
    rcases List.mem_append.mp ha with h | h
    · exact old (inO a h)
    · have o2 := out' a h
      refine ⟨?_, ?_, o2.2.2⟩
      · rintro rfl
        obtain ⟨m, ⟨o, es, ep, e, r⟩, hml⟩ := H.loc
        have := hideAll_get hid e Lnot
        rw [o2.2.1] at this; cases this
      · cases q : C.h₀.get? a with
        | none => rfl
        | some o => have := sub0 a o q; rw [o2.2.1] at this; cases this
  · rw [ad]
    have nit' : it ∉ led'.map (·.1) := fun q => by have := itkeep _ eit; rw [(out' it q).2.1] at this; cases this
    have nD' : D ∉ led'.map (·.1) := fun q => by have := Dkeep _ eD; rw [(out' D q).2.1] at this; cases this
    have nCc' : Cc ∉ led'.map (·.1) := fun q => (out' Cc q).1 rfl
    refine List.nodup_append.mpr ⟨nc, List.nodup_cons.mpr ⟨?_, List.nodup_cons.mpr ⟨?_, List.nodup_cons.mpr ⟨?_, List.nodup_append.mpr ⟨nown, nd2, fun a ha b hb => nd3 a (List.mem_append_left _ ha) b hb⟩⟩⟩⟩, fun a ha b hb q => ?_⟩
    · intro q
      rcases List.mem_cons.mp q with h | q
      · exact nit (h ▸ .head _)
      rcases List.mem_cons.mp q with h | q
      · exact nit (h ▸ .tail _ (.head _))
      rcases List.mem_append.mp q with h | h
      · exact nit (.tail _ (.tail _ (List.mem_append_left _ h)))
      · exact nit' h
    · intro q
      rcases List.mem_cons.mp q with h | q
      · exact nD (h ▸ .head _)
      rcases List.mem_append.mp q with h | h
      · exact nD (.tail _ (List.mem_append_left _ h))
      · exact nD' h
    · intro q
      rcases List.mem_append.mp q with h | h
      · exact nCc (List.mem_append_left _ h)
      · exact nCc' h
    · subst q
      rcases List.mem_cons.mp hb with h | hb
      · exact ncl a ha a (h ▸ .head _) rfl
      rcases List.mem_cons.mp hb with h | hb
      · exact ncl a ha a (h ▸ .tail _ (.head _)) rfl
      rcases List.mem_cons.mp hb with h | hb
      · exact ncl a ha a (h ▸ .tail _ (.tail _ (.head _))) rfl
      rcases List.mem_append.mp hb with h | h
      · exact ncl a ha a (.tail _ (.tail _ (.tail _ (List.mem_append_left _ h)))) rfl
      · exact celsome a ha h
end Mine
end
section
open PySem PySem.W PySem.Calls PyProof PyProof.Rows PySem.Spec PyProof.V PySem.Builtin.Str
set_option linter.unusedVariables false
namespace Mine

theorem cellsFrom_app : ∀ (names : List (Str × NameKind)) (n : Nat) (acc : List (Str × Addr)), cellsFrom n names acc = cellsFrom n names [] ++ acc
  | [], n, acc => rfl
  | (x, k) :: r, n, acc => by
    unfold cellsFrom
    split
    · rw [cellsFrom_app r (n + 1) ((x, n) :: acc), cellsFrom_app r (n + 1) [(x, n)], List.append_assoc]; rfl
    · exact cellsFrom_app r n acc

theorem wpAny_newEnvComp {M : Model} {A : Around} {E : Value → Shared → Prop} {s : Shared} {scope : Scope} {globals : Addr} {cl : List (Str × Addr)} {qual : Str} {env : Env} {Q : Env → Shared → Prop}
    (h : Q { scope, locals := s.heap.objs.size, globals, cells := cellsFrom (s.heap.objs.size + 1) scope.names cl, qual, func := none, code := env.code, frame := env.frame, builtins := env.builtins }
      { s with heap := pushCells (s.heap.push { cls := .type "dict", data := .dict #[] }) scope.names }) :
    wpAny M A (newFunctionEnv scope globals cl [] qual none .none (some env)) Q E s := by
  simp only [newFunctionEnv, Option.isSome_some, if_true]
  refine wpAny_bind (wpAny_alloc ?_)
  refine wpAny_bind (wpAny_layCells _ (fun name kind cells => by cases hkc : kind == NameKind.cell <;> simp [hkc]) _ _ _ _ ?_)
  rw [show ({ s with heap := s.heap.push { cls := .type "dict", data := .dict #[] } } : Shared).heap.objs.size = s.heap.objs.size + 1 from Heap.size_push ..]
  refine wpAny_bind ?_
  rw [List.forIn_nil]
  exact wpAny_pure (wpAny_pure h)

theorem Holds.pushCells {C : Cx} {loc cel} (ok : C.Ok) : ∀ (names : List (Str × NameKind)) (acc : List (Str × Addr)) (led : Led) (s : Shared),
    Holds C ⟨loc, cel, acc.map (fun p => (p.2, Ct.pred IsCellO)) ++ led⟩ s →
    Holds C ⟨loc, cel, (cellsFrom s.heap.objs.size names acc).map (fun p => (p.2, Ct.pred IsCellO)) ++ led⟩ { s with heap := PySem.pushCells s.heap names }
  | [], acc, led, s, H => H
  | (x, k) :: r, acc, led, s, H => by
    unfold PySem.pushCells cellsFrom
    split
    · have H2 := H.push ok (o := { cls := .type "cell", data := .cell none }) rfl (.pred IsCellO) ⟨none, rfl⟩ s.toks
      have := Holds.pushCells ok r ((x, s.heap.objs.size) :: acc) led { s with heap := s.heap.push { cls := .type "cell", data := .cell none } } H2
      rw [show ({ s with heap := s.heap.push { cls := .type "cell", data := .cell none } } : Shared).heap.objs.size = s.heap.objs.size + 1 from Heap.size_push ..] at this
      exact this
    · exact Holds.pushCells ok r acc led s H

theorem closure_key {env : Env} (Qn : Str → Prop) (f : Str × NameKind → List (Str × Addr) → Sem (ForInStep (List (Str × Addr))))
    (hf : ∀ x k cs, f (x, k) cs = if (k == NameKind.free) = true then (do let c ← cellOf env x; pure (ForInStep.yield ((x, c) :: cs))) else pure (ForInStep.yield cs)) :
    ∀ (names : List (Str × NameKind)) (acc : List (Str × Addr)), (∀ p ∈ names, p.2 = .free → (env.cells.lookup p.1).isSome = true ∧ Qn p.1) → (∀ x c, (x, c) ∈ acc → env.cells.lookup x = some c ∧ Qn x) →
      ∃ cl, forIn names acc f = pure cl ∧ (∀ x, (x, NameKind.free) ∈ names → ∃ c, (x, c) ∈ cl) ∧ (∀ p ∈ acc, p ∈ cl) ∧ ∀ x c, (x, c) ∈ cl → env.cells.lookup x = some c ∧ Qn x
  | [], acc, _, ha => ⟨acc, List.forIn_nil .., fun _ h => (List.not_mem_nil h).elim, fun _ h => h, ha⟩
  | (x, k) :: r, acc, hn, ha => by
    rw [List.forIn_cons, hf]
    by_cases hk : (k == NameKind.free) = true
    · rw [if_pos hk]
      have hk' : k = .free := eq_of_beq hk
      obtain ⟨hs, hq⟩ := hn (x, k) List.mem_cons_self hk'
      obtain ⟨c, hc⟩ := Option.isSome_iff_exists.mp hs
      have hce : cellOf env x = pure c := by unfold cellOf; rw [hc]
      obtain ⟨cl, e, h1, h2, h3⟩ := closure_key Qn f hf r ((x, c) :: acc) (fun q hq => hn q (List.mem_cons_of_mem _ hq)) fun y d hy => by
        rcases List.mem_cons.mp hy with h | h
        · cases h; exact ⟨hc, hq⟩
        · exact ha y d h
      refine ⟨cl, ?_, fun y hy => ?_, fun q hq => h2 q (List.mem_cons_of_mem _ hq), h3⟩
      · rw [hce]; exact e
      · rcases List.mem_cons.mp hy with h | h
        · have e2 : y = x := congrArg Prod.fst h
          subst e2; exact ⟨c, h2 _ List.mem_cons_self⟩
        · exact h1 y h
    · rw [if_neg hk]
      obtain ⟨cl, e, h1, h2, h3⟩ := closure_key Qn f hf r acc (fun q hq => hn q (List.mem_cons_of_mem _ hq)) ha
      refine ⟨cl, e, fun y hy => ?_, h2, h3⟩
      rcases List.mem_cons.mp hy with h | h
      · have e2 : NameKind.free = k := congrArg Prod.snd h
        subst e2; simp at hk
      · exact h1 y h
theorem closure_pure {env : Env} {scope : Scope} (h : ∀ p ∈ scope.names, p.2 = .free → (env.cells.lookup p.1).isSome = true) :
    ∃ cl, closureFor scope env = pure cl ∧ (∀ x, (x, NameKind.free) ∈ scope.names → ∃ c, (x, c) ∈ cl) ∧ ∀ x c, (x, c) ∈ cl → env.cells.lookup x = some c ∧ (x, NameKind.free) ∈ scope.names := by
  have gen : ∀ F, (closureFor scope env = forIn scope.names [] F >>= pure) → (∀ x k cs, F (x, k) cs = if (k == NameKind.free) = true then (do let c ← cellOf env x; pure (ForInStep.yield ((x, c) :: cs))) else pure (ForInStep.yield cs)) → _ := fun F e hf =>
    (⟨e, closure_key (env := env) (fun x => (x, NameKind.free) ∈ scope.names) F hf scope.names [] (fun p hp hk => ⟨h p hp hk, by obtain ⟨x, k⟩ := p; cases hk; exact hp⟩) (fun _ _ h => nomatch h)⟩ : _ ∧ _)
  obtain ⟨e0, cl, e, h1, _, h3⟩ := gen _ rfl (fun x k cs => by cases hkc : k == NameKind.free <;> simp [hkc])
  exact ⟨cl, by rw [e0, e]; rfl, h1, h3⟩
theorem look_of_all {x : Str} {c : Addr} : ∀ {cl : List (Str × Addr)}, (x, c) ∈ cl → (∀ d, (x, d) ∈ cl → d = c) → cl.lookup x = some c
  | (y, d) :: r, h, hu => by
    rw [List.lookup_cons]
    cases hx : x == y with
    | true =>
      have e : x = y := eq_of_beq hx
      subst e
      rw [hu d List.mem_cons_self]
    | false =>
      rcases List.mem_cons.mp h with h | h
      · cases h; simp at hx
      · exact look_of_all h fun d hd => hu d (List.mem_cons_of_mem _ hd)
theorem look_app {α : Type} {x : Str} : ∀ {a b : List (Str × α)}, x ∉ a.map (·.1) → (a ++ b).lookup x = b.lookup x
  | [], _, _ => rfl
  | (y, d) :: r, b, h => by
    rw [List.map_cons, List.mem_cons, not_or] at h
    rw [List.cons_append, List.lookup_cons]
    have : (x == y) = false := beq_eq_false_iff_ne.mpr h.1
    rw [this]
    exact look_app h.2

/-- what a block's text must show of its names -/
def compOk (scope : Scope) (ln : List Str) (cel : List (Str × Addr × Option Value)) : Bool :=
  (scope.kind == .function) && (scope.names.all fun p => p.2 != .local || scope.names.lookup p.1 == some .local) && (scope.names.all fun p => p.2 != .free || ((cel.map (·.1)).contains p.1 && scope.names.lookup p.1 == some .free)) &&
    (ln.all fun x => scope.names.lookup x == some .local) && decide ln.Nodup && ((cellsFrom 0 scope.names []).all fun p => scope.names.lookup p.1 == some .cell) && decide ((cellsFrom 0 scope.names []).map (·.1)).Nodup

def Tst (C : Cx) (ifs : List Expr) (Q : Bool → St → Prop) (S : St) : Prop := match ifs with
  | [] => Q true S
  | [c] => Tr C (PySem.isTrue c C.env (eval c C.env)) Q S
  | _ => False

def CelBack (scope : Scope) (cel own : List (Str × Addr × Option Value)) (S : St) : Prop :=
  ∃ own', own'.map (fun p => (p.1, p.2.1)) = own.map (fun p => (p.1, p.2.1)) ∧ S.cel = own' ++ capOf scope cel

section
variable {C : Cx}
theorem comp_core {elt target iter : Expr} {ifs : List Expr} {scope : Scope} {pos : Pos} {loc cel} {led0 : Led} {v : Value} {n : Nat} {P : Nat → Value → Prop} {F : Led → Prop} {ln : List Str} {cl : List (Str × Addr)} {s : Shared} {RR : Value → Addr → Result → Shared → Prop}
    (J : Nat → List Value → Led → Prop) (hsz : n ≤ sizeLine)
    (htg : (∃ x p, target = .Name x p ∧ ifs.length ≤ 1) ∨ ((∃ elts k p, target = .Tuple elts k p) ∧ (∀ i x, P i x → ∃ T, x = .ref T) ∧ ifs = []))
    (ok : C.Ok) (hck : C.ck = .cell) (hok : compOk scope ln cel = true) (hcl : closureFor scope C.env = pure cl) (hcl2 : ∀ x c, (x, c) ∈ cl → C.env.cells.lookup x = some c ∧ (x, NameKind.free) ∈ scope.names) (hcl1 : ∀ x, (x, NameKind.free) ∈ scope.names → ∃ c, (x, c) ∈ cl)
    (H : Holds C ⟨loc, cel, led0⟩ s) (hS : Src C v n P F) (hF0 : F led0) (hJ : J 0 [] led0) (hF : ∀ i ys led pre, J i ys led → F (pre ++ led))
    (turn : ∀ C', CompCx C C' scope → ∀ i ys led own x, i < n → P i x → J i ys led → own.map (·.1) = (cellsFrom 0 scope.names []).map (·.1) →
      Tr C' (assign target C'.env x) (fun _ S1 => Tst C' ifs (fun ok S2 => if ok = true then Tr C' (eval elt C'.env) (fun y S3 => CelBack scope cel own S3 ∧ J (i + 1) (ys ++ [y]) S3.led) S2 else CelBack scope cel own S2 ∧ J (i + 1) ys S2.led) S1)
        ⟨ln.map fun x => (x, none), own ++ capOf scope cel, led⟩)
    (hRR : ∀ (D Cc : Addr) (s' : Shared) (ys : List Value) (led : Led) (own : List (Str × Addr)), J n ys led → Holds C ⟨loc, cel, (D, .list ys) :: (Cc, .pred IsNsO) :: (own.map (fun p : Str × Addr => (p.2, Ct.pred IsCellO)) ++ led)⟩ s' → RR (.ref D) Cc (.ok .next) s') :
    wpAny (model pg C.w) C.A (pyIter v) (fun it s₂ => wpAny (model pg C.w) C.A (PySem.newList []) (fun acc s₃ => wpAny (model pg C.w) C.A (newFunctionEnv scope C.env.globals cl [] C.env.qual none .none (some C.env)) (fun cenv s₄ =>
      codeAny (model pg C.w) C.A (.compStart (.ListComp elt [⟨target, iter, ifs, 0⟩] scope pos) 0 it acc { cenv with scope := relabel scope C.env }) (RR acc cenv.locals) s₄) (fun _ _ => False) s₃) (fun _ _ => False) s₂) (fun _ _ => False) s := by
  obtain ⟨K, W, start⟩ := hS
  refine start _ _ _ hF0 ok s H _ _ fun it s₂ H₂ => ?_
  refine wpAny_newList ?_ (by exact Nat.zero_le _)
  have H₃ := H₂.push ok (o := { cls := .type "list", data := .seq ([] : List Value).toArray }) rfl (.list []) ⟨_, rfl⟩ s₂.toks
  generalize hs3 : ({ s₂ with heap := s₂.heap.push { cls := .type "list", data := .seq ([] : List Value).toArray } } : Shared) = s₃
  have H₃' : Holds C ⟨loc, cel, (s₂.heap.objs.size, .list []) :: (it, .pred (K 0)) :: led0⟩ s₃ := by rw [← hs3]; exact H₃
  clear H₃ hs3
  generalize s₂.heap.objs.size = D at H₃'
  clear H₂
  refine wpAny_newEnvComp ?_
  have H₄ := H₃'.push ok (o := { cls := .type "dict", data := .dict #[] }) rfl (.pred IsNsO) ⟨fun _ => none, #[], 0, rfl, fun _ he => by simp at he, fun _ => rfl⟩ s₃.toks
  have H₅ := Holds.pushCells ok scope.names [] _ _ (by exact H₄)
  rw [show ({ s₃ with heap := s₃.heap.push { cls := .type "dict", data := .dict #[] } } : Shared).heap.objs.size = s₃.heap.objs.size + 1 from Heap.size_push ..] at H₅
  dsimp only at H₅ ⊢
  generalize hs5 : ({ s₃ with heap := PySem.pushCells (s₃.heap.push { cls := .type "dict", data := .dict #[] }) scope.names } : Shared) = s₅
  have H₅' : Holds C ⟨loc, cel, (cellsFrom (s₃.heap.objs.size + 1) scope.names []).map (fun p => (p.2, Ct.pred IsCellO)) ++ ((s₃.heap.objs.size, .pred IsNsO) :: (D, .list []) :: (it, .pred (K 0)) :: led0)⟩ s₅ := by rw [← hs5]; exact H₅
  clear H₅ hs5 H₄ H₃'
  generalize hown : cellsFrom (s₃.heap.objs.size + 1) scope.names [] = own at H₅'
  generalize hCc : s₃.heap.objs.size = Cc at H₅' hown ⊢
  have hcells : cellsFrom (Cc + 1) scope.names cl = own ++ cl := by rw [cellsFrom_app, hown]
  rw [hcells]
  simp only [compOk, Bool.and_eq_true] at hok
  obtain ⟨⟨⟨⟨⟨⟨k1, k2⟩, k3⟩, k4⟩, k5⟩, k6⟩, k7⟩ := hok
  have hkind : scope.kind = .function := beq_iff_eq.mp k1
  have ownn : own.map (·.1) = (cellsFrom 0 scope.names []).map (·.1) := by rw [← hown]; exact cellsFrom_names _ _ _ _ _ rfl
  have ownk : ∀ p ∈ own, scope.names.lookup p.1 = some .cell := fun p hp => by
    have : p.1 ∈ (cellsFrom 0 scope.names []).map (·.1) := ownn ▸ List.mem_map.mpr ⟨p, hp, rfl⟩
    obtain ⟨q, hq, e⟩ := List.mem_map.mp this
    rw [← e]; exact beq_iff_eq.mp (List.all_eq_true.mp k6 q hq)
  have ownnd : (own.map (·.1)).Nodup := by rw [ownn]; exact of_decide_eq_true k7
  have kO : ∀ x k, scope.names.lookup x = some k → k ≠ .free → Env.kindOf { scope := relabel scope C.env, locals := Cc, globals := C.env.globals, cells := own ++ cl, qual := C.env.qual, func := none, code := C.env.code, frame := C.env.frame, builtins := C.env.builtins } x = some k := fun x k e hk => by
    show (relabel scope C.env).names.lookup x = _
    rw [relabel_get e]
    have : (k == NameKind.free) = false := beq_eq_false_iff_ne.mpr hk
    simp [this]
  generalize hce : ({ scope := relabel scope C.env, locals := Cc, globals := C.env.globals, cells := own ++ cl, qual := C.env.qual, func := none, code := C.env.code, frame := C.env.frame, builtins := C.env.builtins } : Env) = cenv at kO
  have cL : cenv.locals = Cc := by rw [← hce]
  have cC : cenv.cells = own ++ cl := by rw [← hce]
  have k3' : ∀ x, (x, NameKind.free) ∈ scope.names → scope.names.lookup x = some .free ∧ (cel.map (·.1)).contains x = true := fun x hx => by
    have := List.all_eq_true.mp k3 _ hx
    simp only [bne_self_eq_false, Bool.false_or, Bool.and_eq_true] at this
    exact ⟨beq_iff_eq.mp this.2, this.1⟩
  have inw : ∀ {led : Led} {i : Nat} {ys : List Value} {s : Shared} (H : Holds C ⟨loc, cel, (it, .pred (K i)) :: (D, .list ys) :: (Cc, .pred IsNsO) :: (own.map (fun p => (p.2, Ct.pred IsCellO)) ++ led)⟩ s), _ := fun {led i ys s} H =>
    comp_in (scope := scope) (cl := cl) (ln := ln) (cenv := cenv) ok H cL (by rw [← hce]; exact ok.globals) (by rw [← hce]; exact ok.builtins) (by rw [← hce]; exact hkind)
      (fun x hx => kO x _ (beq_iff_eq.mp (List.all_eq_true.mp k4 x hx)) (by intro e; cases e)) (of_decide_eq_true k5)
      (fun p hp => ⟨kO p.1 _ (ownk p hp) (by intro e; cases e), by
        rw [cC]
        refine look_of_all (List.mem_append_left _ hp) fun d hd => ?_
        rcases List.mem_append.mp hd with h | h
        · exact congrArg Prod.snd (inj_nodup (f := fun p : Str × Addr => p.1) ownnd h hp rfl)
        · exfalso
          have e1 := (k3' _ (hcl2 _ _ h).2).1
          rw [ownk p hp] at e1; cases e1⟩)
      (fun x c ov hx => by
        obtain ⟨hx1, hx2⟩ := List.mem_filter.mp hx
        have hfree : scope.names.lookup x = some .free := beq_iff_eq.mp hx2
        obtain ⟨hk, hlk⟩ := H.cels x c ov hx1
        rw [hck] at hk
        refine ⟨?_, ?_⟩
        · rw [← hce]
          show (relabel scope C.env).names.lookup x = _
          rw [relabel_get hfree]
          simp [ok.kind, hk]
        · rw [cC]
          have : x ∉ own.map (·.1) := fun q => by
            obtain ⟨p, hp, e⟩ := List.mem_map.mp q
            have := ownk p hp
            rw [e, hfree] at this; cases this
          rw [look_app this]
          obtain ⟨c', hc'⟩ := hcl1 x (mem_of_look hfree)
          have e1 := (hcl2 x c' hc').1
          rw [hlk] at e1; cases e1
          exact look_of_all hc' fun d hd => by have := (hcl2 x d hd).1; rw [hlk] at this; cases this; rfl)
      (fun x e => kO x _ e (by intro e; cases e))
  have keyI : ∀ (s : Shared), Holds C ⟨loc, cel, (it, .pred (K 0)) :: (D, .list []) :: (Cc, .pred IsNsO) :: (own.map (fun p => (p.2, Ct.pred IsCellO)) ++ led0)⟩ s →
      codeAny (model pg C.w) C.A (.compLoop (.ListComp elt [⟨target, iter, ifs, 0⟩] scope pos) 0 (.ref it) (.ref D) cenv) (RR (.ref D) Cc) s := by
    intro s0 H0
    let I : Nat → Shared → Prop := fun k s => ∃ i ys led, k = n - i ∧ i ≤ n ∧ ys.length ≤ i ∧ J i ys led ∧ Holds C ⟨loc, cel, (it, .pred (K i)) :: (D, .list ys) :: (Cc, .pred IsNsO) :: (own.map (fun p => (p.2, Ct.pred IsCellO)) ++ led)⟩ s
    have I0 : I n s0 := ⟨0, [], led0, rfl, Nat.zero_le _, Nat.le_refl _, hJ, H0⟩
    have done : ∀ i ys led s (E : Value → Shared → Prop), i = n → J i ys led → Holds C ⟨loc, cel, (it, .pred (K i)) :: (D, .list ys) :: (Cc, .pred IsNsO) :: (own.map (fun p => (p.2, Ct.pred IsCellO)) ++ led)⟩ s → ∀ (Q : Option Value → Shared → Prop), (∀ s', RR (.ref D) Cc (.ok .next) s' → Q none s') →
        wpAny (model pg C.w) C.A (pyNext (.ref it)) Q E s := fun i ys led s E e j H Q hQ => by
      subst e
      exact W.done _ _ _ _ (hF i ys led ((D, .list ys) :: (Cc, .pred IsNsO) :: own.map (fun p : Str × Addr => (p.2, Ct.pred IsCellO))) j) ok s H _ _ fun s' H' => hQ s' (hRR D Cc s' ys led own j H')
    have step : ∀ i ys led s (E : Value → Shared → Prop), i < n → ys.length ≤ i → J i ys led → Holds C ⟨loc, cel, (it, .pred (K i)) :: (D, .list ys) :: (Cc, .pred IsNsO) :: (own.map (fun p => (p.2, Ct.pred IsCellO)) ++ led)⟩ s → ∀ (Q : Option Value → Shared → Prop),
        (∀ x s', P i x → Holds C ⟨loc, cel, (it, .pred (K (i + 1))) :: (D, .list ys) :: (Cc, .pred IsNsO) :: (own.map (fun p => (p.2, Ct.pred IsCellO)) ++ led)⟩ s' →
          (∀ (E' : Value → Shared → Prop), wpAny (model pg C.w) C.A (assign target cenv x) (fun _ s₂ => wpAny (model pg C.w) C.A (forIn ifs true fun c r => if r = true then do let ok ← PySem.isTrue c cenv (eval c cenv); pure (ForInStep.yield ok) else pure (ForInStep.yield r)) (fun ok s₃ =>
            if ok = true then wpAny (model pg C.w) C.A (eval elt cenv) (fun y s₄ => wpAny (model pg C.w) C.A (call (.builtin "list.append") [.ref D, y]) (fun _ s₅ => ∃ m, m < n - i ∧ I m s₅) E' s₄) E' s₃ else ∃ m, m < n - i ∧ I m s₃) E' s₂) E' s') → Q (some x) s') →
        wpAny (model pg C.w) C.A (pyNext (.ref it)) Q E s := fun i ys led s E hi hy j H Q hQ => by
      refine W.next i _ _ ((D, .list ys) :: (Cc, .pred IsNsO) :: (own.map (fun p => (p.2, Ct.pred IsCellO)) ++ led)) _ hi (hF i ys led ((D, .list ys) :: (Cc, .pred IsNsO) :: own.map (fun p : Str × Addr => (p.2, Ct.pred IsCellO))) j) ok s H _ _ fun x s' hx H' => hQ x s' hx H' fun E' => ?_
      obtain ⟨C', cx, ce, ok', ⟨ownc, eown, Hin⟩, back⟩ := inw H'
      have on : ownc.map (·.1) = (cellsFrom 0 scope.names []).map (·.1) := by rw [← ownn, ← eown, List.map_map]; rfl
      have T := turn C' cx i ys led ownc x hi hx j on
      have e1 : C'.w = C.w := cx.w
      have e2 : C'.A = C.A := cx.A
      have fin0 : ∀ S3 s3, Holds C' S3 s3 → CelBack scope cel ownc S3 → Holds C ⟨loc, cel, (it, .pred (K (i + 1))) :: (D, .list ys) :: (Cc, .pred IsNsO) :: (own.map (fun p => (p.2, Ct.pred IsCellO)) ++ S3.led)⟩ s3 := fun S3 s3 h3 cb => by
        obtain ⟨own', eo, ec⟩ := cb
        exact back S3 s3 own' (eo.trans eown) ec h3
      have fin1 : ∀ ok1 S2 s2 (E' : Value → Shared → Prop), Holds C' S2 s2 → (if ok1 = true then Tr C' (eval elt C'.env) (fun y S3 => CelBack scope cel ownc S3 ∧ J (i + 1) (ys ++ [y]) S3.led) S2 else CelBack scope cel ownc S2 ∧ J (i + 1) ys S2.led) →
          if ok1 = true then wpAny (model pg C.w) C.A (eval elt cenv) (fun y s₄ => wpAny (model pg C.w) C.A (call (.builtin "list.append") [.ref D, y]) (fun _ s₅ => ∃ m, m < n - i ∧ I m s₅) E' s₄) E' s2 else ∃ m, m < n - i ∧ I m s2 := fun ok1 S2 s2 E' h2 q2 => by
        cases ok1 with
        | true =>
          simp only [if_true] at q2 ⊢
          rw [ce] at q2
          have := q2.go ok' h2 (E := E') (Q' := fun y s₄ => wpAny (model pg C.w) C.A (call (.builtin "list.append") [.ref D, y]) (fun _ s₅ => ∃ m, m < n - i ∧ I m s₅) E' s₄) fun y s4 S4 h4 q4 => by
            have H4 := fin0 S4 s4 h4 q4.1
            have ap := Tr.append (C := C) (Q := fun _ S => S = ⟨loc, cel, (it, .pred (K (i + 1))) :: (D, .list (ys ++ [y])) :: (Cc, .pred IsNsO) :: (own.map (fun p => (p.2, Ct.pred IsCellO)) ++ S4.led)⟩) (.tail .head) (x := y) (loc := loc) (cel := cel) (by omega) rfl
            refine ap.go ok H4 fun _ s5 S5 h5 e5 => ?_
            subst e5
            exact ⟨n - (i + 1), by omega, i + 1, ys ++ [y], S4.led, rfl, hi, by rw [List.length_append, List.length_singleton]; omega, q4.2, h5⟩
          rw [e1, e2] at this
          exact this
        | false =>
          simp only [Bool.false_eq_true, if_false] at q2 ⊢
          exact ⟨n - (i + 1), by omega, i + 1, ys, S2.led, rfl, hi, by omega, q2.2, fin0 S2 s2 h2 q2.1⟩
      rw [ce] at T
      have := T.go ok' Hin (E := E') (Q' := fun _ s₂ => wpAny (model pg C.w) C.A (forIn ifs true fun c r => if r = true then do let ok ← PySem.isTrue c cenv (eval c cenv); pure (ForInStep.yield ok) else pure (ForInStep.yield r)) (fun ok s₃ =>
            if ok = true then wpAny (model pg C.w) C.A (eval elt cenv) (fun y s₄ => wpAny (model pg C.w) C.A (call (.builtin "list.append") [.ref D, y]) (fun _ s₅ => ∃ m, m < n - i ∧ I m s₅) E' s₄) E' s₃ else ∃ m, m < n - i ∧ I m s₃) E' s₂) fun _ s1 S1 h1 q1 => by
        cases ifs with
        | nil =>
          rw [← ce] at q1
          exact wpAny_tests_nil (fin1 true S1 s1 E' h1 q1)
        | cons c r =>
          cases r with
          | cons c2 r2 => exact q1.elim
          | nil =>
            have q1' : Tr C' (PySem.isTrue c C'.env (eval c C'.env)) _ S1 := q1
            rw [ce] at q1'
            have w := q1'.go ok' h1 (E := E') (Q' := fun ok s₃ => if ok = true then wpAny (model pg C.w) C.A (eval elt cenv) (fun y s₄ => wpAny (model pg C.w) C.A (call (.builtin "list.append") [.ref D, y]) (fun _ s₅ => ∃ m, m < n - i ∧ I m s₅) E' s₄) E' s₃ else ∃ m, m < n - i ∧ I m s₃) fun ok1 s2 S2 h2 q2 => by
              rw [← ce] at q2
              exact fin1 ok1 S2 s2 E' h2 q2
            rw [e1, e2] at w
            exact wpAny_tests_one w
      rw [e1, e2] at this
      exact this
    rcases htg with ⟨x, p, rfl, hil⟩ | ⟨⟨elts, k, p, rfl⟩, hP, rfl⟩
    · refine codeAny_compLoop_tests I (fun m s hI => ?_) n I0
      obtain ⟨i, ys, led, rfl, hi, hy, j, H⟩ := hI
      rcases Nat.lt_or_ge i n with hlt | hge
      · exact step i ys led s _ hlt hy j H _ fun x s' hx H' tt => tt _
      · exact done i ys led s _ (Nat.le_antisymm hi hge) j H _ fun s' h => h
    · refine LCp.codeAny_compLoop_pair I (fun m s hI => ?_) n I0
      obtain ⟨i, ys, led, rfl, hi, hy, j, H⟩ := hI
      rcases Nat.lt_or_ge i n with hlt | hge
      · refine step i ys led s _ hlt hy j H _ fun x s' hx H' tt => ?_
        obtain ⟨T, rfl⟩ := hP i x hx
        refine W.let' _ _ _ _ _ ok s' H' _ _ _ _ _ _ ?_
        refine wpAny_mono (tt _) (fun _ s2 h2 => ?_) fun _ _ e => e
        exact fun Γ p hΓ => (h2 Γ p hΓ) Γ p hΓ
      · exact done i ys led s _ (Nat.le_antisymm hi hge) j H _ fun s' h => h
  have H6 : Holds C ⟨loc, cel, (it, .pred (K 0)) :: (D, .list []) :: (Cc, .pred IsNsO) :: (own.map (fun p : Str × Addr => (p.2, Ct.pred IsCellO)) ++ led0)⟩ s₅ := by
    refine H₅'.perm ?_
    refine List.perm_append_comm.trans ?_
    show List.Perm ((Cc, Ct.pred IsNsO) :: (D, .list []) :: (it, .pred (K 0)) :: (led0 ++ own.map (fun p : Str × Addr => (p.2, Ct.pred IsCellO)))) _
    refine ((List.Perm.cons _ (List.Perm.swap _ _ _)).trans (List.Perm.swap _ _ _)).trans (List.Perm.cons _ ((List.Perm.swap _ _ _).trans ?_))
    exact List.Perm.cons _ (List.Perm.cons _ List.perm_append_comm)
  exact codeAny_compStart_list (keyI s₅ H6) (W.self 0 _ _ _ _ ok s₅ H6 _ _ (keyI s₅ H6))
end
end Mine
end
section
open PySem PySem.W PySem.Calls PyProof PyProof.Rows PySem.Spec PyProof.V PySem.Builtin.Str
set_option linter.unusedVariables false
namespace Mine

/-- what the turns of a comprehension must do -/
structure CompDo (C : Cx) (elt target : Expr) (ifs : List Expr) (scope : Scope) (ln : List Str) (v : Value) (n : Nat) (P : Nat → Value → Prop) (F : Led → Prop) (J : Nat → List Value → Led → Prop) (S : St) : Prop where
  src : Src C v n P F
  sz : n ≤ sizeLine
  ok : compOk scope ln S.cel = true
  tg : (∃ x p, target = .Name x p ∧ ifs.length ≤ 1) ∨ ((∃ elts k p, target = .Tuple elts k p) ∧ (∀ i x, P i x → ∃ T, x = .ref T) ∧ ifs = [])
  f0 : F S.led
  j0 : J 0 [] S.led
  jf : ∀ i ys led pre, J i ys led → F (pre ++ led)
  turn : ∀ C', CompCx C C' scope → ∀ i ys led own x, i < n → P i x → J i ys led → own.map (·.1) = (cellsFrom 0 scope.names []).map (·.1) →
      Tr C' (assign target C'.env x) (fun _ S1 => Tst C' ifs (fun ok S2 => if ok = true then Tr C' (eval elt C'.env) (fun y S3 => CelBack scope S.cel own S3 ∧ J (i + 1) (ys ++ [y]) S3.led) S2 else CelBack scope S.cel own S2 ∧ J (i + 1) ys S2.led) S1)
        ⟨ln.map fun x => (x, none), own ++ capOf scope S.cel, led⟩

section
variable {C : Cx} {S : St}
theorem comp_clos {scope : Scope} {ln : List Str} {s : Shared} (hok : compOk scope ln S.cel = true) (H : Holds C S s) :
    scope.kind = .function ∧ (∀ x ∈ scope.names, x.2 = .local → scope.names.lookup x.1 = some .local) ∧ ∃ cl, closureFor scope C.env = pure cl ∧ (∀ x, (x, NameKind.free) ∈ scope.names → ∃ c, (x, c) ∈ cl) ∧ ∀ x c, (x, c) ∈ cl → C.env.cells.lookup x = some c ∧ (x, NameKind.free) ∈ scope.names := by
  simp only [compOk, Bool.and_eq_true] at hok
  obtain ⟨⟨⟨⟨⟨⟨k1, k2⟩, k3⟩, k4⟩, k5⟩, k6⟩, k7⟩ := hok
  refine ⟨beq_iff_eq.mp k1, fun p hp hk => ?_, closure_pure fun p hp hk => ?_⟩
  · have := List.all_eq_true.mp k2 _ hp
    rw [hk] at this
    simpa using this
  · have := List.all_eq_true.mp k3 _ hp
    rw [hk] at this
    simp only [bne_self_eq_false, Bool.false_or, Bool.and_eq_true] at this
    have hm : p.1 ∈ S.cel.map (·.1) := List.contains_iff_mem.mp this.1
    obtain ⟨⟨x, c, ov⟩, hx, e⟩ := List.mem_map.mp hm
    have := (H.cels x c ov hx).2
    rw [← e]
    exact Option.isSome_iff_exists.mpr ⟨c, this⟩

theorem comp_end {loc cel D Cc ys own led} {s : Shared} (H : Holds C ⟨loc, cel, (D, .list ys) :: (Cc, .pred IsNsO) :: (own ++ led)⟩ s) :
    ∃ m, s.heap.Ns Cc m ∧ ∀ h', Heap.SameBut Cc s.heap h' → Holds C ⟨loc, cel, (D, .list ys) :: led⟩ { s with heap := h' } := by
  obtain ⟨o, e, m, hm⟩ := H.led Cc _ (List.mem_cons_of_mem _ List.mem_cons_self)
  refine ⟨m, hm.ns e, fun h' hs => ?_⟩
  have H1 := H.perm (l' := (Cc, .pred IsNsO) :: (D, .list ys) :: (own ++ led)) (List.Perm.swap _ _ _)
  have H2 := H1.ext (h' := h') hs.extBut s.toks
  exact H2.sublist ((List.sublist_append_right _ _).cons_cons _)

theorem Tr.listComp {elt target iter : Expr} {ifs : List Expr} {scope : Scope} {pos : Pos} {Q : Value → St → Prop} (ln : List Str) (hck : C.ck = .cell) (hok : compOk scope ln S.cel = true)
    (hi : Tr C (eval iter C.env) (fun v S1 => ∃ n P F J, CompDo C elt target ifs scope ln v n P F J S1 ∧ ∀ D ys led, J n ys led → Q (.ref D) ⟨S1.loc, S1.cel, (D, .list ys) :: led⟩) S)
    (hs : ∀ x, foldedSetIterable iter C.env x = pure x := by intro _; rfl) :
    Tr C (eval (.ListComp elt [⟨target, iter, ifs, 0⟩] scope pos) C.env) Q S := by
  intro ok s H
  obtain ⟨hkind, hnames, cl, hcl, hcl1, hcl2⟩ := comp_clos hok H
  rw [eval_ListComp]
  refine wpAny_comprehension_free (use := none) rfl hs hcl hkind hnames (hi.go ok H fun v s1 S1 h1 q1 => ?_)
  obtain ⟨n, P, F, J, D, fin⟩ := q1
  exact wpAny_mono (comp_core (C := C) (scope := scope) (loc := S1.loc) (cel := S1.cel) (led0 := S1.led) J D.sz D.tg ok hck D.ok hcl hcl2 hcl1 h1 D.src D.f0 D.j0 D.jf D.turn
    (RR := compPost (model pg C.w) C.A (fun _ _ => False) none (fun a s' => ∃ S', Holds C S' s' ∧ Q a S')) fun D' Cc s' ys led own hJ H' => by
      obtain ⟨m, hm, hh⟩ := comp_end H'
      exact ⟨m, hm, fun h' hs => ⟨_, hh h' hs, fin D' ys led hJ⟩⟩) (fun _ _ q => q) fun _ _ e => e

theorem Tr.assignComp {elt target iter : Expr} {ifs : List Expr} {scope : Scope} {pos : Pos} {y : Str} {py : Pos} {spos : Pos} {Q : Flow → St → Prop} (ln : List Str) (hck : C.ck = .cell) (hok : compOk scope ln S.cel = true)
    (hsw : swapsWith (.ListComp elt [⟨target, iter, ifs, 0⟩] scope pos) (some (.Name y py)) spos.line C.env = pure true)
    (hi : Tr C (eval iter C.env) (fun v S1 => ∃ n P F J, CompDo C elt target ifs scope ln v n P F J S1 ∧ ∀ D ys led, J n ys led → ∃ loc', LPut y (.ref D) S1.loc loc' ∧ Q .next ⟨loc', S1.cel, (D, .list ys) :: led⟩) S)
    (hs : ∀ x, foldedSetIterable iter C.env x = pure x := by intro _; rfl) :
    Tr C (exec (.Assign [.Name y py] (.ListComp elt [⟨target, iter, ifs, 0⟩] scope pos) spos) C.env) Q S := by
  intro ok s H
  obtain ⟨hkind, hnames, cl, hcl, hcl1, hcl2⟩ := comp_clos hok H
  rw [exec_Assign_Name_used _ _ _ _ hsw]
  refine wpAny_bind (wpAny_standAt (wpAny_bind ?_))
  show wpAny _ C.A (do let _ ← comprehension (.ListComp elt [⟨target, iter, ifs, 0⟩] scope pos) scope C.env _ (PySem.newList []) false (eval iter C.env) (some (assign (.Name y py) C.env))) _ _ s
  refine wpAny_bind (wpAny_mono (wpAny_comprehension_free (use := some (assign (.Name y py) C.env)) (Q := fun _ s' => ∃ S', Holds C S' s' ∧ Q .next S') rfl hs hcl hkind hnames
    (hi.go ok H fun v s1 S1 h1 q1 => ?_)) (fun _ s' hq => wpAny_pure (wpAny_pure hq)) fun _ _ e => e)
  obtain ⟨n, P, F, J, D, fin⟩ := q1
  exact wpAny_mono (comp_core (C := C) (scope := scope) (loc := S1.loc) (cel := S1.cel) (led0 := S1.led) J D.sz D.tg ok hck D.ok hcl hcl2 hcl1 h1 D.src D.f0 D.j0 D.jf D.turn
    (RR := compPost (model pg C.w) C.A (fun _ _ => False) (some (assign (.Name y py) C.env)) (fun _ s' => ∃ S', Holds C S' s' ∧ Q .next S')) fun D' Cc s' ys led own hJ H' => by
      obtain ⟨loc', hp, hq⟩ := fin D' ys led hJ
      refine wpAny_assign_Name ((Tr.storeL (C := C) (Q := fun _ S => S = ⟨loc', S1.cel, _⟩) hp rfl).go ok H' fun _ s2 S2 h2 e2 => ?_)
      subst e2
      obtain ⟨m, hm, hh⟩ := comp_end h2
      exact ⟨m, hm, fun h' hs => ⟨_, hh h' hs, hq⟩⟩) (fun _ _ q => q) fun _ _ e => e
end
end Mine
end
section
open PySem PySem.W PySem.Calls PyProof PyProof.Rows PySem.Spec PyProof.V PySem.Builtin.Str

set_option linter.unusedVariables false
namespace Mine
/-- some parameters -/
def somePar : Params := { strHash := fun _ => 0, shareClass := fun _ => 0, mergeTok := fun t => t, idOf := fun _ => 0, idOfShared := fun _ _ => 0, followText := fun _ => true, idOfImm := fun _ => 0 }
/-- an object of the head -/
noncomputable def objAt (n : Addr) : Obj := match (hd.heap_39 somePar).lookup n with
  | some o => o
  | none => default
/-- a def of the head -/
noncomputable def fdAt (n : Addr) : FuncData := match (objAt n).data with
  | .func fd => fd
  | _ => default
def lnOf (fd : FuncData) : List Str := (fd.scope.names.filter fun p => p.2 == NameKind.local).map (·.1)
def glOf (fd : FuncData) : List Str := (fd.scope.names.filter fun p => p.2 == NameKind.globalImplicit).map (·.1)
def stmtsOf (fd : FuncData) : List Stmt := match fd.body with
  | .stmts b => b
  | _ => []
theorem Tr.startN {α : Type} {C : Cx} {t : Sem α} {Q : α → St → Prop} {ln : List Str} {binds : List (Str × Value)} {scope : Scope} {L : Addr} {loc : List (Str × Option Value)} {cel : List (Str × Addr × Option Value)} {led : Led} (h1 : startLoc ln binds = loc) (h2 : startCel scope L binds = cel)
    (h : Tr C t Q ⟨loc, cel, led⟩) : Tr C t Q ⟨startLoc ln binds, startCel scope L binds, led⟩ := by subst h1 h2; exact h
theorem scopeLit {s : Scope} {k : ScopeKind} {n : List (Str × NameKind)} {g c : Bool} {m : List (Str × Const)} (h : s = { kind := k, names := n, isGenerator := g, isCoroutine := c, more := m }) : s = { kind := k, names := n, isGenerator := g, isCoroutine := c, more := m } := h
/-- what a block takes from outside, place by place -/
inductive CapR (scope : Scope) : List (Str × Addr × Option Value) → List (Str × Addr × Option Value) → Prop
  | nil : CapR scope [] []
  | keep {p r r'} (h : (scope.names.lookup p.1 == some NameKind.free) = true) (t : CapR scope r r') : CapR scope (p :: r) (p :: r')
  | drop {p r r'} (h : (scope.names.lookup p.1 == some NameKind.free) = false) (t : CapR scope r r') : CapR scope (p :: r) r'
theorem CapR.eq {scope : Scope} {cel cel' : List (Str × Addr × Option Value)} (h : CapR scope cel cel') : capOf scope cel = cel' := by
  unfold capOf
  induction h with
  | nil => rfl
  | keep h _ ih => rw [List.filter_cons, if_pos h, ih]
  | drop h _ ih => rw [List.filter_cons, if_neg (by rw [h]; decide), ih]
end Mine
namespace Mine
section
variable {C : Cx} {S : St}
theorem Tr.strT {x : Str} {k : Nat} {pos : Pos} {Q : Value → St → Prop} (l : List Nat) (e : x = tx l) (h : ∀ t, Q (.str (tx l) t) S) : Tr C (eval (.Constant (.str x) k pos) C.env) Q S := Tr.str fun t => e ▸ h t
theorem tr_ite {p : Prop} [Decidable p] {A B : Prop} (h1 : p → A) (h2 : ¬p → B) : if decide p = true then A else B := by
  by_cases h : p
  · rw [if_pos (decide_eq_true h)]; exact h1 h
  · rw [if_neg (by simp [h])]; exact h2 h
theorem tr_iteN {p : Prop} [Decidable p] {A B : Prop} (h1 : ¬p → A) (h2 : p → B) : if (!decide p) = true then A else B := by
  by_cases h : p
  · rw [if_neg (by simp [h])]; exact h2 h
  · rw [if_pos (by simp [h])]; exact h1 h
theorem tr_iteT {A B : Prop} (h : A) : if true = true then A else B := by rw [if_pos rfl]; exact h
theorem tr_iteF {A B : Prop} (h : B) : if false = true then A else B := by rw [if_neg (by decide)]; exact h
theorem tr_iteB {b : Bool} {A B : Prop} (h1 : b = true → A) (h2 : b = false → B) : if b = true then A else B := by
  cases b
  · exact tr_iteF (h2 rfl)
  · exact tr_iteT (h1 rfl)
theorem Tr.aName {x : Str} {pos : Pos} {v : Value} {Q : Unit → St → Prop} (h : Tr C (storeName C.env x v) Q S) : Tr C (assign (.Name x pos) C.env v) Q S :=
  fun ok s H => wpAny_assign_Name (h ok s H)
end

section
variable {C : Cx} {S : St}
theorem Then_next {rest : List Stmt} {Q : Flow → St → Prop} (h : Tr C (execs rest C.env) Q S) : Then C rest Q .next S := h
theorem Then_ret {rest : List Stmt} {v : Value} {Q : Flow → St → Prop} (h : Q (.ret v) S) : Then C rest Q (.ret v) S := h
theorem Then_brk {rest : List Stmt} {Q : Flow → St → Prop} (h : Q .brk S) : Then C rest Q .brk S := h
theorem Then_cont {rest : List Stmt} {Q : Flow → St → Prop} (h : Q .cont S) : Then C rest Q .cont S := h
theorem Tst_nil {Q : Bool → St → Prop} (h : Q true S) : Tst C [] Q S := h
theorem Tst_one {c : PySem.Expr} {Q : Bool → St → Prop} (h : Tr C (PySem.isTrue c C.env (eval c C.env)) Q S) : Tst C [c] Q S := h
end

theorem sizeLine_eq : sizeLine = 16777216 := by decide
theorem Tr.cutV {α : Type} {C : Cx} {S : St} {t : Sem α} {Q : α → St → Prop} (R : α → Prop) (h1 : Tr C t (fun v S1 => R v ∧ S1 = S) S) (h2 : ∀ v, R v → Q v S) : Tr C t Q S :=
  h1.mono fun v S1 ⟨r, e⟩ => e ▸ h2 v r
end Mine
end
section
open PySem PySem.W PySem.Calls PyProof PyProof.Rows PySem.Spec PyProof.V PySem.Builtin.Str
set_option linter.unusedVariables false
namespace Mine

section
variable {C : Cx} {S : St}
theorem swapped_scope {ts : List Expr} {v : Expr} {e e' : Env} (h : e.scope = e'.scope) : swappedStores ts v e = swappedStores ts v e' := by
  have hk : e.kindOf = e'.kindOf := by funext x; unfold Env.kindOf; rw [h]
  have hb : e.blockKind = e'.blockKind := by unfold Env.blockKind; rw [h]
  unfold swappedStores
  rw [hk, hb]
def envOf (s : Scope) : Env := { (default : Env) with scope := s }

theorem Holds.extNew {loc cel} {led : Led} {s : Shared} (ok : C.Ok) (H : Holds C ⟨loc, cel, led⟩ s) {h' : Heap} (hx : Heap.ExtBut s.heap.objs.size s.heap h') (tk : Nat) : Holds C ⟨loc, cel, led⟩ { s with heap := h', toks := tk } := by
  have H2 := H.push ok (o := { cls := .type "list", data := .seq ([] : List Value).toArray }) rfl (.pred fun _ => True) trivial s.toks
  refine H2.ext (h' := h') (fun b o hb e => hx b o hb ?_) tk
  rcases Heap.get?_push_cases e with h | h
  · exact absurd h.1 hb
  · exact h

theorem Tr.addS {a b : List Nat} {t u : Tok} {Q : Value → St → Prop} (hz : a.length + b.length ≤ sizeLine) (h : ∀ t, Q (.str (tx (a ++ b)) t) S) : Tr C (binaryOp .Add (.str (tx a) t) (.str (tx b) u)) Q S :=
  fun _ _ H => PyProof.Rows.add_str (fun t' tk => ⟨S, H.toks _, by rw [tx_add]; exact h t'⟩) (by rw [tx_len, tx_len]; exact hz)
theorem Tr.bindN {x : Str} {v : Value} {Q : Unit → St → Prop} (h : Tr C (storeName C.env x v) Q S) : Tr C (bindName C.env x v) Q S := by
  intro ok s H
  unfold bindName
  refine wpAny_bind (wpAny_holding (wpAny_point ?_))
  refine wpAny_bind (h.go ok H fun _ s1 S1 h1 q1 => wpAny_point ⟨S1, h1, q1⟩)
theorem Tr.aio_nil {xs : List Value} {Q : Unit → St → Prop} (h : Q () S) : Tr C (assignInOrder [] xs) Q S := fun _ _ H => wpAny_pure ⟨S, H, h⟩
theorem Tr.aio_cons {t : Value → Sem Unit} {ts : List (Value → Sem Unit)} {x : Value} {xs : List Value} {Q : Unit → St → Prop} (h : Tr C (t x) (fun _ S1 => Tr C (assignInOrder ts xs) Q S1) S) : Tr C (assignInOrder (t :: ts) (x :: xs)) Q S :=
  fun ok s H => wpAny_bind (wpAny_holding (h.go ok H fun _ s1 S1 h1 q1 => q1 ok s1 h1))
def TAt (C : Cx) (S : St) (a : Addr) (vs : List Value) : Prop := (a, Ct.tup vs) ∈ S.led ∨ C.h₀.IsTuple a vs.toArray
theorem TAt.is {s : Shared} {a : Addr} {vs : List Value} (x : TAt C S a vs) (H : Holds C S s) : s.heap.IsTuple a vs.toArray := by
  rcases x with h | h
  · exact H.led _ _ h
  · obtain ⟨o, e, r⟩ := h
    exact ⟨o, H.keep _ _ e, r⟩
theorem Tr.aTup {elts : List Expr} {k : Nat} {pos : Pos} {T : Addr} {vs : List Value} {Q : Unit → St → Prop} (hT : TAt C S T vs) (h : Tr C (assignInOrder ((assignEach elts C.env).map (·.2)) vs) Q S)
    (hn : (assignEach elts C.env).length = vs.length := by rfl) (hst : (assignEach elts C.env).findIdx? (·.1) = none := by rfl) : Tr C (assign (.Tuple elts k pos) C.env (.ref T)) Q S := by
  intro ok s H
  refine wpAny_assign_Tuple ok.hd (hT.is H) (by rw [hn]; simp) hst fun h' hx => ?_
  obtain ⟨loc, cel, led⟩ := S
  exact h ok _ (H.extNew ok hx s.toks)
theorem Tr.assignT {elts : List Expr} {k : Nat} {p : Pos} {value : Expr} {pos : Pos} {Q : Flow → St → Prop} {sc : Scope} (hsc : C.env.scope = sc)
    (h : Tr C (eval value C.env) (fun v S1 => Tr C (assign (.Tuple elts k p) C.env v) (fun _ S2 => Q .next S2) S1) S)
    (hw : swappedStores [.Tuple elts k p] value (envOf sc) = pure none := by rfl) (hs : swapsWithSole [.Tuple elts k p] value pos.line C.env = pure false := by rfl) : Tr C (exec (.Assign [.Tuple elts k p] value pos) C.env) Q S := by
  intro ok s H
  refine wpAny_Assign_stores (h.go ok H fun v s1 S1 h1 q1 => ?_) hs (by rw [swapped_scope (e' := envOf sc) hsc]; exact hw)
  show wpAny _ _ (assign (.Tuple elts k p) C.env v) _ _ _
  exact q1.go ok h1 fun _ s2 S2 h2 q2 => ⟨S2, h2, q2⟩
theorem Tr.assignSw {elts : List Expr} {k : Nat} {p : Pos} {value : Expr} {pos : Pos} {Q : Flow → St → Prop} {sc : Scope} {names : List Str} (hsc : C.env.scope = sc)
    (h : Tr C (eval value C.env) (fun v S1 => ∃ T vs, v = .ref T ∧ TAt C S1 T vs ∧ names.length = vs.length ∧ Tr C (assignInOrder (names.reverse.map fun n => bindName C.env n) vs.reverse) (fun _ S2 => Q .next S2) S1) S)
    (hw : swappedStores [.Tuple elts k p] value (envOf sc) = pure (some names) := by rfl) (hs : swapsWithSole [.Tuple elts k p] value pos.line C.env = pure false := by rfl) : Tr C (exec (.Assign [.Tuple elts k p] value pos) C.env) Q S := by
  intro ok s H
  rw [exec_Assign_arm]
  refine wpAny_bind (wpAny_standAt ?_)
  rw [hs]
  refine wpAny_bind (wpAny_pure ?_)
  rw [if_neg (by decide)]
  refine wpAny_bind (h.go ok H fun v s1 S1 h1 q1 => ?_)
  obtain ⟨T, vs, rfl, hT, hl, q⟩ := q1
  rw [swapped_scope (e' := envOf sc) hsc, hw]
  refine wpAny_bind (wpAny_pure ?_)
  show wpAny _ _ (do rule "assign.swapped-stores"; let items ← unpackItems (.ref T) names.length none; assignInOrder (names.reverse.map fun n => bindName C.env n) items.reverse; pure Flow.next) _ _ _
  refine wpAny_bind (wpAny_rule (wpAny_bind ?_))
  rw [hl, show vs.length = vs.toArray.size by simp]
  refine wpAny_unpackItems_tuple ok.hd (hT.is h1) fun h' hx => ?_
  obtain ⟨loc, cel, led⟩ := S1
  refine wpAny_bind (q.go ok (h1.extNew ok hx s1.toks) fun _ s2 S2 h2 q2 => wpAny_pure ⟨S2, h2, q2⟩)
end
end Mine
end
section
open PySem PySem.W PySem.Calls PyProof PyProof.Rows PySem.Spec PyProof.V PySem.Builtin.Str
set_option linter.unusedVariables false
namespace Mine

def Txs (vs : List Value) (xs : List (List Nat)) : Prop := StrsAre vs (xs.map tx)
def Lts (vs : List Value) (cs : List Nat) : Prop := Txs vs (cs.map fun c => [c])
theorem Txs.nil : Txs [] [] := by unfold Txs; first | exact trivial | constructor
theorem any_tx (xs : List (List Nat)) (l : List Nat) : (xs.map tx).any (· == tx l) = decide (l ∈ xs) := by
  induction xs with
  | nil => simp
  | cons a r ih =>
    rw [List.map_cons, List.any_cons, ih, tx_beq]
    by_cases h : a = l
    · subst h; simp
    · have : ¬ l = a := fun e => h e.symm
      simp [h, this]
theorem swaps_scope {v : Expr} {tg : Option Expr} {n : Nat} {e e' : Env} (h : e.scope = e'.scope) : swapsWith v tg n e = swapsWith v tg n e' := by
  have hk : e.kindOf = e'.kindOf := by funext x; unfold Env.kindOf; rw [h]
  have hb : e.blockKind = e'.blockKind := by unfold Env.blockKind; rw [h]
  unfold swapsWith
  rw [hk, hb, h]
theorem lt_one (a b : Nat) : decide ([a] < [b]) = decide (a < b) := by
  rw [decide_eq_decide, List.cons_lt_cons_iff]
  exact ⟨fun h => h.elim id fun h => absurd h.2 (List.not_lt_nil _), .inl⟩
theorem one_lt {a b : Nat} : ([a] < [b]) ↔ a < b := decide_eq_decide.mp (lt_one a b)
section
variable {C : Cx} {S : St}
theorem Tr.inL {a : Addr} {vs : List Value} {xs : List (List Nat)} {l : List Nat} {t : Tok} {Q : Value → St → Prop} (L : LAt C S a vs) (hx : Txs vs xs) (h : Q (.bool (decide (l ∈ xs))) S) : Tr C (compareOp .In (.str (tx l) t) (.ref a)) Q S :=
  fun ok s H => in_list_strs (L.is H) hx ⟨S, H, by rw [any_tx]; exact h⟩
theorem Tr.notinL {a : Addr} {vs : List Value} {xs : List (List Nat)} {l : List Nat} {t : Tok} {Q : Value → St → Prop} (L : LAt C S a vs) (hx : Txs vs xs) (h : Q (.bool (!decide (l ∈ xs))) S) : Tr C (compareOp .NotIn (.str (tx l) t) (.ref a)) Q S :=
  fun ok s H => notin_list_strs (L.is H) hx ⟨S, H, by rw [any_tx]; exact h⟩
end
end Mine
namespace Mine
theorem decide_le_not (a b : Nat) : (!decide (b < a)) = decide (a ≤ b) := by
  rw [← decide_not]; exact decide_eq_decide.mpr Nat.not_lt
end Mine
end
section
open PySem PySem.W PySem.Calls PyProof PyProof.Rows PySem.Spec PyProof.V PySem.Builtin.Str
set_option linter.unusedVariables false
namespace Mine
theorem Lts.snoc {vs : List Value} {cs : List Nat} (h : Lts vs cs) (c : Nat) (t : Tok) : Lts (vs ++ [.str (tx [c]) t]) (cs ++ [c]) := by
  unfold Lts Txs at *
  rw [List.map_append, List.map_append]
  exact strsAre_append h (.cons _ _ .nil)
theorem own_nil {own : List (Str × Addr × Option Value)} (h : own.map (·.1) = []) : own = [] := List.map_eq_nil_iff.mp h
section
variable {C : Cx}
/-- the letters that pass a test -/
theorem Tr.filterS {x : Str} {p1 p2 pos : Pos} {iter c : Expr} {scope : Scope} {loc cel} {led : Led} {Q : Value → St → Prop} (l : List Nat) (p : Nat → Bool) (hl : ∀ c ∈ l, c < 128) (hsz : l.length ≤ sizeLine) (hck : C.ck = .cell)
    (hok : compOk scope [x] cel = true) (hown : (cellsFrom 0 scope.names []).map (·.1) = []) (hdb : (x == ("__debug__" : Str)) = false := by decide)
    (hi : Tr C (eval iter C.env) (fun v S1 => (∃ t, v = .str (tx l) t) ∧ S1 = ⟨loc, cel, led⟩) ⟨loc, cel, led⟩)
    (ht : ∀ C', CompCx C C' scope → ∀ d t, d ∈ l → Tr C' (PySem.isTrue c C'.env (eval c C'.env)) (fun b S2 => b = p d ∧ S2 = ⟨[(x, some (.str (tx [d]) t))], capOf scope cel, led⟩) ⟨[(x, some (.str (tx [d]) t))], capOf scope cel, led⟩)
    (h : ∀ D ys, Lts ys (l.filter p) → Q (.ref D) ⟨loc, cel, (D, .list ys) :: led⟩)
    (hs : ∀ x, foldedSetIterable iter C.env x = pure x := by intro _; rfl) :
    Tr C (eval (.ListComp (.Name x p1) [⟨.Name x p2, iter, [c], 0⟩] scope pos) C.env) Q ⟨loc, cel, led⟩ := by
  refine Tr.listComp [x] hck hok (hi.mono fun v S1 hv => ?_) hs
  obtain ⟨⟨t, rfl⟩, rfl⟩ := hv
  refine ⟨l.length, _, _, fun i ys led' => led' = led ∧ Lts ys ((l.take i).filter p), ⟨src_str hl, hsz, hok, .inl ⟨_, _, rfl, Nat.le_refl _⟩, trivial, ⟨rfl, Txs.nil⟩, fun _ _ _ _ _ => trivial, ?_⟩, fun D ys led' hJ => ?_⟩
  · intro C' cx i ys led' own v hin hP hJ ho
    rw [hown] at ho
    rw [own_nil ho]
    obtain ⟨d, u, hd, rfl⟩ := hP
    obtain ⟨rfl, hy⟩ := hJ
    refine Tr.aName (Tr.storeL .head ?_)
    show Tr C' _ _ _
    refine (ht C' cx d u (List.mem_of_getElem? hd)).mono fun b S2 hb => ?_
    obtain ⟨rfl, rfl⟩ := hb
    have e := take_succ_filter p l i d hd
    cases hp : p d with
    | true =>
      rw [if_pos rfl]
      refine Tr.nameL (List.Mem.head _) ⟨⟨[], rfl, rfl⟩, rfl, ?_⟩ hdb
      rw [e, hp]
      exact hy.snoc d u
    | false =>
      rw [if_neg (by decide)]
      refine ⟨⟨[], rfl, rfl⟩, rfl, ?_⟩
      rw [e, hp]
      simpa using hy
  · obtain ⟨rfl, hy⟩ := hJ
    rw [List.take_length] at hy
    exact h D ys hy
end
end Mine
end
section
open PySem PySem.W PySem.Calls PyProof PyProof.Rows PySem.Spec PyProof.V PySem.Builtin.Str
set_option linter.unusedVariables false
namespace Mine
noncomputable def item.fd : FuncData := fdAt 78
noncomputable def item.ln : List Str := lnOf item.fd
noncomputable def item.gl : List Str := glOf item.fd
theorem item_at : FnAt 78 item.fd := ⟨fun _ => ⟨_, _, _, rfl⟩, fun _ => rfl, rfl, rfl, rfl, rfl, rfl, rfl⟩

abbrev ab : List Nat := [97, 98, 99, 100]
def let4 (n : Int) : Nat := 97 + (n.fmod 4).toNat
structure Item where
  text : List Nat
  means : List Nat
  part : Option (List Nat)
def itLo (x : Int) : Nat := let4 (x.fdiv 9)
def itHi (x : Int) : Nat := let4 (x.fdiv 36)
def itMore (x : Int) : List Nat := if (x.fmod 9).fmod 2 = 1 then [let4 (x.fdiv 144)] else []
def itMeans (x : Int) (c : Nat) : Bool := (decide (itLo x ≤ c) && decide (c ≤ itHi x)) || decide ([c] = itMore x)
def itLeft (x : Int) : List Nat := (if itLo x ≤ itHi x then [itLo x, 45, itHi x] else []) ++ itMore x
def itemOf (x : Int) : Item :=
  if x.fmod 9 < 3 then (if x.fmod 9 = 2 then ⟨[63], ab, some [46]⟩ else ⟨[itLo x], [itLo x], some [itLo x]⟩)
  else if x.fmod 9 = 8 then ⟨[42], [], none⟩
  else if 5 < x.fmod 9 then ⟨[91, 33] ++ [itLo x] ++ [45] ++ [itHi x] ++ itMore x ++ [93], ab.filter fun c => !itMeans x c, some (if itLeft x ≠ [] then [91, 94] ++ itLeft x ++ [93] else [46])⟩
  else ⟨[91] ++ [itLo x] ++ [45] ++ [itHi x] ++ itMore x ++ [93], ab.filter (itMeans x), some (if itLeft x ≠ [] then [91] ++ itLeft x ++ [93] else [40, 63, 33, 41])⟩
def MeansAt (led : Led) (m : List Nat) (v : Value) : Prop := (∃ t, v = .str (tx m) t) ∨ ∃ b vs, v = .ref b ∧ (b, Ct.list vs) ∈ led ∧ Lts vs m
def PartAt (led : Led) (p : Option (List Nat)) (v : Value) : Prop := match p with
  | some l => ∃ t, v = .str (tx l) t
  | none => ∃ b t, v = .ref b ∧ (b, Ct.list [.str (tx [42]) t]) ∈ led
def ItemAt (led : Led) (it : Item) (v : Value) : Prop := ∃ a tt mv pv, v = .ref a ∧ (a, Ct.list [.str (tx it.text) tt, mv, pv]) ∈ led ∧ MeansAt led it.means mv ∧ PartAt led it.part pv

section
variable {C : Cx} {S : St}
theorem Tr.abcd {n : Int} {t u : Tok} {value slice : Expr} {Q : Value → St → Prop} (h : ∀ t, Q (.str (tx [let4 n]) t) S) (hs : ∀ k, subscripted slice false (.str (tx [97, 98, 99, 100]) t) (.int k u) = operate [.str (tx [97, 98, 99, 100]) t, .int k u] (getItem (.str (tx [97, 98, 99, 100]) t) (.int k u)) := by intro _; rfl) (ht : ∀ r, letTemporaryGo value (.str (tx [97, 98, 99, 100]) t) r = pure () := by intro _; rfl) :
    Tr C (subscriptTail value slice (.str (tx [97, 98, 99, 100]) t) (.int (n.fmod 4) u)) Q S := by
  have h0 := Int.fmod_nonneg_of_pos n (b := 4) (by omega)
  have h1 := Int.fmod_lt_of_pos n (b := 4) (by omega)
  refine Tr.itemStr (by show -(4 : Int) ≤ _; omega) ⟨by omega, by omega⟩ (c := let4 n) ?_ h (hs _) ht
  rw [if_neg (by omega)]
  unfold let4
  generalize n.fmod 4 = k at h0 h1
  have : k = 0 ∨ k = 1 ∨ k = 2 ∨ k = 3 := by omega
  rcases this with rfl | rfl | rfl | rfl <;> rfl
end

theorem item_spec {w : World} {s : Shared} (P : Pre w [] s) (x : Int) (t : Tok) : Spec w [] 2 (.ref 78) [.int x t] [] (fun v new => ItemAt new (itemOf x) v) s := by
  refine Spec.enter (ml := []) (binds := [(Str.ofString "x", .int x t)]) (ln := item.ln) (gl := item.gl) (by assumption) rfl (fun a c h => nomatch h) List.nodup_nil item_at rfl (fun s _ => BindsTo.of_eq rfl) (by simp only [List.map_cons, List.map_nil]; decide +kernel) (by kernel_rfl) (by decide +kernel) (by decide +kernel) (by decide +kernel) (by decide +kernel) (by decide +kernel) ?_
  intro C L hw h0 hd hck G hin hco hq hsc hce
  replace hsc := scopeLit hsc
  refine Tr.startN (loc := [(Str.ofString "x", some (Value.int x t)), (Str.ofString "kind", none), (Str.ofString "left", none)]) (cel := [(Str.ofString "means", L + 1 + 1 + 1 + 1, none), (Str.ofString "more", L + 1 + 1 + 1, none), (Str.ofString "high", L + 1 + 1, none), (Str.ofString "low", L + 1, none)]) (by kernel_rfl) (by kernel_rfl) ?_
  refine Tr.execs_cons ?_
  refine Mine.Tr.assignT (by assumption) ?_
  refine Tr.tuple ?_
  refine Tr.spl_cons ?_
  refine Tr.binop ?_
  refine Tr.nameL (List.Mem.head _) ?_
  refine Tr.int ?_
  intro _
  refine Tr.modI (by decide) ?_
  intro _
  refine Tr.spl_cons ?_
  refine Tr.subscr ?_
  refine Tr.strT ([97, 98, 99, 100] : List Nat) (by decide +kernel) ?_
  intro _
  refine Tr.binop ?_
  refine Tr.binop ?_
  refine Tr.nameL (List.Mem.head _) ?_
  refine Tr.int ?_
  intro _
  refine Tr.divI (by decide) (by rfl) ?_
  intro _
  refine Tr.int ?_
  intro _
  refine Tr.modI (by decide) ?_
  intro _
  refine Tr.abcd ?_
  intro _
  refine Tr.spl_cons ?_
  refine Tr.subscr ?_
  refine Tr.strT ([97, 98, 99, 100] : List Nat) (by decide +kernel) ?_
  intro _
  refine Tr.binop ?_
  refine Tr.binop ?_
  refine Tr.nameL (List.Mem.head _) ?_
  refine Tr.int ?_
  intro _
  refine Tr.divI (by decide) (by rfl) ?_
  intro _
  refine Tr.int ?_
  intro _
  refine Tr.modI (by decide) ?_
  intro _
  refine Tr.abcd ?_
  intro _
  refine Tr.spl_nil ?_
  refine Tr.newTuple (by first | decide | (simp only [List.length_cons, List.length_nil]; decide)) ?_
  intro _
  refine Mine.Tr.aTup (.inl (List.Mem.head _)) ?_
  refine Mine.Tr.aio_cons ?_
  refine Tr.aName ?_
  refine Tr.storeL (.tail .head) ?_
  refine Mine.Tr.aio_cons ?_
  refine Tr.aName ?_
  refine Tr.storeC (.tail (.tail (.tail .head))) (by assumption) ?_
  refine Mine.Tr.aio_cons ?_
  refine Tr.aName ?_
  refine Tr.storeC (.tail (.tail .head)) (by assumption) ?_
  refine Mine.Tr.aio_nil ?_
  refine Then_next ?_
  refine Tr.execs_cons ?_
  refine Tr.assignN (Tr.cutV (fun v => ∃ t, v = .str (tx (itMore x)) t) ?_ ?_)
  · refine Tr.ifE ?_
    refine Tr.isCmp1 ?_
    refine Tr.binop ?_
    refine Tr.nameL (List.Mem.tail _ (List.Mem.head _)) ?_
    refine Tr.int ?_
    intro _
    refine Tr.modI (by decide) ?_
    intro _
    refine Tr.int ?_
    intro _
    refine Mine.Tr.eqI ?_
    refine ⟨_, rfl, ?_⟩
    refine tr_ite (fun h => ?_) (fun h => ?_)
    · refine Tr.subscr ?_
      refine Tr.strT ([97, 98, 99, 100] : List Nat) (by decide +kernel) ?_
      intro _
      refine Tr.binop ?_
      refine Tr.binop ?_
      refine Tr.nameL (List.Mem.head _) ?_
      refine Tr.int ?_
      intro _
      refine Tr.divI (by decide) (by rfl) ?_
      intro _
      refine Tr.int ?_
      intro _
      refine Tr.modI (by decide) ?_
      intro _
      refine Tr.abcd ?_
      intro _
      exact ⟨⟨_, by unfold itMore; rw [if_pos h]⟩, rfl⟩
    · refine Tr.strT ([] : List Nat) (by decide +kernel) ?_
      intro _
      exact ⟨⟨_, by unfold itMore; rw [if_neg h]⟩, rfl⟩
  rintro v ⟨t, rfl⟩
  refine Tr.storeC (.tail .head) (by assumption) ?_
  refine Then_next ?_
  refine Tr.execs_cons ?_
  refine Tr.ifS ?_
  refine Tr.isCmp1 ?_
  refine Tr.nameL (List.Mem.tail _ (List.Mem.head _)) ?_
  refine Tr.int ?_
  intro _
  refine Mine.Tr.ltI ?_
  refine ⟨_, rfl, ?_⟩
  refine tr_ite (fun h3 => ?_) (fun h3 => ?_)
  · refine Tr.execs_cons ?_
    refine Tr.ret ?_
    refine Tr.ifE ?_
    refine Tr.isCmp1 ?_
    refine Tr.nameL (List.Mem.tail _ (List.Mem.head _)) ?_
    refine Tr.int ?_
    intro _
    refine Mine.Tr.eqI ?_
    refine ⟨_, rfl, ?_⟩
    refine tr_ite (fun h2 => ?_) (fun h2 => ?_)
    · refine Tr.list ?_
      refine Tr.spl_cons ?_
      refine Tr.strT ([63] : List Nat) (by decide +kernel) ?_
      intro _
      refine Tr.spl_cons ?_
      refine Tr.strT ([97, 98, 99, 100] : List Nat) (by decide +kernel) ?_
      intro _
      refine Tr.spl_cons ?_
      refine Tr.strT ([46] : List Nat) (by decide +kernel) ?_
      intro _
      refine Tr.spl_nil ?_
      refine Tr.newList (by first | decide | (simp only [List.length_cons, List.length_nil]; decide)) ?_
      intro _
      refine Then_ret ?_
      refine Then_ret ?_
      rw [show itemOf x = ⟨[63], ab, some [46]⟩ by unfold itemOf; rw [if_pos h3, if_pos h2]]
      exact ⟨_, _, _, _, rfl, List.Mem.head _, .inl ⟨_, rfl⟩, ⟨_, rfl⟩⟩
    · refine Tr.list ?_
      refine Tr.spl_cons ?_
      refine Tr.nameC (List.Mem.tail _ (List.Mem.tail _ (List.Mem.tail _ (List.Mem.head _)))) ?_
      refine Tr.spl_cons ?_
      refine Tr.nameC (List.Mem.tail _ (List.Mem.tail _ (List.Mem.tail _ (List.Mem.head _)))) ?_
      refine Tr.spl_cons ?_
      refine Tr.nameC (List.Mem.tail _ (List.Mem.tail _ (List.Mem.tail _ (List.Mem.head _)))) ?_
      refine Tr.spl_nil ?_
      refine Tr.newList (by first | decide | (simp only [List.length_cons, List.length_nil]; decide)) ?_
      intro _
      refine Then_ret ?_
      refine Then_ret ?_
      rw [show itemOf x = ⟨[itLo x], [itLo x], some [itLo x]⟩ by unfold itemOf; rw [if_pos h3, if_neg h2]]
      exact ⟨_, _, _, _, rfl, List.Mem.head _, .inl ⟨_, rfl⟩, ⟨_, rfl⟩⟩
  refine Tr.execs_nil ?_
  refine Then_next ?_
  refine Tr.execs_cons ?_
  refine Tr.ifS ?_
  refine Tr.isCmp1 ?_
  refine Tr.nameL (List.Mem.tail _ (List.Mem.head _)) ?_
  refine Tr.int ?_
  intro _
  refine Mine.Tr.eqI ?_
  refine ⟨_, rfl, ?_⟩
  refine tr_ite (fun h8 => ?_) (fun h8 => ?_)
  · refine Tr.execs_cons ?_
    refine Tr.ret ?_
    refine Tr.list ?_
    refine Tr.spl_cons ?_
    refine Tr.strT ([42] : List Nat) (by decide +kernel) ?_
    intro _
    refine Tr.spl_cons ?_
    refine Tr.strT ([] : List Nat) (by decide +kernel) ?_
    intro _
    refine Tr.spl_cons ?_
    refine Tr.list ?_
    refine Tr.spl_cons ?_
    refine Tr.strT ([42] : List Nat) (by decide +kernel) ?_
    intro _
    refine Tr.spl_nil ?_
    refine Tr.newList (by first | decide | (simp only [List.length_cons, List.length_nil]; decide)) ?_
    intro _
    refine Tr.spl_nil ?_
    refine Tr.newList (by first | decide | (simp only [List.length_cons, List.length_nil]; decide)) ?_
    intro _
    refine Then_ret ?_
    refine Then_ret ?_
    rw [show itemOf x = ⟨[42], [], none⟩ by unfold itemOf; rw [if_neg h3, if_pos h8]]
    exact ⟨_, _, _, _, rfl, List.Mem.head _, .inl ⟨_, rfl⟩, ⟨_, _, rfl, .tail _ (.head _)⟩⟩
  refine Tr.execs_nil ?_
  refine Then_next ?_
  refine Tr.execs_cons ?_
  refine Tr.assignN ?_ (by rw [swaps_scope (e' := envOf _) hsc]; rfl)
  refine Tr.filterS ab (itMeans x) (by decide) (by decide) hck (by kernel_rfl) (by kernel_rfl) (by decide +kernel) ?_ ?_ ?_
  · refine Tr.strT ([97, 98, 99, 100] : List Nat) (by decide +kernel) ?_
    intro _
    exact ⟨⟨_, rfl⟩, rfl⟩
  · intro C' cx d t' hd'
    generalize hcap9 : capOf _ _ = cel9
    have ecap9 := Eq.trans (Eq.symm hcap9) (CapR.eq (.drop (by kernel_rfl) (.keep (by kernel_rfl) (.keep (by kernel_rfl) (.keep (by kernel_rfl) (.nil))))))
    clear hcap9
    subst ecap9
    refine Tr.isBool ?_
    refine Tr.or_cons ?_
    refine Tr.isCmp2 ?_
    refine Tr.nameC (List.Mem.tail _ (List.Mem.tail _ (List.Mem.head _))) ?_
    refine Tr.nameL (List.Mem.head _) ?_
    refine Mine.Tr.leS ?_
    refine ⟨_, rfl, ?_⟩
    refine tr_iteN (fun h1 => ?_) (fun h1 => ?_)
    · have l1 : itLo x ≤ d := Nat.not_lt.mp fun h => h1 (one_lt.mpr h)
      refine Tr.nameC (List.Mem.tail _ (List.Mem.head _)) ?_
      refine Mine.Tr.leS ?_
      refine ⟨_, rfl, ?_⟩
      refine tr_iteN (fun h2 => ?_) (fun h2 => ?_)
      · have l2 : d ≤ itHi x := Nat.not_lt.mp fun h => h2 (one_lt.mpr h)
        exact ⟨by simp [itMeans, l1, l2], rfl⟩
      · have l2 : ¬ d ≤ itHi x := Nat.not_le.mpr (one_lt.mp h2)
        refine Tr.or_cons ?_
        refine Tr.isCmp1 ?_
        refine Tr.nameL (List.Mem.head _) ?_
        refine Tr.nameC (List.Mem.head _) ?_
        refine Mine.Tr.eqS ?_
        refine ⟨_, rfl, ?_⟩
        refine tr_ite (fun h5 => ?_) (fun h5 => ?_)
        · exact ⟨by simp [itMeans, h5], rfl⟩
        · refine Tr.or_nil ?_
          exact ⟨by simp [itMeans, h5, l2], rfl⟩
    · have l1 : ¬ itLo x ≤ d := Nat.not_le.mpr (one_lt.mp h1)
      refine tr_iteF ?_
      refine Tr.or_cons ?_
      refine Tr.isCmp1 ?_
      refine Tr.nameL (List.Mem.head _) ?_
      refine Tr.nameC (List.Mem.head _) ?_
      refine Mine.Tr.eqS ?_
      refine ⟨_, rfl, ?_⟩
      refine tr_ite (fun h5 => ?_) (fun h5 => ?_)
      · exact ⟨by simp [itMeans, h5], rfl⟩
      · refine Tr.or_nil ?_
        exact ⟨by simp [itMeans, h5, l1], rfl⟩
  intro D ys hys
  refine Tr.storeC .head (by assumption) ?_
  refine Then_next ?_
  refine Tr.execs_cons ?_
  refine Tr.assignN (Tr.cutV (fun v => ∃ t, v = .str (tx (itLeft x)) t) ?_ ?_)
  · have mz : (itMore x).length ≤ 1 := by unfold itMore; split <;> simp
    refine Tr.binop ?_
    refine Tr.ifE ?_
    refine Tr.isCmp1 ?_
    refine Tr.nameC (List.Mem.tail _ (List.Mem.tail _ (List.Mem.tail _ (List.Mem.head _)))) ?_
    refine Tr.nameC (List.Mem.tail _ (List.Mem.tail _ (List.Mem.head _))) ?_
    refine Mine.Tr.leS ?_
    refine ⟨_, rfl, ?_⟩
    refine tr_iteN (fun h => ?_) (fun h => ?_)
    · have l : itLo x ≤ itHi x := Nat.not_lt.mp fun q => h (one_lt.mpr q)
      refine Tr.binop ?_
      refine Tr.binop ?_
      refine Tr.nameC (List.Mem.tail _ (List.Mem.tail _ (List.Mem.tail _ (List.Mem.head _)))) ?_
      refine Tr.strT ([45] : List Nat) (by decide +kernel) ?_
      intro _
      refine Mine.Tr.addS (by (first | decide | assumption | (simp only [sizeLine_eq, List.length_append, List.length_cons, List.length_nil, List.length_map, List.length_range] at *; omega) | omega)) ?_
      intro _
      refine Tr.nameC (List.Mem.tail _ (List.Mem.tail _ (List.Mem.head _))) ?_
      refine Mine.Tr.addS (by (first | decide | assumption | (simp only [sizeLine_eq, List.length_append, List.length_cons, List.length_nil, List.length_map, List.length_range] at *; omega) | omega)) ?_
      intro _
      refine Tr.nameC (List.Mem.tail _ (List.Mem.head _)) ?_
      refine Mine.Tr.addS (by (first | decide | assumption | (simp only [sizeLine_eq, List.length_append, List.length_cons, List.length_nil, List.length_map, List.length_range] at *; omega) | omega)) ?_
      intro _
      exact ⟨⟨_, by unfold itLeft; rw [if_pos l]; rfl⟩, rfl⟩
    · have l : ¬ itLo x ≤ itHi x := Nat.not_le.mpr (one_lt.mp h)
      refine Tr.strT ([] : List Nat) (by decide +kernel) ?_
      intro _
      refine Tr.nameC (List.Mem.tail _ (List.Mem.head _)) ?_
      refine Mine.Tr.addS (by (first | decide | assumption | (simp only [sizeLine_eq, List.length_append, List.length_cons, List.length_nil, List.length_map, List.length_range] at *; omega) | omega)) ?_
      intro _
      exact ⟨⟨_, by unfold itLeft; rw [if_neg l]⟩, rfl⟩
  rintro v ⟨t, rfl⟩
  have mz : (itMore x).length ≤ 1 := by unfold itMore; split <;> simp
  have lz : (itLeft x).length ≤ 4 := by unfold itLeft; rw [List.length_append]; split <;> simp <;> omega
  refine Tr.storeL (.tail (.tail .head)) ?_
  refine Then_next ?_
  refine Tr.execs_cons ?_
  refine Tr.ifS ?_
  refine Tr.isCmp1 ?_
  refine Tr.nameL (List.Mem.tail _ (List.Mem.head _)) ?_
  refine Tr.int ?_
  intro _
  refine Mine.Tr.gtI ?_
  refine ⟨_, rfl, ?_⟩
  refine tr_ite (fun h5 => ?_) (fun h5 => ?_)
  · have e : itemOf x = ⟨[91, 33] ++ [itLo x] ++ [45] ++ [itHi x] ++ itMore x ++ [93], ab.filter fun c => !itMeans x c, some (if itLeft x ≠ [] then [91, 94] ++ itLeft x ++ [93] else [46])⟩ := by
      unfold itemOf; rw [if_neg h3, if_neg h8, if_pos h5]
    rw [e]
    refine Tr.execs_cons ?_
    refine Tr.ret ?_
    refine Tr.list ?_
    refine Tr.spl_cons ?_
    refine Tr.binop ?_
    refine Tr.binop ?_
    refine Tr.binop ?_
    refine Tr.binop ?_
    refine Tr.binop ?_
    refine Tr.strT ([91, 33] : List Nat) (by decide +kernel) ?_
    intro _
    refine Tr.nameC (List.Mem.tail _ (List.Mem.tail _ (List.Mem.tail _ (List.Mem.head _)))) ?_
    refine Mine.Tr.addS (by (first | decide | assumption | (simp only [sizeLine_eq, List.length_append, List.length_cons, List.length_nil, List.length_map, List.length_range] at *; omega) | omega)) ?_
    intro _
    refine Tr.strT ([45] : List Nat) (by decide +kernel) ?_
    intro _
    refine Mine.Tr.addS (by (first | decide | assumption | (simp only [sizeLine_eq, List.length_append, List.length_cons, List.length_nil, List.length_map, List.length_range] at *; omega) | omega)) ?_
    intro _
    refine Tr.nameC (List.Mem.tail _ (List.Mem.tail _ (List.Mem.head _))) ?_
    refine Mine.Tr.addS (by (first | decide | assumption | (simp only [sizeLine_eq, List.length_append, List.length_cons, List.length_nil, List.length_map, List.length_range] at *; omega) | omega)) ?_
    intro _
    refine Tr.nameC (List.Mem.tail _ (List.Mem.head _)) ?_
    refine Mine.Tr.addS (by (first | decide | assumption | (simp only [sizeLine_eq, List.length_append, List.length_cons, List.length_nil, List.length_map, List.length_range] at *; omega) | omega)) ?_
    intro _
    refine Tr.strT ([93] : List Nat) (by decide +kernel) ?_
    intro _
    refine Mine.Tr.addS (by (first | decide | assumption | (simp only [sizeLine_eq, List.length_append, List.length_cons, List.length_nil, List.length_map, List.length_range] at *; omega) | omega)) ?_
    intro _
    refine Tr.spl_cons ?_
    refine Tr.filterS ab (fun c => !itMeans x c) (by decide) (by decide) hck (by kernel_rfl) (by kernel_rfl) (by decide +kernel) ?_ ?_ ?_
    · refine Tr.strT ([97, 98, 99, 100] : List Nat) (by decide +kernel) ?_
      intro _
      exact ⟨⟨_, rfl⟩, rfl⟩
    · intro C' cx d t' hd'
      generalize hcap9 : capOf _ _ = cel9
      have ecap9 := Eq.trans (Eq.symm hcap9) (CapR.eq (.keep (by kernel_rfl) (.drop (by kernel_rfl) (.drop (by kernel_rfl) (.drop (by kernel_rfl) (.nil))))))
      clear hcap9
      subst ecap9
      refine Tr.isCmp1 ?_
      refine Tr.nameL (List.Mem.head _) ?_
      refine Tr.nameC (List.Mem.head _) ?_
      refine Tr.notinL (.inl (.head _)) hys ?_
      refine ⟨_, rfl, ?_, rfl⟩
      have : ([d] ∈ (List.filter (itMeans x) ab).map fun c => [c]) ↔ itMeans x d = true := by
        rw [List.mem_map]
        exact ⟨fun ⟨c, hc, ec⟩ => by cases ec; exact (List.mem_filter.mp hc).2, fun h => ⟨d, List.mem_filter.mpr ⟨hd', h⟩, rfl⟩⟩
      cases hm : itMeans x d <;> simp [this, hm]
    intro D2 ys2 hys2
    refine Tr.spl_cons ?_
    refine Tr.ifE ?_
    refine Tr.isCmp1 ?_
    refine Tr.nameL (List.Mem.tail _ (List.Mem.tail _ (List.Mem.head _))) ?_
    refine Tr.strT ([] : List Nat) (by decide +kernel) ?_
    intro _
    refine Mine.Tr.neS ?_
    refine ⟨_, rfl, ?_⟩
    refine tr_iteN (fun hl => ?_) (fun hl => ?_)
    · refine Tr.binop ?_
      refine Tr.binop ?_
      refine Tr.strT ([91, 94] : List Nat) (by decide +kernel) ?_
      intro _
      refine Tr.nameL (List.Mem.tail _ (List.Mem.tail _ (List.Mem.head _))) ?_
      refine Mine.Tr.addS (by (first | decide | assumption | (simp only [sizeLine_eq, List.length_append, List.length_cons, List.length_nil, List.length_map, List.length_range] at *; omega) | omega)) ?_
      intro _
      refine Tr.strT ([93] : List Nat) (by decide +kernel) ?_
      intro _
      refine Mine.Tr.addS (by (first | decide | assumption | (simp only [sizeLine_eq, List.length_append, List.length_cons, List.length_nil, List.length_map, List.length_range] at *; omega) | omega)) ?_
      intro _
      refine Tr.spl_nil ?_
      refine Tr.newList (by first | decide | (simp only [List.length_cons, List.length_nil]; decide)) ?_
      intro _
      refine Then_ret ?_
      refine Then_ret ?_
      rw [if_pos hl]
      exact ⟨_, _, _, _, rfl, List.Mem.head _, .inr ⟨_, _, rfl, .tail _ (.head _), hys2⟩, ⟨_, rfl⟩⟩
    · refine Tr.strT ([46] : List Nat) (by decide +kernel) ?_
      intro _
      refine Tr.spl_nil ?_
      refine Tr.newList (by first | decide | (simp only [List.length_cons, List.length_nil]; decide)) ?_
      intro _
      refine Then_ret ?_
      refine Then_ret ?_
      rw [if_neg (fun q => q hl)]
      exact ⟨_, _, _, _, rfl, List.Mem.head _, .inr ⟨_, _, rfl, .tail _ (.head _), hys2⟩, ⟨_, rfl⟩⟩
  · have e : itemOf x = ⟨[91] ++ [itLo x] ++ [45] ++ [itHi x] ++ itMore x ++ [93], ab.filter (itMeans x), some (if itLeft x ≠ [] then [91] ++ itLeft x ++ [93] else [40, 63, 33, 41])⟩ := by
      unfold itemOf; rw [if_neg h3, if_neg h8, if_neg h5]
    rw [e]
    refine Tr.execs_nil ?_
    refine Then_next ?_
    refine Tr.execs_cons ?_
    refine Tr.ret ?_
    refine Tr.list ?_
    refine Tr.spl_cons ?_
    refine Tr.binop ?_
    refine Tr.binop ?_
    refine Tr.binop ?_
    refine Tr.binop ?_
    refine Tr.binop ?_
    refine Tr.strT ([91] : List Nat) (by decide +kernel) ?_
    intro _
    refine Tr.nameC (List.Mem.tail _ (List.Mem.tail _ (List.Mem.tail _ (List.Mem.head _)))) ?_
    refine Mine.Tr.addS (by (first | decide | assumption | (simp only [sizeLine_eq, List.length_append, List.length_cons, List.length_nil, List.length_map, List.length_range] at *; omega) | omega)) ?_
    intro _
    refine Tr.strT ([45] : List Nat) (by decide +kernel) ?_
    intro _
    refine Mine.Tr.addS (by (first | decide | assumption | (simp only [sizeLine_eq, List.length_append, List.length_cons, List.length_nil, List.length_map, List.length_range] at *; omega) | omega)) ?_
    intro _
    refine Tr.nameC (List.Mem.tail _ (List.Mem.tail _ (List.Mem.head _))) ?_
    refine Mine.Tr.addS (by (first | decide | assumption | (simp only [sizeLine_eq, List.length_append, List.length_cons, List.length_nil, List.length_map, List.length_range] at *; omega) | omega)) ?_
    intro _
    refine Tr.nameC (List.Mem.tail _ (List.Mem.head _)) ?_
    refine Mine.Tr.addS (by (first | decide | assumption | (simp only [sizeLine_eq, List.length_append, List.length_cons, List.length_nil, List.length_map, List.length_range] at *; omega) | omega)) ?_
    intro _
    refine Tr.strT ([93] : List Nat) (by decide +kernel) ?_
    intro _
    refine Mine.Tr.addS (by (first | decide | assumption | (simp only [sizeLine_eq, List.length_append, List.length_cons, List.length_nil, List.length_map, List.length_range] at *; omega) | omega)) ?_
    intro _
    refine Tr.spl_cons ?_
    refine Tr.nameC (List.Mem.head _) ?_
    refine Tr.spl_cons ?_
    refine Tr.ifE ?_
    refine Tr.isCmp1 ?_
    refine Tr.nameL (List.Mem.tail _ (List.Mem.tail _ (List.Mem.head _))) ?_
    refine Tr.strT ([] : List Nat) (by decide +kernel) ?_
    intro _
    refine Mine.Tr.neS ?_
    refine ⟨_, rfl, ?_⟩
    refine tr_iteN (fun hl => ?_) (fun hl => ?_)
    · refine Tr.binop ?_
      refine Tr.binop ?_
      refine Tr.strT ([91] : List Nat) (by decide +kernel) ?_
      intro _
      refine Tr.nameL (List.Mem.tail _ (List.Mem.tail _ (List.Mem.head _))) ?_
      refine Mine.Tr.addS (by (first | decide | assumption | (simp only [sizeLine_eq, List.length_append, List.length_cons, List.length_nil, List.length_map, List.length_range] at *; omega) | omega)) ?_
      intro _
      refine Tr.strT ([93] : List Nat) (by decide +kernel) ?_
      intro _
      refine Mine.Tr.addS (by (first | decide | assumption | (simp only [sizeLine_eq, List.length_append, List.length_cons, List.length_nil, List.length_map, List.length_range] at *; omega) | omega)) ?_
      intro _
      refine Tr.spl_nil ?_
      refine Tr.newList (by first | decide | (simp only [List.length_cons, List.length_nil]; decide)) ?_
      intro _
      refine Then_ret ?_
      rw [if_pos hl]
      exact ⟨_, _, _, _, rfl, List.Mem.head _, .inr ⟨_, _, rfl, .tail _ (.head _), hys⟩, ⟨_, rfl⟩⟩
    · refine Tr.strT ([40, 63, 33, 41] : List Nat) (by decide +kernel) ?_
      intro _
      refine Tr.spl_nil ?_
      refine Tr.newList (by first | decide | (simp only [List.length_cons, List.length_nil]; decide)) ?_
      intro _
      refine Then_ret ?_
      rw [if_neg (fun q => q hl)]
      exact ⟨_, _, _, _, rfl, List.Mem.head _, .inr ⟨_, _, rfl, .tail _ (.head _), hys⟩, ⟨_, rfl⟩⟩
end Mine
end
section
open PySem PySem.W PySem.Calls PyProof PyProof.Rows PySem.Spec PyProof.V PySem.Builtin.Str
set_option linter.unusedVariables false
namespace Mine

theorem RAtL.is {C : Cx} {loc cel} {led : Led} {r : Addr} {a b c : Int} {s : Shared} (x : RAtL C led r a b c) (H : Holds C ⟨loc, cel, led⟩ s) : ∃ t u v, IsRange s.heap r a b c t u v := by
  rcases x with h | ⟨o, e, t, u, v, rfl⟩
  · obtain ⟨o, e, t, u, v, rfl⟩ := H.led _ _ h
    exact ⟨t, u, v, e⟩
  · exact ⟨t, u, v, H.keep _ _ e⟩
theorem src_range {C : Cx} {r : Addr} {a b c : Int} {n : Nat} (hn : Builtin.Range.rangeSize a b c = n) (hsm : Builtin.Range.small a b c = true) : Src C (.ref r) n (fun i v => ∃ t, v = .int (a + i * c) t) (fun led => RAtL C led r a b c) := by
  refine ⟨fun i o => o = { cls := .type "range_iterator", data := .fields #[rawInt (a + i * c), rawInt (n - i), rawInt c] }, ⟨?_, ?_, ?_, ?_⟩, ?_⟩
  · intro i loc cel led it hi hF ok s H Q E hQ
    obtain ⟨o, e, rfl⟩ := head_pred H
    refine wpAny_pyNext_range_item e (by omega) fun h' hit hs => hQ _ _ ⟨_, rfl⟩ (H.turn .head hs hit ?_ _)
    show _ = _
    rw [show a + (i : Int) * c + c = a + ((i + 1 : Nat) : Int) * c by push_cast; rw [Int.add_mul]; omega, show (n : Int) - i - 1 = n - ((i + 1 : Nat) : Int) by omega]
  · intro loc cel led it hF ok s H Q E hQ
    obtain ⟨o, e, rfl⟩ := head_pred H
    exact wpAny_pyNext_range_end ok.hd e (by omega) fun h' hx => hQ _ (H.ext hx _)
  · intro i loc cel led it ok s H Q E hQ
    obtain ⟨o, e, rfl⟩ := head_pred H
    refine wpAny_pyIter_slot ⟨_, e, rfl⟩ F.slot_range_iterator_iter (wpAny_call_entry F.slot_range_iterator_iter ⟨_, e, rfl⟩ F.entry_range_iterator_iter ?_ (F.args_range_iterator_iter_1 _))
    show wpAny _ _ (ret (.ref it)) _ _ s
    exact wpAny_pure ⟨_, rfl, "range_iterator", _, ⟨_, e, rfl⟩, F.slot_range_iterator_next.lookup, hQ⟩
  · intro i loc cel led it ok s H elts k pos T Q E hQ
    obtain ⟨o, e, rfl⟩ := head_pred H
    unfold letOwnedTupleGo
    refine wpAny_bind (wpAny_load e ?_)
    exact wpAny_pure hQ
  · intro loc cel led hF ok s H Q E hQ
    obtain ⟨t, u, v, hr⟩ := hF.is H
    refine wpAny_pyIter_range hr hsm (hQ _ _ (H.push ok rfl (.pred _) ?_ _))
    show _ = _
    rw [hn]
    simp

section
variable {C : Cx} {S : St}
theorem Tr.range1 {loc cel} {led : Led} {n : Int} {t : Tok} {Q : Value → St → Prop} (h : ∀ r, Q (.ref r) ⟨loc, cel, (r, .pred (RngO 0 n 1)) :: led⟩) : Tr C (call (.type "range") [.int n t]) Q ⟨loc, cel, led⟩ :=
  fun ok s H => call_range_1 (Exists.intro _ ⟨H.push ok rfl (.pred (RngO 0 n 1)) ⟨_, _, _, rfl⟩ _, h _⟩)
theorem Tr.range2 {loc cel} {led : Led} {a b : Int} {t u : Tok} {Q : Value → St → Prop} (h : ∀ r, Q (.ref r) ⟨loc, cel, (r, .pred (RngO a b 1)) :: led⟩) : Tr C (call (.type "range") [.int a t, .int b u]) Q ⟨loc, cel, led⟩ :=
  fun ok s H => call_range_2 (Exists.intro _ ⟨H.push ok rfl (.pred (RngO a b 1)) ⟨_, _, _, rfl⟩ _, h _⟩)
theorem Tr.range3 {loc cel} {led : Led} {a b c : Int} {t u v : Tok} {Q : Value → St → Prop} (hc : c ≠ 0) (hp : Builtin.divisionGoesByPylong (b - a) c = false) (h : ∀ r, Q (.ref r) ⟨loc, cel, (r, .pred (RngO a b c)) :: led⟩) :
    Tr C (call (.type "range") [.int a t, .int b u, .int c v]) Q ⟨loc, cel, led⟩ :=
  fun ok s H => call_range_3 hc (Exists.intro _ ⟨H.push ok rfl (.pred (RngO a b c)) ⟨_, _, _, rfl⟩ _, h _⟩) (.inl hp)
theorem Tr.lenRange {r : Addr} {a b c : Int} {n : Nat} {Q : Value → St → Prop} (hr : RAtL C S.led r a b c) (hn : Builtin.Range.rangeSize a b c = n) (hf : (n : Int) < 2 ^ 63) (h : ∀ t, Q (.int n t) S) : Tr C (call (.builtin "len") [.ref r]) Q S := by
  intro ok s H
  obtain ⟨t, u, v, hr⟩ := RAtL.is hr (H : Holds C ⟨S.loc, S.cel, S.led⟩ s)
  exact call_len_range hr hn hf ⟨S, H.toks _, h _⟩
theorem Holds.subH {s : Shared} (H : Holds C S s) {h' : Heap} (hk : Sub s.heap h') (tk : Nat) : Holds C S { s with heap := h', toks := tk } := by
  refine ⟨?_, H.locs, H.locn, H.keep.trans hk, fun x k ov h => ?_, H.cels, fun b k hb => ?_, H.out, H.nodup, H.os, H.gens, H.gi.keep hk⟩
  · obtain ⟨m, hm, hml⟩ := H.loc
    exact ⟨m, hm.keeps hk, hml⟩
  · obtain ⟨o, e, hd⟩ := H.cel x k ov h
    exact ⟨o, hk _ _ e, hd⟩
  · obtain ⟨o, e, i⟩ := H.led b k hb
    exact ⟨o, hk _ _ e, i⟩
theorem Holds.grow {loc cel} {led : Led} {s : Shared} (ok : C.Ok) (H : Holds C ⟨loc, cel, led⟩ s) {h' : Heap} (hk : Sub s.heap h') {o : Obj} (ho : h'.get? s.heap.objs.size = some o) (hf : o.isFreed = false) (c : Ct) (hc : c.Is o) (tk : Nat) :
    Holds C ⟨loc, cel, (s.heap.objs.size, c) :: led⟩ { s with heap := h', toks := tk } := by
  refine (H.push ok hf c hc s.toks).subH (h' := h') (fun b o' e => ?_) tk
  rcases Heap.get?_push_cases e with ⟨rfl, rfl⟩ | h
  · exact ho
  · exact hk _ _ h
def IntsFrom (vs : List Value) (f : Nat → Int) (n : Nat) : Prop := vs.length = n ∧ ∀ i, i < n → ∃ t, vs[i]? = some (.int (f i) t)
theorem Tr.listRange {loc cel} {led : Led} {r : Addr} {a b c : Int} {n : Nat} {Q : Value → St → Prop} (hr : RAtL C led r a b c) (hsm : Builtin.Range.small a b c = true) (hn : Builtin.Range.rangeSize a b c = n) (hz : n ≤ 2 ^ 24)
    (h : ∀ D vs, IntsFrom vs (fun i => a + i * c) n → Q (.ref D) ⟨loc, cel, (D, .list vs) :: led⟩) : Tr C (call (.type "list") [.ref r]) Q ⟨loc, cel, led⟩ := by
  intro ok s H
  obtain ⟨t, u, v, hr⟩ := hr.is H
  refine call_list_range ok.hd hr hsm hn hz fun h' tk acc c' hk ho hi => ?_
  exact ⟨_, H.grow ok hk ho rfl (.list acc.toList) ⟨_, rfl⟩ tk, h _ _ ⟨by rw [Array.length_toList]; exact hi.1, fun i hin => by
    have hl : i < acc.size := hi.1 ▸ hin
    obtain ⟨t, e⟩ := hi.2 i acc[i] (Array.getElem?_eq_getElem hl)
    exact ⟨t, by rw [Array.getElem?_toList, Array.getElem?_eq_getElem hl, e]⟩⟩⟩
end
end Mine
end
section
open PySem PySem.W PySem.Calls PyProof PyProof.Rows PySem.Spec PyProof.V PySem.Builtin.Str
set_option linter.unusedVariables false
namespace Mine
open AutoSeq1 (wpAny_loadPart')
section
variable {prog : Program} {w : World} {A : Around} {E : Value → Shared → Prop} {s : Shared}
theorem call_range_getitem {r : Addr} {a b c k : Int} {t u v ti : Tok} {Q : Value → Shared → Prop} (hr : IsRange s.heap r a b c t u v) (h0 : 0 ≤ k) (h1 : k < Builtin.Range.rangeSize a b c) (hfit : k < 2 ^ 62)
    (h : ∀ tk t', Q (.int (a + k * c) t') { s with toks := tk }) : wpAny (model prog w) A (call (.builtin "range.__getitem__") [.ref r, .int k ti]) Q E s := by
  have hT : s.TypeIs (.ref r) "range" := ⟨_, hr, rfl⟩
  refine wpAny_call_entry F.slot_range_getitem hT F.entry_range_getitem ?_ (F.args_range_getitem_2 _ _)
  obtain ⟨hp, g, d, tk, os⟩ := s
  wp_walk using wpAny_loadPart' hr
  refine wpAny_of_eq F.slot_int_index.lookup ?_
  wp_walk using wpAny_loadPart' hr
  rw [if_neg (by rw [if_neg (by omega)]; simp only [Bool.or_eq_true, decide_eq_true_eq]; omega), if_neg (by omega)]
  dsimp only
  wp_walk
  exact ⟨_, rfl, h _ _⟩
end
section
variable {C : Cx} {S : St}
theorem Tr.itemRange {r : Addr} {a b c k : Int} {t : Tok} {value slice : Expr} {Q : Value → St → Prop} (hr : RAtL C S.led r a b c) (h0 : 0 ≤ k) (h1 : k < Builtin.Range.rangeSize a b c) (hfit : k < 2 ^ 62) (h : ∀ t, Q (.int (a + k * c) t) S)
    (hs : subscripted slice false (.ref r) (.int k t) = operate [.ref r, .int k t] (getItem (.ref r) (.int k t)) := by rfl) : Tr C (subscriptTail value slice (.ref r) (.int k t)) Q S := by
  intro ok s H
  obtain ⟨t', u, v, hr⟩ := RAtL.is hr (H : Holds C ⟨S.loc, S.cel, S.led⟩ s)
  have hT : s.TypeIs (.ref r) "range" := ⟨_, hr, rfl⟩
  exact tail_any hT F.slot_range_getitem.lookup (wpAny_getItem_slot hT (by decide) F.slot_range_getitem (call_range_getitem hr h0 h1 hfit fun tk t' => ⟨S, H.toks _, h _⟩)) hs
end
end Mine
end
section
open PySem PySem.W PySem.Calls PyProof PyProof.Rows PySem.Spec PyProof.V PySem.Builtin.Str
set_option linter.unusedVariables false
namespace Mine
section
variable {C : Cx} {S : St}
theorem Tr.isNoneNone {Q : Value → St → Prop} (h : Q (.bool true) S) : Tr C (compareOp .Is .none .none) Q S := fun _ _ H => is_none_none ⟨S, H, h⟩
theorem Tr.isRefNone {a : Addr} {Q : Value → St → Prop} (h : Q (.bool false) S) : Tr C (compareOp .Is (.ref a) .none) Q S := fun _ _ H => is_ref_none ⟨S, H, h⟩
theorem Tr.isRefSelf {a : Addr} {Q : Value → St → Prop} (h : Q (.bool true) S) : Tr C (compareOp .Is (.ref a) (.ref a)) Q S := fun _ _ H => wpAny_is_ref_self ⟨S, H, h⟩
theorem Tr.isNotRefSelf {a : Addr} {Q : Value → St → Prop} (h : Q (.bool false) S) : Tr C (compareOp .IsNot (.ref a) (.ref a)) Q S := fun _ _ H => wpAny_isNot_ref_self ⟨S, H, h⟩
theorem Tr.isStrRef {x : Str} {t : Tok} {a : Addr} {Q : Value → St → Prop} (h : Q (.bool false) S) : Tr C (compareOp .Is (.str x t) (.ref a)) Q S := fun _ _ H => wpAny_is_other rfl (fun e => nomatch e) ⟨S, H, h⟩
theorem Tr.isNotStrRef {x : Str} {t : Tok} {a : Addr} {Q : Value → St → Prop} (h : Q (.bool true) S) : Tr C (compareOp .IsNot (.str x t) (.ref a)) Q S := fun _ _ H => wpAny_isNot_other rfl (fun e => nomatch e) ⟨S, H, h⟩
theorem Tr.ltB {p q : Bool} {Q : Value → St → Prop} (h : Q (.bool (!p && q)) S) : Tr C (compareOp .Lt (.bool p) (.bool q)) Q S :=
  fun _ _ H => lt_bool ⟨S, H, by cases p <;> cases q <;> exact h⟩
theorem kept_F {k : Addr} {o : Obj} {fd : FuncData} (h : C.h₀.get? k = some o) (hd : o.data = .func fd) : Kept C (.ref k) := fun ok S' s H => by
  refine ⟨.frame, .inl rfl, (Looks.ld (part := none) (H.keep _ _ h)).andThen ?_⟩
  rw [hd]
  exact .now
theorem Tr.methL {name : Str} {id : String} {a : Addr} {vs : List Value} {pl : Sem Bool} {Q : Value × List Value → St → Prop} (hm : (a, Ct.list vs) ∈ S.led) (hs : Slot "list" name id) (hp : PlainAttrs "list") (ht : typeOf (.builtin id) = pure (.type "method_descriptor"))
    (h : Q (.builtin id, [.ref a]) S) : Tr C (getMethod (.ref a) name pl) Q S := by
  intro ok s H
  obtain ⟨o, e, n, rfl⟩ := H.led _ _ hm
  exact getMethod_builtin (T := "list") ⟨_, e, rfl⟩ hp hs ht (fun b eb => by cases eb; exact ⟨_, e, rfl⟩) ⟨S, H, h⟩
theorem Tr.unop {op : UnaryOp} {x : Expr} {pos : Pos} {Q : Value → St → Prop} (h : Tr C (eval x C.env) (fun v S1 => Tr C (unaryOp op v) Q S1) S) : Tr C (eval (.UnaryOp op x pos) C.env) Q S :=
  fun ok s H => UnaryOp_ (h.go ok H fun _ s1 S1 h1 q1 => q1 ok s1 h1)
theorem Tr.negI {a : Int} {t : Tok} {Q : Value → St → Prop} (h : ∀ t, Q (.int (-a) t) S) : Tr C (unaryOp .USub (.int a t)) Q S := fun _ _ H => neg_int ⟨S, H.toks _, h _⟩
theorem Tr.addL {loc cel} {led : Led} {a b : Addr} {vs ws : List Value} {Q : Value → St → Prop} (La : LAt C ⟨loc, cel, led⟩ a vs) (Lb : LAt C ⟨loc, cel, led⟩ b ws) (hz : vs.length + ws.length ≤ sizeLine) (h : ∀ D, Q (.ref D) ⟨loc, cel, (D, .list (vs ++ ws)) :: led⟩) :
    Tr C (binaryOp .Add (.ref a) (.ref b)) Q ⟨loc, cel, led⟩ := by
  intro ok s H
  obtain ⟨⟨cls, dd, data, sl⟩, ho, hc, n, hd⟩ := La.is H
  obtain ⟨⟨cls2, dd2, data2, sl2⟩, ho2, hc2, n2, hd2⟩ := Lb.is H
  simp only at hc hd hc2 hd2
  subst hc hd hc2 hd2
  have e : vs.toArray ++ ws.toArray = (vs ++ ws).toArray := by simp
  refine concat_meets ⟨_, ho, rfl⟩ ⟨_, ho2, rfl⟩ noFill_list_add seq_list_add PySem.F.slot_list_add PySem.F.entry_list_add (PySem.F.args_list_add_2 _ _) (list_addW a b vs.toArray ws.toArray n n2 dd dd2 sl sl2 (by simpa using hz)) ⟨ho, ho2, ?_⟩
  rw [e]
  exact Exists.intro _ ⟨H.push ok rfl (.list (vs ++ ws)) ⟨_, rfl⟩ _, h _⟩
end
inductive Nums : List Value → List Nat → Prop
  | nil : Nums [] []
  | cons (n : Nat) (t : Tok) {vs ns} : Nums vs ns → Nums (.int (n : Int) t :: vs) (n :: ns)
theorem Nums.snoc {vs : List Value} {ns : List Nat} (h : Nums vs ns) (n : Nat) (t : Tok) : Nums (vs ++ [.int (n : Int) t]) (ns ++ [n]) := by
  induction h with
  | nil => exact .cons n t .nil
  | cons m u _ ih => exact .cons m u ih
theorem Nums.length {vs : List Value} {ns : List Nat} (h : Nums vs ns) : vs.length = ns.length := by
  induction h with
  | nil => rfl
  | cons m u _ ih => simp [ih]
theorem Nums.get {vs : List Value} {ns : List Nat} (h : Nums vs ns) : ∀ {i n : Nat}, ns[i]? = some n → ∃ t, vs[i]? = some (.int (n : Int) t) := by
  induction h with
  | nil => intro i n e; simp at e
  | cons m u _ ih =>
    intro i n e
    cases i with
    | zero => simp at e; subst e; exact ⟨u, rfl⟩
    | succ i => exact ih e
end Mine
end
section
open PySem PySem.W PySem.Calls PyProof PyProof.Rows PySem.Spec PyProof.V PySem.Builtin.Str
set_option linter.unusedVariables false
namespace Mine
noncomputable def bisL.fd : FuncData := fdAt 73
noncomputable def bisL.ln : List Str := lnOf bisL.fd
noncomputable def bisL.gl : List Str := glOf bisL.fd
noncomputable def bisR.fd : FuncData := fdAt 64
noncomputable def bisR.ln : List Str := lnOf bisR.fd
noncomputable def bisR.gl : List Str := glOf bisR.fd
theorem bisL_at : FnAt 73 bisL.fd := ⟨fun _ => ⟨_, _, _, rfl⟩, fun _ => rfl, rfl, rfl, rfl, rfl, rfl, rfl⟩
theorem bisR_at : FnAt 64 bisR.fd := ⟨fun _ => ⟨_, _, _, rfl⟩, fun _ => rfl, rfl, rfl, rfl, rfl, rfl, rfl⟩
def bisB (a x k : Value) (t : Tok) : List (Str × Value) := [(Str.ofString "a", a), (Str.ofString "x", x), (Str.ofString "lo", .int 0 t), (Str.ofString "hi", .none), (Str.ofString "key", k)]
theorem bisL_binds {w : World} {muts : List Addr} {s : Shared} (P : Pre w muts s) (a x k : Value) : BindsTo s bisL.fd ⟨[a, x], [(Str.ofString "key", k)]⟩ (bisB a x k 512) :=
  binds_K (K := hd.heap_39 w.params) (P.gd.k.keeps fun b o e => of_hideAll _ e) rfl rfl rfl rfl rfl
theorem bisR_binds {w : World} {muts : List Addr} {s : Shared} (P : Pre w muts s) (a x k : Value) : BindsTo s bisR.fd ⟨[a, x], [(Str.ofString "key", k)]⟩ (bisB a x k 498) :=
  binds_K (K := hd.heap_39 w.params) (P.gd.k.keeps fun b o e => of_hideAll _ e) rfl rfl rfl rfl rfl
theorem b_len : (∀ P, nsIn (hd.heap_39 P) mainGlobals (Str.ofString "len") = some none) ∧ bootBuiltins (Str.ofString "len") = some (.builtin "len") ∧ (Str.ofString "len") ≠ "__name__" := ⟨fun _ => rfl, by first | rfl | decide +kernel, by decide +kernel⟩

def bis (f : Nat → Bool) : Nat → Nat → Nat → List Nat → Nat × List Nat
  | 0, lo, _, acc => (lo, acc)
  | n + 1, lo, hi, acc => if lo < hi then (if f ((lo + hi) / 2) then bis f n lo ((lo + hi) / 2) (acc ++ [(lo + hi) / 2]) else bis f n ((lo + hi) / 2 + 1) hi (acc ++ [(lo + hi) / 2])) else (lo, acc)
theorem bis_end (f : Nat → Bool) (n lo hi : Nat) (acc : List Nat) (h : ¬ lo < hi) : bis f n lo hi acc = (lo, acc) := by
  cases n with
  | zero => rfl
  | succ n => unfold bis; rw [if_neg h]
theorem half (lo hi : Nat) : ((lo : Int) + (hi : Int)).fdiv 2 = (((lo + hi) / 2 : Nat) : Int) := by
  rw [Int.fdiv_eq_ediv_of_nonneg _ (by omega)]; push_cast; rfl
def LstAt (h : Heap) (a : Addr) (vs : List Value) : Prop := ∃ o, h.get? a = some o ∧ (Ct.list vs).Is o
def KeySpec (w : World) (asked k : Addr) (M d : Nat) (f : Nat → Bool) (h0 : Heap) : Prop :=
  ∀ s m vs, m < M → vs.length ≤ M → Pre w [asked] s → Sub h0 s.heap → LstAt s.heap asked vs → ∀ t, Spec w [asked] d (.ref k) [.int (m : Nat) t] [] (fun v new => v = .bool (f m) ∧ ∃ t', new = [(asked, .list (vs ++ [.int (m : Nat) t']))]) s
theorem bisL_spec {w : World} {s : Shared} (asked R k : Addr) (M d : Nat) (f : Nat → Bool) (P : Pre w [asked] s) (h50 : asked ≠ 50 ∧ asked ≠ 50) (hask : LstAt s.heap asked []) (hM : M < 2 ^ 60)
    (hr : ∃ o, (hideAll s.heap (50 :: 50 :: [asked])).get? R = some o ∧ RngO 0 M 1 o) {ok : Obj} {fd : FuncData} (hk : (hideAll s.heap (50 :: 50 :: [asked])).get? k = some ok) (hkf : ok.data = .func fd)
    (hkey : KeySpec w asked k M d f (hideAll s.heap (50 :: 50 :: [asked]))) :
    Spec w [asked] (d + 1) (.ref 73) [.ref R, .bool true] [(Str.ofString "key", .ref k)] (fun v new => ∃ t vs, v = .int (bis f M 0 M []).1 t ∧ Nums vs (bis f M 0 M []).2 ∧ new = [(asked, .list vs)]) s := by
  refine Spec.enter (ml := [(asked, .list [])]) (binds := bisB (.ref R) (.bool true) (.ref k) 512) (ln := bisL.ln) (gl := bisL.gl) P rfl ?_ (by simp) bisL_at rfl (fun s P => bisL_binds P _ _ _) (by simp only [bisB, List.map_cons, List.map_nil]; decide +kernel) (by kernel_rfl) (by decide +kernel) (by decide +kernel) (by decide +kernel) (by decide +kernel) (by decide +kernel) ?_
  · intro a c h
    rw [List.mem_singleton] at h
    cases h
    exact ⟨hask, h50⟩
  intro C L hw h0 hd hck G hin hco hq hsc hce
  replace hsc := scopeLit hsc
  have hR : ∀ led, RAtL C led R 0 M 1 := fun _ => .inr (by rw [h0]; exact hr)
  have hsz : Builtin.Range.rangeSize 0 (M : Int) 1 = M := by rw [rangeSize_one]; split <;> omega
  unfold bisB
  refine Tr.startN (loc := [(Str.ofString "a", some (Value.ref R)), (Str.ofString "x", some (Value.bool true)), (Str.ofString "lo", some (Value.int 0 512)), (Str.ofString "hi", some Value.none), (Str.ofString "key", some (Value.ref k)), (Str.ofString "mid", none)]) (cel := []) (by kernel_rfl) (by kernel_rfl) ?_
  refine Tr.execs_cons ?_
  refine Tr.ifS ?_
  refine Tr.isCmp1 ?_
  refine Tr.nameL (List.Mem.tail _ (List.Mem.tail _ (List.Mem.head _))) ?_
  refine Tr.int ?_
  intro _
  refine Mine.Tr.ltI ?_
  refine ⟨_, rfl, ?_⟩
  refine tr_ite (fun h => absurd h (by decide)) (fun _ => ?_)
  refine Tr.execs_nil ?_
  refine Then_next ?_
  refine Tr.execs_cons ?_
  refine Tr.ifS ?_
  refine Tr.isCmp1 ?_
  refine Tr.nameL (List.Mem.tail _ (List.Mem.tail _ (List.Mem.tail _ (List.Mem.head _)))) ?_
  refine Tr.nonec ?_
  refine Mine.Tr.isNoneNone ?_
  refine ⟨_, rfl, ?_⟩
  refine tr_iteT ?_
  refine Tr.execs_cons ?_
  refine Tr.assignN ?_
  refine Tr.callN ?_
  refine Tr.nameB (by assumption) (by decide +kernel) (Mine.b_len).1 (Mine.b_len).2.1 (Mine.b_len).2.2 ?_
  refine Tr.callW kept_builtin ?_
  refine Tr.spl_cons ?_
  refine Tr.nameL (List.Mem.head _) ?_
  refine Tr.spl_nil ?_
  refine Tr.lenRange (hR _) hsz (by omega) ?_
  intro _
  refine Tr.storeL (.tail (.tail (.tail .head))) ?_
  refine Then_next ?_
  refine Tr.execs_nil ?_
  refine Then_next ?_
  refine Tr.execs_cons ?_
  refine Tr.ifS ?_
  refine Tr.isCmp1 ?_
  refine Tr.nameL (List.Mem.tail _ (List.Mem.tail _ (List.Mem.tail _ (List.Mem.tail _ (List.Mem.head _))))) ?_
  refine Tr.nonec ?_
  refine Mine.Tr.isRefNone ?_
  refine ⟨_, rfl, ?_⟩
  refine tr_iteF ?_
  refine Tr.execs_cons ?_
  refine Tr.whileS (fun n S => ∃ (lo hi : Nat) (vs : List Value) (acc : List Nat) (t1 t2 : Tok) (ov : Option Value), hi ≤ M ∧ hi ≤ lo + n ∧ acc.length + n = M ∧ bis f n lo hi acc = bis f M 0 M [] ∧ Nums vs acc ∧
    S = ⟨[(Str.ofString "a", some (.ref R)), (Str.ofString "x", some (.bool true)), (Str.ofString "lo", some (.int lo t1)), (Str.ofString "hi", some (.int hi t2)), (Str.ofString "key", some (.ref k)), (Str.ofString "mid", ov)], [], [(asked, .list vs)]⟩) M
    ⟨0, M, [], [], _, _, none, Nat.le_refl _, by omega, by simp, rfl, .nil, rfl⟩ ?_
  rintro n S ⟨lo, hi, vs, acc, t1, t2, ov, h1, h2, h3, h4, h5, rfl⟩
  refine Tr.isCmp1 ?_
  refine Tr.nameL (List.Mem.tail _ (List.Mem.tail _ (List.Mem.head _))) ?_
  refine Tr.nameL (List.Mem.tail _ (List.Mem.tail _ (List.Mem.tail _ (List.Mem.head _)))) ?_
  refine Mine.Tr.ltI ?_
  refine ⟨_, rfl, ?_⟩
  refine tr_ite (fun hlt => ?_) (fun hlt => ?_)
  · have hlt' : lo < hi := by omega
    obtain ⟨n, rfl⟩ : ∃ m, n = m + 1 := ⟨n - 1, by omega⟩
    have hmid : (lo + hi) / 2 < hi ∧ lo ≤ (lo + hi) / 2 := by omega
    refine Tr.execs_cons ?_
    refine Tr.assignN ?_
    refine Tr.binop ?_
    refine Tr.binop ?_
    refine Tr.nameL (List.Mem.tail _ (List.Mem.tail _ (List.Mem.head _))) ?_
    refine Tr.nameL (List.Mem.tail _ (List.Mem.tail _ (List.Mem.tail _ (List.Mem.head _)))) ?_
    refine Tr.addI ?_
    intro _
    refine Tr.int ?_
    intro _
    refine Tr.divI (by decide) (by rfl) ?_
    intro _
    refine Tr.storeL (.tail (.tail (.tail (.tail (.tail .head))))) ?_
    refine Then_next ?_
    refine Tr.execs_cons ?_
    refine Tr.ifS ?_
    refine Tr.isCmp1 ?_
    refine Tr.callN ?_
    refine Tr.nameL (List.Mem.tail _ (List.Mem.tail _ (List.Mem.tail _ (List.Mem.tail _ (List.Mem.head _))))) ?_
    refine Tr.callW (kept_F (by rw [h0]; exact hk) hkf) ?_
    refine Tr.spl_cons ?_
    refine Tr.subscr ?_
    refine Tr.nameL (List.Mem.head _) ?_
    refine Tr.nameL (List.Mem.tail _ (List.Mem.tail _ (List.Mem.tail _ (List.Mem.tail _ (List.Mem.tail _ (List.Mem.head _)))))) ?_
    rw [half]
    refine Tr.itemRange (hR _) (by omega) (by rw [hsz]; omega) (by omega) fun t6 => ?_
    rw [show (0 : Int) + (((lo + hi) / 2 : Nat) : Int) * 1 = (((lo + hi) / 2 : Nat) : Int) by omega]
    refine Tr.spl_nil ?_
    refine Tr.callM (pre := [(asked, .list vs)]) (rest := []) (d := d) (by rw [hd]; exact Nat.le_refl _) (R := fun v new => v = .bool (f ((lo + hi) / 2)) ∧ ∃ t', new = [(asked, .list (vs ++ [.int (((lo + hi) / 2 : Nat) : Int) t']))]) (fun s' ok' H => ?_) ?_
    · rw [hw]
      refine hkey s' _ vs (by omega) (by rw [h5.length]; omega) (hw ▸ H.pre ok' (fun a ha => ?_)) (by rw [← h0]; exact H.keep) (H.led _ _ List.mem_cons_self) _
      simpa [St.addrs] using ha
    rintro v new ⟨rfl, t', rfl⟩
    refine Tr.nameL (List.Mem.tail _ (List.Mem.head _)) ?_
    refine Mine.Tr.ltB ?_
    refine ⟨_, rfl, ?_⟩
    have hb : bis f (n + 1) lo hi acc = if f ((lo + hi) / 2) then bis f n lo ((lo + hi) / 2) (acc ++ [(lo + hi) / 2]) else bis f n ((lo + hi) / 2 + 1) hi (acc ++ [(lo + hi) / 2]) := by
      show (if lo < hi then _ else _) = _
      rw [if_pos hlt']
    rw [hb] at h4
    refine tr_iteB (fun hf => ?_) (fun hf => ?_)
    · have hf' : f ((lo + hi) / 2) = false := by simpa using hf
      rw [hf'] at h4
      refine Tr.execs_cons ?_
      refine Tr.assignN ?_
      refine Tr.binop ?_
      refine Tr.nameL (List.Mem.tail _ (List.Mem.tail _ (List.Mem.tail _ (List.Mem.tail _ (List.Mem.tail _ (List.Mem.head _)))))) ?_
      refine Tr.int ?_
      intro _
      refine Tr.addI ?_
      intro _
      refine Tr.storeL (.tail (.tail .head)) ?_
      refine Then_next ?_
      refine Tr.execs_nil ?_
      refine Then_next ?_
      refine Tr.execs_nil ?_
      exact ⟨n, Nat.lt_succ_self _, (lo + hi) / 2 + 1, hi, _, _, _, _, _, h1, by omega, by rw [List.length_append, List.length_singleton]; omega, h4, h5.snoc _ t', by push_cast; rfl⟩
    · have hf' : f ((lo + hi) / 2) = true := by simpa using hf
      rw [hf'] at h4
      refine Tr.execs_cons ?_
      refine Tr.assignN ?_
      refine Tr.nameL (List.Mem.tail _ (List.Mem.tail _ (List.Mem.tail _ (List.Mem.tail _ (List.Mem.tail _ (List.Mem.head _)))))) ?_
      refine Tr.storeL (.tail (.tail (.tail .head))) ?_
      refine Then_next ?_
      refine Tr.execs_nil ?_
      refine Then_next ?_
      refine Tr.execs_nil ?_
      exact ⟨n, Nat.lt_succ_self _, lo, (lo + hi) / 2, _, _, _, _, _, by omega, by omega, by rw [List.length_append, List.length_singleton]; omega, h4, h5.snoc _ t', rfl⟩
  · have hlt' : ¬ lo < hi := by omega
    refine Then_next ?_
    refine Tr.execs_nil ?_
    refine Then_next ?_
    refine Tr.execs_cons ?_
    refine Tr.ret ?_
    refine Tr.nameL (List.Mem.tail _ (List.Mem.tail _ (List.Mem.head _))) ?_
    refine Then_ret ?_
    rw [bis_end f n lo hi acc hlt'] at h4
    rw [← h4]
    exact ⟨_, _, rfl, h5, rfl⟩
theorem bisR_spec {w : World} {s : Shared} (asked R k : Addr) (M d : Nat) (f : Nat → Bool) (P : Pre w [asked] s) (h50 : asked ≠ 50 ∧ asked ≠ 50) (hask : LstAt s.heap asked []) (hM : M < 2 ^ 60)
    (hr : ∃ o, (hideAll s.heap (50 :: 50 :: [asked])).get? R = some o ∧ RngO 0 M 1 o) {ok : Obj} {fd : FuncData} (hk : (hideAll s.heap (50 :: 50 :: [asked])).get? k = some ok) (hkf : ok.data = .func fd)
    (hkey : KeySpec w asked k M d f (hideAll s.heap (50 :: 50 :: [asked]))) :
    Spec w [asked] (d + 1) (.ref 64) [.ref R, .bool false] [(Str.ofString "key", .ref k)] (fun v new => ∃ t vs, v = .int (bis f M 0 M []).1 t ∧ Nums vs (bis f M 0 M []).2 ∧ new = [(asked, .list vs)]) s := by
  refine Spec.enter (ml := [(asked, .list [])]) (binds := bisB (.ref R) (.bool false) (.ref k) 498) (ln := bisR.ln) (gl := bisR.gl) P rfl ?_ (by simp) bisR_at rfl (fun s P => bisR_binds P _ _ _) (by simp only [bisB, List.map_cons, List.map_nil]; decide +kernel) (by kernel_rfl) (by decide +kernel) (by decide +kernel) (by decide +kernel) (by decide +kernel) (by decide +kernel) ?_
  · intro a c h
    rw [List.mem_singleton] at h
    cases h
    exact ⟨hask, h50⟩
  intro C L hw h0 hd hck G hin hco hq hsc hce
  replace hsc := scopeLit hsc
  have hR : ∀ led, RAtL C led R 0 M 1 := fun _ => .inr (by rw [h0]; exact hr)
  have hsz : Builtin.Range.rangeSize 0 (M : Int) 1 = M := by rw [rangeSize_one]; split <;> omega
  unfold bisB
  refine Tr.startN (loc := [(Str.ofString "a", some (Value.ref R)), (Str.ofString "x", some (Value.bool false)), (Str.ofString "lo", some (Value.int 0 498)), (Str.ofString "hi", some Value.none), (Str.ofString "key", some (Value.ref k)), (Str.ofString "mid", none)]) (cel := []) (by kernel_rfl) (by kernel_rfl) ?_
  refine Tr.execs_cons ?_
  refine Tr.ifS ?_
  refine Tr.isCmp1 ?_
  refine Tr.nameL (List.Mem.tail _ (List.Mem.tail _ (List.Mem.head _))) ?_
  refine Tr.int ?_
  intro _
  refine Mine.Tr.ltI ?_
  refine ⟨_, rfl, ?_⟩
  refine tr_ite (fun h => absurd h (by decide)) (fun _ => ?_)
  refine Tr.execs_nil ?_
  refine Then_next ?_
  refine Tr.execs_cons ?_
  refine Tr.ifS ?_
  refine Tr.isCmp1 ?_
  refine Tr.nameL (List.Mem.tail _ (List.Mem.tail _ (List.Mem.tail _ (List.Mem.head _)))) ?_
  refine Tr.nonec ?_
  refine Mine.Tr.isNoneNone ?_
  refine ⟨_, rfl, ?_⟩
  refine tr_iteT ?_
  refine Tr.execs_cons ?_
  refine Tr.assignN ?_
  refine Tr.callN ?_
  refine Tr.nameB (by assumption) (by decide +kernel) (Mine.b_len).1 (Mine.b_len).2.1 (Mine.b_len).2.2 ?_
  refine Tr.callW kept_builtin ?_
  refine Tr.spl_cons ?_
  refine Tr.nameL (List.Mem.head _) ?_
  refine Tr.spl_nil ?_
  refine Tr.lenRange (hR _) hsz (by omega) ?_
  intro _
  refine Tr.storeL (.tail (.tail (.tail .head))) ?_
  refine Then_next ?_
  refine Tr.execs_nil ?_
  refine Then_next ?_
  refine Tr.execs_cons ?_
  refine Tr.ifS ?_
  refine Tr.isCmp1 ?_
  refine Tr.nameL (List.Mem.tail _ (List.Mem.tail _ (List.Mem.tail _ (List.Mem.tail _ (List.Mem.head _))))) ?_
  refine Tr.nonec ?_
  refine Mine.Tr.isRefNone ?_
  refine ⟨_, rfl, ?_⟩
  refine tr_iteF ?_
  refine Tr.execs_cons ?_
  refine Tr.whileS (fun n S => ∃ (lo hi : Nat) (vs : List Value) (acc : List Nat) (t1 t2 : Tok) (ov : Option Value), hi ≤ M ∧ hi ≤ lo + n ∧ acc.length + n = M ∧ bis f n lo hi acc = bis f M 0 M [] ∧ Nums vs acc ∧
    S = ⟨[(Str.ofString "a", some (.ref R)), (Str.ofString "x", some (.bool false)), (Str.ofString "lo", some (.int lo t1)), (Str.ofString "hi", some (.int hi t2)), (Str.ofString "key", some (.ref k)), (Str.ofString "mid", ov)], [], [(asked, .list vs)]⟩) M
    ⟨0, M, [], [], _, _, none, Nat.le_refl _, by omega, by simp, rfl, .nil, rfl⟩ ?_
  rintro n S ⟨lo, hi, vs, acc, t1, t2, ov, h1, h2, h3, h4, h5, rfl⟩
  refine Tr.isCmp1 ?_
  refine Tr.nameL (List.Mem.tail _ (List.Mem.tail _ (List.Mem.head _))) ?_
  refine Tr.nameL (List.Mem.tail _ (List.Mem.tail _ (List.Mem.tail _ (List.Mem.head _)))) ?_
  refine Mine.Tr.ltI ?_
  refine ⟨_, rfl, ?_⟩
  refine tr_ite (fun hlt => ?_) (fun hlt => ?_)
  · have hlt' : lo < hi := by omega
    obtain ⟨n, rfl⟩ : ∃ m, n = m + 1 := ⟨n - 1, by omega⟩
    have hmid : (lo + hi) / 2 < hi ∧ lo ≤ (lo + hi) / 2 := by omega
    refine Tr.execs_cons ?_
    refine Tr.assignN ?_
    refine Tr.binop ?_
    refine Tr.binop ?_
    refine Tr.nameL (List.Mem.tail _ (List.Mem.tail _ (List.Mem.head _))) ?_
    refine Tr.nameL (List.Mem.tail _ (List.Mem.tail _ (List.Mem.tail _ (List.Mem.head _)))) ?_
    refine Tr.addI ?_
    intro _
    refine Tr.int ?_
    intro _
    refine Tr.divI (by decide) (by rfl) ?_
    intro _
    refine Tr.storeL (.tail (.tail (.tail (.tail (.tail .head))))) ?_
    refine Then_next ?_
    refine Tr.execs_cons ?_
    refine Tr.ifS ?_
    refine Tr.isCmp1 ?_
    refine Tr.nameL (List.Mem.tail _ (List.Mem.head _)) ?_
    refine Tr.callN ?_
    refine Tr.nameL (List.Mem.tail _ (List.Mem.tail _ (List.Mem.tail _ (List.Mem.tail _ (List.Mem.head _))))) ?_
    refine Tr.callW (kept_F (by rw [h0]; exact hk) hkf) ?_
    refine Tr.spl_cons ?_
    refine Tr.subscr ?_
    refine Tr.nameL (List.Mem.head _) ?_
    refine Tr.nameL (List.Mem.tail _ (List.Mem.tail _ (List.Mem.tail _ (List.Mem.tail _ (List.Mem.tail _ (List.Mem.head _)))))) ?_
    rw [half]
    refine Tr.itemRange (hR _) (by omega) (by rw [hsz]; omega) (by omega) fun t6 => ?_
    rw [show (0 : Int) + (((lo + hi) / 2 : Nat) : Int) * 1 = (((lo + hi) / 2 : Nat) : Int) by omega]
    refine Tr.spl_nil ?_
    refine Tr.callM (pre := [(asked, .list vs)]) (rest := []) (d := d) (by rw [hd]; exact Nat.le_refl _) (R := fun v new => v = .bool (f ((lo + hi) / 2)) ∧ ∃ t', new = [(asked, .list (vs ++ [.int (((lo + hi) / 2 : Nat) : Int) t']))]) (fun s' ok' H => ?_) ?_
    · rw [hw]
      refine hkey s' _ vs (by omega) (by rw [h5.length]; omega) (hw ▸ H.pre ok' (fun a ha => ?_)) (by rw [← h0]; exact H.keep) (H.led _ _ List.mem_cons_self) _
      simpa [St.addrs] using ha
    rintro v new ⟨rfl, t', rfl⟩
    refine Mine.Tr.ltB ?_
    refine ⟨_, rfl, ?_⟩
    have hb : bis f (n + 1) lo hi acc = if f ((lo + hi) / 2) then bis f n lo ((lo + hi) / 2) (acc ++ [(lo + hi) / 2]) else bis f n ((lo + hi) / 2 + 1) hi (acc ++ [(lo + hi) / 2]) := by
      show (if lo < hi then _ else _) = _
      rw [if_pos hlt']
    rw [hb] at h4
    refine tr_iteB (fun hf => ?_) (fun hf => ?_)
    · have hf' : f ((lo + hi) / 2) = true := by simpa using hf
      rw [hf'] at h4
      refine Tr.execs_cons ?_
      refine Tr.assignN ?_
      refine Tr.nameL (List.Mem.tail _ (List.Mem.tail _ (List.Mem.tail _ (List.Mem.tail _ (List.Mem.tail _ (List.Mem.head _)))))) ?_
      refine Tr.storeL (.tail (.tail (.tail .head))) ?_
      refine Then_next ?_
      refine Tr.execs_nil ?_
      refine Then_next ?_
      refine Tr.execs_nil ?_
      exact ⟨n, Nat.lt_succ_self _, lo, (lo + hi) / 2, _, _, _, _, _, by omega, by omega, by rw [List.length_append, List.length_singleton]; omega, h4, h5.snoc _ t', rfl⟩
    · have hf' : f ((lo + hi) / 2) = false := by simpa using hf
      rw [hf'] at h4
      refine Tr.execs_cons ?_
      refine Tr.assignN ?_
      refine Tr.binop ?_
      refine Tr.nameL (List.Mem.tail _ (List.Mem.tail _ (List.Mem.tail _ (List.Mem.tail _ (List.Mem.tail _ (List.Mem.head _)))))) ?_
      refine Tr.int ?_
      intro _
      refine Tr.addI ?_
      intro _
      refine Tr.storeL (.tail (.tail .head)) ?_
      refine Then_next ?_
      refine Tr.execs_nil ?_
      refine Then_next ?_
      refine Tr.execs_nil ?_
      exact ⟨n, Nat.lt_succ_self _, (lo + hi) / 2 + 1, hi, _, _, _, _, _, h1, by omega, by rw [List.length_append, List.length_singleton]; omega, h4, h5.snoc _ t', by push_cast; rfl⟩
  · have hlt' : ¬ lo < hi := by omega
    refine Then_next ?_
    refine Tr.execs_nil ?_
    refine Then_next ?_
    refine Tr.execs_cons ?_
    refine Tr.ret ?_
    refine Tr.nameL (List.Mem.tail _ (List.Mem.tail _ (List.Mem.head _))) ?_
    refine Then_ret ?_
    rw [bis_end f n lo hi acc hlt'] at h4
    rw [← h4]
    exact ⟨_, _, rfl, h5, rfl⟩
end Mine
end
section
open PySem PySem.W PySem.Calls PyProof PyProof.Rows PySem.Spec PyProof.V PySem.Builtin.Str
set_option linter.unusedVariables false
namespace Mine
theorem glb_of {C C' : Cx} {sc : Scope} (cx : CompCx C C' sc) (gl : List Str) (h : (gl.all fun x => sc.names.lookup x == some .globalImplicit) = true) : Glb C' gl := fun x hx => cx.glb x (beq_iff_eq.mp (List.all_eq_true.mp h x hx))
open PySem.SeqAt in
theorem Tr.neNil {C : Cx} {S : St} {a b : Addr} {vs : List Value} {Q : Value → St → Prop} (La : LAt C S a vs) (Lb : LAt C S b []) (h : Q (.bool (!decide (vs = []))) S) : Tr C (compareOp .NotEq (.ref a) (.ref b)) Q S := by
  intro ok s H
  have hu : C.A.units < cLine := by have := ok.units; omega
  by_cases e : vs = []
  · subst e
    exact RcNeAt.lists (e := fun _ => true) (La.is H) (Lb.is H) rfl hu (fun j h1 => absurd h1 (by simp)) _ _ _ _ ⟨S, H, h⟩
  · refine RcNeAt.lists_lengths (La.is H) (Lb.is H) ?_ hu _ _ _ _ ⟨S, H, by simpa [e] using h⟩
    simp [e]
open PySem.SeqAt in
theorem Tr.eqNil {C : Cx} {S : St} {a b : Addr} {vs : List Value} {Q : Value → St → Prop} (La : LAt C S a vs) (Lb : LAt C S b []) (h : Q (.bool (decide (vs = []))) S) : Tr C (compareOp .Eq (.ref a) (.ref b)) Q S := by
  intro ok s H
  have hu : C.A.units < cLine := by have := ok.units; omega
  by_cases e : vs = []
  · subst e
    exact RcAt.lists (e := fun _ => true) (La.is H) (Lb.is H) rfl hu (fun j h1 => absurd h1 (by simp)) _ _ _ _ ⟨S, H, h⟩
  · refine RcAt.lists_lengths (La.is H) (Lb.is H) ?_ hu _ _ _ _ ⟨S, H, by simpa [e] using h⟩
    simp [e]

theorem nums_of : ∀ {vs : List Value} {ns : List Nat}, vs.length = ns.length → (∀ (i n : Nat), ns[i]? = some n → ∃ t, vs[i]? = some (Value.int (n : Nat) t)) → Nums vs ns
  | [], [], _, _ => .nil
  | v :: vs, n :: ns, h, hi => by
    obtain ⟨t, e⟩ := hi 0 n rfl
    simp at e; subst e
    exact .cons n t (nums_of (by simpa using h) fun i m e => hi (i + 1) m e)
theorem nums_range {vs : List Value} {a n : Nat} (h : IntsFrom vs (fun i => (a : Int) + i * 1) n) : Nums vs (List.range' a n) := by
  refine nums_of (by rw [h.1, List.length_range']) fun i m e => ?_
  obtain ⟨hl, e⟩ := List.getElem?_eq_some_iff.mp e
  rw [List.length_range'] at hl
  obtain ⟨t, e2⟩ := h.2 i hl
  rw [List.getElem_range'] at e
  exact ⟨t, by rw [e2]; congr 2; dsimp only; omega⟩
theorem lts_mem (c : Nat) (m : List Nat) : decide ([c] ∈ m.map fun c => [c]) = decide (c ∈ m) := by
  rw [decide_eq_decide, List.mem_map]
  exact ⟨fun ⟨d, hd, e⟩ => by cases e; exact hd, fun h => ⟨c, h, rfl⟩⟩
def MAt (C : Cx) (S : St) (m : List Nat) (v : Value) : Prop := (∃ t, v = .str (tx m) t) ∨ ∃ b vs, v = .ref b ∧ LAt C S b vs ∧ Lts vs m
theorem Tr.inM {C : Cx} {S : St} {c : Nat} {m : List Nat} {v : Value} {t : Tok} {Q : Value → St → Prop} (hm : MAt C S m v) (h : Q (.bool (decide (c ∈ m))) S) : Tr C (compareOp .In (.str (tx [c]) t) v) Q S := by
  rcases hm with ⟨u, rfl⟩ | ⟨b, vs, rfl, hb, hl⟩
  · exact Tr.inS1 h
  · exact Tr.inL hb hl (by rw [lts_mem]; exact h)
theorem isList_up {h h' : Heap} (k : Sub h h') {a : Addr} {vs : Array Value} (x : h.IsList a vs) : h'.IsList a vs := by
  obtain ⟨o, e, r⟩ := x
  exact ⟨o, k _ _ e, r⟩
def LB (s : Shared) (a : Addr) (vs : List Value) : Prop := (hideAll s.heap (50 :: 50 :: [])).IsList a vs.toArray
def MB (s : Shared) (m : List Nat) (v : Value) : Prop := (∃ t, v = .str (tx m) t) ∨ ∃ b vs, v = .ref b ∧ LB s b vs ∧ Lts vs m
def stepP (nm m : List Nat) (p : Nat) : Bool := decide (p < nm.length) && decide (nm.getD p 0 ∈ m)
def stepOf (nm ps m : List Nat) (star : Bool) : List Nat := if star then (match ps with | [] => [] | p :: _ => List.range' p (nm.length + 1 - p)) else (ps.filter (stepP nm m)).map (· + 1)

noncomputable def step.fd : FuncData := fdAt 93
noncomputable def step.ln : List Str := lnOf step.fd
noncomputable def step.gl : List Str := glOf step.fd
theorem step_at : FnAt 93 step.fd := ⟨fun _ => ⟨_, _, _, rfl⟩, fun _ => rfl, rfl, rfl, rfl, rfl, rfl, rfl⟩
theorem b_range : (∀ P, nsIn (hd.heap_39 P) mainGlobals (Str.ofString "range") = some none) ∧ bootBuiltins (Str.ofString "range") = some (.type "range") ∧ (Str.ofString "range") ≠ "__name__" := ⟨fun _ => rfl, by first | rfl | decide +kernel, by decide +kernel⟩
theorem b_list : (∀ P, nsIn (hd.heap_39 P) mainGlobals (Str.ofString "list") = some none) ∧ bootBuiltins (Str.ofString "list") = some (.type "list") ∧ (Str.ofString "list") ≠ "__name__" := ⟨fun _ => rfl, by first | rfl | decide +kernel, by decide +kernel⟩

theorem step_spec {w : World} {s : Shared} (P : Pre w [] s) (nm ps m : List Nat) (star : Bool) (pl : Addr) (vs : List Value) (sg : Value) (t : Tok) (hz : nm.length ≤ 100) (hps : ∀ p ∈ ps, p ≤ nm.length) (hpl : LB s pl vs) (hvs : Nums vs ps) (hn : ps.length ≤ 100) (hsg : MB s m sg) :
    Spec w [] 2 (.ref 93) [.str (tx nm) t, .ref pl, sg, .bool star] [] (fun v new => ∃ D us, v = .ref D ∧ (D, Ct.list us) ∈ new ∧ Nums us (stepOf nm ps m star)) s := by
  refine Spec.enter (ml := []) (binds := [(Str.ofString "name", .str (tx nm) t), (Str.ofString "places", .ref pl), (Str.ofString "signs", sg), (Str.ofString "starred", .bool star)]) (ln := step.ln) (gl := step.gl) (by assumption) rfl (fun a c h => nomatch h) List.nodup_nil step_at rfl (fun s _ => BindsTo.of_eq rfl) (by simp only [List.map_cons, List.map_nil]; decide +kernel) (by kernel_rfl) (by decide +kernel) (by decide +kernel) (by decide +kernel) (by decide +kernel) (by decide +kernel) ?_
  intro C L hw h0 hd hck G hin hco hq hsc hce
  replace hsc := scopeLit hsc
  refine Tr.startN (loc := [(Str.ofString "places", some (Value.ref pl)), (Str.ofString "starred", some (Value.bool star))]) (cel := [(Str.ofString "signs", L + 1 + 1, some sg), (Str.ofString "name", L + 1, some (Value.str (tx nm) t))]) (by kernel_rfl) (by kernel_rfl) ?_
  have hL : ∀ S, LAt C S pl vs := fun S => .inr (by rw [h0]; exact hpl)
  refine Tr.execs_cons ?_
  refine Tr.ifS ?_
  refine Tr.isVal ?_
  refine Tr.nameL (List.Mem.tail _ (List.Mem.head _)) ?_
  refine Tr.truthyB ?_
  refine tr_iteB (fun hs => ?_) (fun hs => ?_)
  · subst hs
    refine Tr.execs_cons ?_
    refine Tr.ret ?_
    refine Tr.ifE ?_
    refine Tr.isCmp1 ?_
    refine Tr.nameL (List.Mem.head _) ?_
    refine Tr.list ?_
    refine Tr.spl_nil ?_
    refine Tr.newList (by first | decide | (simp only [List.length_cons, List.length_nil]; decide)) ?_
    intro _
    refine Tr.neNil (hL _) (.inl (.head _)) ?_
    refine ⟨_, rfl, ?_⟩
    refine tr_iteN (fun he => ?_) (fun he => ?_)
    · refine Tr.callN ?_
      refine Tr.nameB (by assumption) (by decide +kernel) (Mine.b_list).1 (Mine.b_list).2.1 (Mine.b_list).2.2 ?_
      refine Tr.callW kept_type ?_
      refine Tr.spl_cons ?_
      refine Tr.callN ?_
      refine Tr.nameB (by assumption) (by decide +kernel) (Mine.b_range).1 (Mine.b_range).2.1 (Mine.b_range).2.2 ?_
      refine Tr.callW kept_type ?_
      refine Tr.spl_cons ?_
      refine Tr.subscr ?_
      refine Tr.nameL (List.Mem.head _) ?_
      refine Tr.int ?_
      intro _
      cases hvs with
      | nil => exact absurd rfl he
      | cons p tp hr =>
        rename_i vs' ps'
        have hp := hps p List.mem_cons_self
        refine Tr.item (hL _) (by omega) (by omega) rfl ?_
        refine Tr.spl_cons ?_
        refine Tr.binop ?_
        refine Tr.callN ?_
        refine Tr.nameB (by assumption) (by decide +kernel) (Mine.b_len).1 (Mine.b_len).2.1 (Mine.b_len).2.2 ?_
        refine Tr.callW kept_builtin ?_
        refine Tr.spl_cons ?_
        refine Tr.nameC (List.Mem.tail _ (List.Mem.head _)) ?_
        refine Tr.spl_nil ?_
        refine Tr.lenStr (by (first | decide | assumption | (simp only [sizeLine_eq, List.length_append, List.length_cons, List.length_nil, List.length_map, List.length_range] at *; omega) | omega)) ?_
        intro _
        refine Tr.int ?_
        intro _
        refine Tr.addI ?_
        intro _
        refine Tr.spl_nil ?_
        refine Tr.range2 fun r => ?_
        refine Tr.spl_nil ?_
        have hsz : Builtin.Range.rangeSize (p : Int) ((nm.length : Int) + 1) 1 = ((nm.length + 1 - p : Nat) : Int) := by rw [rangeSize_one]; split <;> omega
        refine Tr.listRange (.inl (.head _)) (small_one (by omega) (by omega) (by omega) (by omega)) hsz (by omega) fun D us hu => ?_
        refine Then_ret ?_
        refine Then_ret ?_
        exact ⟨_, _, rfl, .head _, nums_range hu⟩
    · subst he
      cases hvs
      refine Tr.list ?_
      refine Tr.spl_nil ?_
      refine Tr.newList (by first | decide | (simp only [List.length_cons, List.length_nil]; decide)) ?_
      intro _
      refine Then_ret ?_
      refine Then_ret ?_
      exact ⟨_, _, rfl, .head _, .nil⟩
  · subst hs
    refine Tr.execs_nil ?_
    refine Then_next ?_
    refine Tr.execs_cons ?_
    refine Tr.ret ?_
    refine Tr.listComp [Str.ofString "place"] hck (by kernel_rfl) ?_
    refine Tr.nameL (List.Mem.head _) ?_
    refine ⟨vs.length, _, _, fun i ys led' => led' = [] ∧ Nums ys (((ps.take i).filter (stepP nm m)).map (· + 1)), ⟨src_list, by rw [sizeLine_eq, hvs.length]; omega, by kernel_rfl, .inl ⟨_, _, rfl, Nat.le_refl _⟩, .inr (by rw [h0]; exact hpl), ⟨rfl, .nil⟩, fun _ _ _ _ _ => .inr (by rw [h0]; exact hpl), ?_⟩, ?_⟩
    · intro C' cx i ys led own v hin hv hJ hown
      rw [own_nil hown]
      obtain ⟨rfl, hy⟩ := hJ
      have hip : i < ps.length := by rw [← hvs.length]; exact hin
      obtain ⟨u, hu⟩ := hvs.get (List.getElem?_eq_getElem hip)
      have hv' : v = .int (ps[i] : Nat) u := by
        have hv2 : vs[i]? = some v := hv
        rw [hv2] at hu; exact Option.some.inj hu
      subst hv'
      have e := take_succ_filter (stepP nm m) ps i ps[i] (List.getElem?_eq_getElem hip)
      have G' := glb_of cx [Str.ofString "len"] (by kernel_rfl)
      have hpz : ps[i] ≤ nm.length := hps _ (List.getElem_mem hip)
      generalize ps[i] = p at *
      generalize hcap9 : capOf _ _ = cel9
      have ecap9 := Eq.trans (Eq.symm hcap9) (CapR.eq (.keep (by kernel_rfl) (.keep (by kernel_rfl) (.nil))))
      clear hcap9
      subst ecap9
      change Tr _ _ _ _
      set_option simprocs false in (conv => arg 4; dsimp only [List.cons_append, List.nil_append, List.map_cons, List.map_nil])
      refine Tr.aName ?_
      set_option simprocs false in (conv => arg 4; dsimp only [List.cons_append, List.nil_append, List.map_cons, List.map_nil])
      refine Tr.storeL .head ?_
      refine Tst_one ?_
      refine Tr.isBool ?_
      refine Tr.and_cons ?_
      refine Tr.isCmp1 ?_
      refine Tr.nameL (List.Mem.head _) ?_
      refine Tr.callN ?_
      refine Tr.nameB (by assumption) (by decide +kernel) (Mine.b_len).1 (Mine.b_len).2.1 (Mine.b_len).2.2 ?_
      refine Tr.callW kept_builtin ?_
      refine Tr.spl_cons ?_
      refine Tr.nameC (List.Mem.tail _ (List.Mem.head _)) ?_
      refine Tr.spl_nil ?_
      refine Tr.lenStr (by (first | decide | assumption | (simp only [sizeLine_eq, List.length_append, List.length_cons, List.length_nil, List.length_map, List.length_range] at *; omega) | omega)) ?_
      intro _
      refine Mine.Tr.ltI ?_
      refine ⟨_, rfl, ?_⟩
      refine tr_ite (fun hlt => ?_) (fun hlt => ?_)
      · have hlt' : p < nm.length := by omega
        refine Tr.and_cons ?_
        refine Tr.isCmp1 ?_
        refine Tr.subscr ?_
        refine Tr.nameC (List.Mem.tail _ (List.Mem.head _)) ?_
        refine Tr.nameL (List.Mem.head _) ?_
        refine Tr.itemStr (c := nm.getD p 0) (by omega) ⟨by omega, by omega⟩ ?_ ?_
        · rw [if_neg (by omega), Int.toNat_natCast, List.getD_eq_getElem?_getD, List.getElem?_eq_getElem hlt']; rfl
        intro _
        refine Tr.nameC (List.Mem.head _) ?_
        refine Tr.inM (m := m) ?_ ?_
        · refine hsg.imp id fun ⟨b, ws, e1, e2, e3⟩ => ⟨b, ws, e1, .inr (isList_up cx.sub (by rw [h0]; exact e2)), e3⟩
        refine ⟨_, rfl, ?_⟩
        refine tr_ite (fun hm => ?_) (fun hm => ?_)
        · refine Tr.and_nil ?_
          refine tr_iteT ?_
          refine Tr.binop ?_
          refine Tr.nameL (List.Mem.head _) ?_
          refine Tr.int ?_
          intro _
          refine Tr.addI ?_
          intro _
          refine ⟨⟨[], rfl, by kernel_rfl⟩, rfl, ?_⟩
          have : stepP nm m p = true := by simp only [stepP, hlt', hm, decide_true, Bool.and_true]
          rw [e, this, if_pos rfl, List.map_append]
          exact hy.snoc (p + 1) _
        · refine tr_iteF ?_
          refine ⟨⟨[], rfl, by kernel_rfl⟩, rfl, ?_⟩
          have : stepP nm m p = false := by simp only [stepP, hm, decide_false, Bool.and_false]
          rw [e, this, if_neg (by decide), List.append_nil]
          exact hy
      · have hlt' : ¬ p < nm.length := by omega
        refine tr_iteF ?_
        refine ⟨⟨[], rfl, by kernel_rfl⟩, rfl, ?_⟩
        have : stepP nm m p = false := by simp [stepP, hlt']
        rw [e, this, if_neg (by decide), List.append_nil]
        exact hy
    · rintro D ys led ⟨rfl, hy⟩
      refine Then_ret ?_
      rw [List.take_of_length_le (by rw [hvs.length]; exact Nat.le_refl _)] at hy
      exact ⟨_, _, rfl, .head _, hy⟩
end Mine
end
section
open PySem PySem.W PySem.Calls PyProof PyProof.Rows PySem.Spec PyProof.V PySem.Builtin.Str
set_option linter.unusedVariables false
namespace Mine
section
variable {prog : Program} {w : World} {A : Around} {E : Value → Shared → Prop} {s : Shared}
theorem isList_up_but {h h' : Heap} {a b : Addr} {vs : Array Value} (x : h.IsList a vs) (k : Heap.ExtBut b h h') (hn : a ≠ b) : h'.IsList a vs := by
  obtain ⟨o, e, r⟩ := x
  exact ⟨o, k _ _ hn e, r⟩
theorem draw_list {it t : Addr} {items : Array Value} (hne : t ≠ it) : ∀ (n i : Nat) (s : Shared) (Q : List Value → Shared → Prop), s.heap.IsListIter it t i → s.heap.IsList t items → i + n ≤ items.size →
    (∀ h', h'.IsListIter it t (i + n) → Heap.SameBut it s.heap h' → Q ((items.toList.drop i).take n) { s with heap := h' }) → wpAny (model prog w) A (draw (.ref it) n) Q E s
  | 0, i, s, Q, hit, _, _, hQ => wpAny_pure (by simpa using hQ s.heap hit (Heap.SameBut.refl ..))
  | n + 1, i, s, Q, hit, ht, hle, hQ => by
    have hlt : i < items.size := by omega
    show wpAny _ _ (pyNext (.ref it) >>= _) Q E s
    refine wpAny_bind (wpAny_pyNext_list_item hit ht (x := items[i]) (by simp [hlt]) fun h₁ hit₁ hs₁ => ?_)
    refine wpAny_bind (wpAny_holding (draw_list hne n (i + 1) _ _ hit₁ (isList_up_but ht hs₁.extBut hne) (by omega) fun h₂ hit₂ hs₂ => wpAny_pure ?_))
    have hd : items.toList.drop i = items[i] :: items.toList.drop (i + 1) := by simp [List.drop_eq_getElem_cons, hlt]
    have := hQ h₂ (by rw [show i + (n + 1) = i + 1 + n by omega]; exact hit₂) (hs₁.trans hs₂)
    rw [hd, List.take_succ_cons] at this
    exact this
theorem unpackItems_list {t : Addr} {items : Array Value} {Q : List Value → Shared → Prop} (hh : A.handled = none) (ht : s.heap.IsList t items)
    (hQ : ∀ h', Heap.ExtBut s.heap.objs.size s.heap h' → Q items.toList { s with heap := h' }) : wpAny (model prog w) A (unpackItems (.ref t) items.size none) Q E s := by
  have hlt : t ≠ s.heap.objs.size := by obtain ⟨o, ho, _⟩ := ht; exact Nat.ne_of_lt (Heap.lt_size ho)
  unfold unpackItems
  refine wpAny_bind ?_
  unfold notIterableAtAll
  refine wpAny_bind (wpAny_specialOf ht.typeIs slot_list_iter.lookup ?_)
  refine wpAny_pure ?_
  simp only [Bool.false_eq_true, if_false]
  refine wpAny_bind (wpAny_holding (wpAny_pyIter_list ht ?_))
  refine wpAny_bind (wpAny_holding (draw_list hlt items.size 0 _ _ ⟨_, Heap.get?_push_size _ rfl, rfl, rfl⟩ (ht.push _) (by omega) fun h₁ hit₁ hs₁ => ?_))
  have hall : List.take items.size (List.drop 0 items.toList) = items.toList := by
    rw [List.drop_zero]; exact List.take_of_length_le (by simp)
  rw [hall]
  rw [if_neg (by simp)]
  have ht₁ : h₁.IsList t items := isList_up_but (ht.push _) hs₁.extBut hlt
  refine wpAny_bind (wpAny_holding (wpAny_pyNext_list_end hh hit₁ ht₁ (by simp) fun h₂ he₂ => ?_))
  simp only [Option.isSome_none, Bool.false_eq_true, if_false]
  refine wpAny_pure (hQ h₂ fun b o hb e => he₂ b o hb (hs₁.extBut b o hb (Heap.get?_push_of_some _ e)))
end
section
variable {C : Cx} {S : St}
theorem Tr.aList {elts : List Expr} {k : Nat} {pos : Pos} {T : Addr} {vs : List Value} {Q : Unit → St → Prop} (hT : LAt C S T vs) (h : Tr C (assignInOrder ((assignEach elts C.env).map (·.2)) vs) Q S)
    (hn : (assignEach elts C.env).length = vs.length := by rfl) (hst : (assignEach elts C.env).findIdx? (·.1) = none := by rfl) : Tr C (assign (.Tuple elts k pos) C.env (.ref T)) Q S := by
  intro ok s H
  rw [arm_assign_Tuple]
  refine wpAny_bind (wpAny_standAt ?_)
  unfold unpack
  rw [hst, hn, show vs.length = vs.toArray.size by simp]
  refine wpAny_bind (wpAny_holding (unpackItems_list ok.hd (hT.is H) fun h' hx => ?_))
  obtain ⟨loc, cel, led⟩ := S
  exact h ok _ (H.extNew ok hx s.toks)
theorem Holds.lb {a : Addr} {vs : List Value} {s : Shared} (ok : C.Ok) (H : Holds C S s) (h : LAt C S a vs) : LB s a vs := by
  have hne : a ≠ 50 ∧ a ≠ 50 := by
    rcases h with h | ⟨o, e, _⟩
    · exact (H.out a (St.out_led h)).2.2
    · exact ⟨fun q => (by rw [q, ok.n1] at e; cases e), fun q => (by rw [q, ok.n2] at e; cases e)⟩
  obtain ⟨o, e, r⟩ := h.is H
  exact ⟨o, hideAll_get _ e (by simp [hne.1, hne.2]), r⟩
theorem Holds.mb {m : List Nat} {v : Value} {s : Shared} (ok : C.Ok) (H : Holds C S s) (h : MAt C S m v) : MB s m v :=
  h.imp id fun ⟨b, vs, e1, e2, e3⟩ => ⟨b, vs, e1, H.lb ok e2, e3⟩
end
end Mine
end
section
open PySem PySem.W PySem.Calls PyProof PyProof.Rows PySem.Spec PyProof.V PySem.Builtin.Str
set_option linter.unusedVariables false
namespace Mine
def MH (h : Heap) (m : List Nat) (v : Value) : Prop := (∃ t, v = .str (tx m) t) ∨ ∃ b vs, v = .ref b ∧ h.IsList b (vs : List Value).toArray ∧ Lts vs m
def PH (h : Heap) (p : Option (List Nat)) (v : Value) : Prop := match p with
  | some l => ∃ t, v = .str (tx l) t
  | none => ∃ b t, v = .ref b ∧ h.IsList b ([.str (tx [42]) t] : List Value).toArray
def ItemH (h : Heap) (it : Item) (v : Value) : Prop := ∃ a tt mv pv, v = .ref a ∧ h.IsList a ([.str (tx it.text) tt, mv, pv] : List Value).toArray ∧ MH h it.means mv ∧ PH h it.part pv
def ItemsH (h : Heap) (its : List Item) (vs : List Value) : Prop := vs.length = its.length ∧ ∀ (i : Nat) (it : Item) (v : Value), its[i]? = some it → vs[i]? = some v → ItemH h it v

theorem MH.at {C : Cx} {S : St} {h : Heap} {m : List Nat} {v : Value} (h0 : C.h₀ = h) (x : MH h m v) : MAt C S m v :=
  x.imp id fun ⟨b, vs, e1, e2, e3⟩ => ⟨b, vs, e1, .inr (by rw [h0]; exact e2), e3⟩
def metStep (nm : List Nat) (st : Nat × List Nat) (it : Item) : Nat × List Nat :=
  (if stepOf nm st.2 it.means (decide (it.text = [42])) ≠ [] then st.1 + 1 else st.1, stepOf nm st.2 it.means (decide (it.text = [42])))
def metOf (nm : List Nat) (its : List Item) : Nat × List Nat := its.foldl (metStep nm) (0, [0])
def PlOk (nm ps : List Nat) : Prop := (∀ p ∈ ps, p ≤ nm.length) ∧ ps.length ≤ nm.length + 1
theorem PlOk.step {nm ps m : List Nat} {b : Bool} (h : PlOk nm ps) : PlOk nm (stepOf nm ps m b) := by
  unfold stepOf
  cases b with
  | true =>
    simp only [if_true]
    cases ps with
    | nil => exact ⟨fun p hp => by simp at hp, by simp⟩
    | cons p r =>
      refine ⟨fun q hq => ?_, by simp⟩
      have hp := h.1 p List.mem_cons_self
      have := List.mem_range'.mp hq
      obtain ⟨i, hi, e⟩ := this
      omega
  | false =>
    simp only [Bool.false_eq_true, if_false]
    refine ⟨fun q hq => ?_, ?_⟩
    · obtain ⟨p, hp, rfl⟩ := List.mem_map.mp hq
      have := (List.mem_filter.mp hp).2
      simp only [stepP, Bool.and_eq_true, decide_eq_true_eq] at this
      omega
    · rw [List.length_map]
      exact Nat.le_trans (List.length_filter_le ..) h.2
theorem Pick.app {a : Addr} {c : Ct} {l l' : Led} (h : Pick a c l l') : ∀ pre : Led, Pick a c (pre ++ l) (pre ++ l')
  | [] => h
  | _ :: r => .tail (Pick.app h r)

noncomputable def met.fd : FuncData := fdAt 107
noncomputable def met.ln : List Str := lnOf met.fd
noncomputable def met.gl : List Str := glOf met.fd
theorem met_at : FnAt 107 met.fd := ⟨fun _ => ⟨_, _, _, rfl⟩, fun _ => rfl, rfl, rfl, rfl, rfl, rfl, rfl⟩
theorem g__law_step : ∀ P, nsIn (hd.heap_39 P) mainGlobals (Str.ofString "_law_step") = some (some (.ref 93)) := fun _ => rfl

theorem met_spec {w : World} {s : Shared} (P : Pre w [] s) (nm : List Nat) (t : Tok) (il : Addr) (vs : List Value) (its : List Item) (hz : nm.length ≤ 90) (hil : LB s il vs) (hits : ItemsH (hideAll s.heap (50 :: 50 :: [])) its vs) (hn : its.length ≤ 100) :
    Spec w [] 3 (.ref 107) [.str (tx nm) t, .ref il] [] (fun v new => ∃ t, v = .int ((metOf nm its).1 : Nat) t) s := by
  refine Spec.enter (ml := []) (binds := [(Str.ofString "name", .str (tx nm) t), (Str.ofString "items", .ref il)]) (ln := met.ln) (gl := met.gl) (by assumption) rfl (fun a c h => nomatch h) List.nodup_nil met_at rfl (fun s _ => BindsTo.of_eq rfl) (by simp only [List.map_cons, List.map_nil]; decide +kernel) (by kernel_rfl) (by decide +kernel) (by decide +kernel) (by decide +kernel) (by decide +kernel) (by decide +kernel) ?_
  intro C L hw h0 hd hck G hin hco hq hsc hce
  replace hsc := scopeLit hsc
  refine Tr.startN (loc := [(Str.ofString "name", some (Value.str (tx nm) t)), (Str.ofString "items", some (Value.ref il)), (Str.ofString "met", none), (Str.ofString "places", none), (Str.ofString "text", none), (Str.ofString "means", none), (Str.ofString "part", none)]) (cel := []) (by kernel_rfl) (by kernel_rfl) ?_
  refine Tr.execs_cons ?_
  refine Mine.Tr.assignSw (by assumption) ?_
  refine Tr.tuple ?_
  refine Tr.spl_cons ?_
  refine Tr.int ?_
  intro _
  refine Tr.spl_cons ?_
  refine Tr.list ?_
  refine Tr.spl_cons ?_
  refine Tr.int ?_
  intro _
  refine Tr.spl_nil ?_
  refine Tr.newList (by first | decide | (simp only [List.length_cons, List.length_nil]; decide)) ?_
  intro _
  refine Tr.spl_nil ?_
  refine Tr.newTuple (by first | decide | (simp only [List.length_cons, List.length_nil]; decide)) ?_
  intro _
  refine ⟨_, _, rfl, .inl (.head _), rfl, ?_⟩
  refine Mine.Tr.aio_cons ?_
  refine Mine.Tr.bindN ?_
  refine Tr.storeL (.tail (.tail (.tail .head))) ?_
  refine Mine.Tr.aio_cons ?_
  refine Mine.Tr.bindN ?_
  refine Tr.storeL (.tail (.tail .head)) ?_
  refine Mine.Tr.aio_nil ?_
  refine Then_next ?_
  refine Tr.execs_cons ?_
  refine Tr.forS (n := its.length) (P := fun i v => vs[i]? = some v) (F := fun led => LAtL C led il vs) (fun i S => ∃ pl us tm o1 o2 o3 led, S = ⟨[(Str.ofString "name", some (.str (tx nm) t)), (Str.ofString "items", some (.ref il)), (Str.ofString "met", some (.int ((((its.take i).foldl (metStep nm) (0, [0])).1 : Nat) : Int) tm)), (Str.ofString "places", some (.ref pl)), (Str.ofString "text", o1), (Str.ofString "means", o2), (Str.ofString "part", o3)], [], led⟩ ∧
    (pl, Ct.list us) ∈ led ∧ Nums us ((its.take i).foldl (metStep nm) (0, [0])).2 ∧ PlOk nm ((its.take i).foldl (metStep nm) (0, [0])).2) ?_ ?_ ?_ ?_ ?_
  · refine Tr.nameL (List.Mem.tail _ (List.Mem.head _)) ?_
    refine ⟨by rw [← hits.1]; exact src_list, .inr (by rw [h0]; exact hil), _, _, _, _, _, _, _, rfl, .tail _ (.head _), .cons 0 _ .nil, ⟨fun p hp => ?_, ?_⟩⟩
    · simp at hp; omega
    · simp
  · intro i S _
    exact .inr (by rw [h0]; exact hil)
  · rintro i S it K x hi hx ⟨pl, us, tm, o1, o2, o3, led, rfl, hpl, hus, hpo⟩
    obtain ⟨a, tt, mv, pv, rfl, ha, hmv, hpv⟩ := hits.2 i its[i] x (List.getElem?_eq_getElem hi) hx
    have efold : (its.take (i + 1)).foldl (metStep nm) (0, [0]) = metStep nm ((its.take i).foldl (metStep nm) (0, [0])) its[i] := by
      rw [List.take_succ_eq_append_getElem hi, List.foldl_append]; rfl
    generalize its[i] = item at *
    generalize (its.take i).foldl (metStep nm) (0, [0]) = st at *
    refine Tr.aList (vs := [.str (tx item.text) tt, mv, pv]) (.inr (by rw [h0]; exact ha)) ?_
    set_option simprocs false in (conv => arg 4; dsimp only [List.cons_append, List.nil_append, List.map_cons, List.map_nil])
    refine Mine.Tr.aio_cons ?_
    refine Tr.aName ?_
    refine Tr.storeL (.tail (.tail (.tail (.tail .head)))) ?_
    refine Mine.Tr.aio_cons ?_
    refine Tr.aName ?_
    refine Tr.storeL (.tail (.tail (.tail (.tail (.tail .head))))) ?_
    refine Mine.Tr.aio_cons ?_
    refine Tr.aName ?_
    refine Tr.storeL (.tail (.tail (.tail (.tail (.tail (.tail .head)))))) ?_
    refine Mine.Tr.aio_nil ?_
    refine Tr.execs_cons ?_
    refine Tr.assignN ?_
    refine Tr.callN ?_
    refine Tr.nameG (by assumption) (by decide +kernel) Mine.g__law_step ?_
    refine Tr.callW (kept_K (fun _ => rfl)) ?_
    refine Tr.spl_cons ?_
    refine Tr.nameL (List.Mem.head _) ?_
    refine Tr.spl_cons ?_
    refine Tr.nameL (List.Mem.tail _ (List.Mem.tail _ (List.Mem.tail _ (List.Mem.head _)))) ?_
    refine Tr.spl_cons ?_
    refine Tr.nameL (List.Mem.tail _ (List.Mem.tail _ (List.Mem.tail _ (List.Mem.tail _ (List.Mem.tail _ (List.Mem.head _)))))) ?_
    refine Tr.spl_cons ?_
    refine Tr.cmp1 ?_
    refine Tr.nameL (List.Mem.tail _ (List.Mem.tail _ (List.Mem.tail _ (List.Mem.tail _ (List.Mem.head _))))) ?_
    refine Tr.strT ([42] : List Nat) (by decide +kernel) ?_
    intro _
    refine Mine.Tr.eqS ?_
    refine Tr.spl_nil ?_
    refine Tr.call0 (d := 2) (by rw [hd]; exact Nat.le_refl _) (R := fun v new => ∃ D us, v = .ref D ∧ (D, Ct.list us) ∈ new ∧ Nums us (stepOf nm st.2 item.means (decide (item.text = [42])))) (fun s' ok' H => ?_) ?_
    · rw [hw]
      exact step_spec (hw ▸ H.pre0 ok') nm st.2 item.means _ pl us mv t (by omega) hpo.1 (H.lb ok' (.inl (.tail _ hpl))) hus (by have := hpo.2; omega) (H.mb ok' (hmv.at h0))
    rintro v new ⟨D, us2, rfl, hD, hu2⟩
    have hnew : PlOk nm (metStep nm st item).2 := hpo.step
    refine Tr.storeL (.tail (.tail (.tail .head))) ?_
    refine Then_next ?_
    refine Tr.execs_cons ?_
    refine Tr.assignN ?_
    refine Tr.ifE ?_
    refine Tr.isCmp1 ?_
    refine Tr.nameL (List.Mem.tail _ (List.Mem.tail _ (List.Mem.tail _ (List.Mem.head _)))) ?_
    refine Tr.list ?_
    refine Tr.spl_nil ?_
    refine Tr.newList (by first | decide | (simp only [List.length_cons, List.length_nil]; decide)) ?_
    intro _
    refine Tr.neNil (.inl (.tail _ (List.mem_append_left _ hD))) (.inl (.head _)) ?_
    refine ⟨_, rfl, ?_⟩
    refine tr_iteN (fun he => ?_) (fun he => ?_)
    · refine Tr.binop ?_
      refine Tr.nameL (List.Mem.tail _ (List.Mem.tail _ (List.Mem.head _))) ?_
      refine Tr.int ?_
      intro _
      refine Tr.addI ?_
      intro _
      refine Tr.storeL (.tail (.tail .head)) ?_
      refine Then_next ?_
      refine Tr.execs_nil ?_
      have : stepOf nm st.2 item.means (decide (item.text = [42])) ≠ [] := fun q => he (List.length_eq_zero_iff.mp (by rw [hu2.length, q]; rfl))
      have em : metStep nm st item = (st.1 + 1, stepOf nm st.2 item.means (decide (item.text = [42]))) := by unfold metStep; rw [if_pos this]
      rw [efold]
      rw [em] at hnew ⊢
      exact ⟨_, .tail (Pick.app .head new), D, us2, _, _, _, _, _, rfl, .tail _ (List.mem_append_left _ hD), hu2, hnew⟩
    · refine Tr.nameL (List.Mem.tail _ (List.Mem.tail _ (List.Mem.head _))) ?_
      refine Tr.storeL (.tail (.tail .head)) ?_
      refine Then_next ?_
      refine Tr.execs_nil ?_
      have : ¬ stepOf nm st.2 item.means (decide (item.text = [42])) ≠ [] := fun q => q (List.length_eq_zero_iff.mp (by rw [← hu2.length, he]; rfl))
      have em : metStep nm st item = (st.1, stepOf nm st.2 item.means (decide (item.text = [42]))) := by unfold metStep; rw [if_neg this]
      rw [efold]
      rw [em] at hnew ⊢
      exact ⟨_, .tail (Pick.app .head new), D, us2, _, _, _, _, _, rfl, .tail _ (List.mem_append_left _ hD), hu2, hnew⟩
  · rintro S ⟨pl, us, tm, o1, o2, o3, led, rfl, _⟩
    refine Then_next ?_
    refine Tr.execs_cons ?_
    refine Tr.ret ?_
    refine Tr.nameL (List.Mem.tail _ (List.Mem.tail _ (List.Mem.head _))) ?_
    refine Then_ret ?_
    exact ⟨_, by rw [List.take_length]; rfl⟩
  · exact .inr ⟨⟨_, _, _, rfl⟩, fun i x hx => by
      have hl : i < its.length := by rw [← hits.1]; exact (List.getElem?_eq_some_iff.mp hx).1
      obtain ⟨a, _, _, _, e, _⟩ := hits.2 i its[i] x (List.getElem?_eq_getElem hl) hx
      exact ⟨a, e⟩⟩
end Mine
end
section
open PySem PySem.W PySem.Calls PyProof PyProof.Rows PySem.Spec PyProof.V PySem.Builtin.Str
set_option linter.unusedVariables false
namespace Mine
noncomputable def mem.fd : FuncData := fdAt 88
noncomputable def mem.ln : List Str := lnOf mem.fd
noncomputable def mem.gl : List Str := glOf mem.fd
theorem mem_at : FnAt 88 mem.fd := ⟨fun _ => ⟨_, _, _, rfl⟩, fun _ => rfl, rfl, rfl, rfl, rfl, rfl, rfl⟩
def wideOf (body : List Nat) (k : Nat) : Nat := if cut (some ((k : Int) + 1)) (some ((k : Int) + 2)) body = [45] then 3 else 1
def lastOf (body : List Nat) (k w : Nat) : Nat := (cut (some (k : Int)) (some ((k : Int) + w)) body).getLastD 0
def memSet (body : List Nat) (k : Nat) : List Nat := ab.filter fun c => decide (body.getD k 0 ≤ c) && decide (c ≤ lastOf body k (wideOf body k))
def memLoop (body : List Nat) : Nat → Nat → List Nat → List Nat
  | 0, _, ins => ins
  | n + 1, k, ins => if k < body.length then memLoop body n (k + wideOf body k) (ins ++ memSet body k) else ins
theorem memLoop_end (body : List Nat) (n k : Nat) (ins : List Nat) (h : ¬ k < body.length) : memLoop body n k ins = ins := by
  cases n with
  | zero => rfl
  | succ n => unfold memLoop; rw [if_neg h]
def turnedOf (l : List Nat) : Bool := decide ([l.getD 1 0] = [94])
def bodyOf (l : List Nat) : List Nat := if turnedOf l then cut (some 2) (some (-1)) l else cut (some 1) (some (-1)) l
def membersOf (l : List Nat) : List Nat := ab.filter fun c => decide (c ∈ memLoop (bodyOf l) (bodyOf l).length 0 []) != turnedOf l

theorem cut_pos {body : List Nat} {k w : Nat} (h : k < body.length) (hw : 1 ≤ w) : 1 ≤ (cut (some (k : Int)) (some ((k : Int) + w)) body).length := by
  unfold cut
  rw [List.length_take, List.length_drop]
  have e1 : bnd (some (k : Int)) 0 body.length = k := by unfold bnd; dsimp only; omega
  have e2 : k + 1 ≤ bnd (some ((k : Int) + w)) body.length body.length := by unfold bnd; dsimp only; omega
  rw [e1]
  omega
theorem last_get {l : List Nat} (h : 1 ≤ l.length) : l[((-1 : Int) + l.length).toNat]? = some (l.getLastD 0) := by
  have e : ((-1 : Int) + l.length).toNat = l.length - 1 := by omega
  rw [e]
  rw [List.getLastD_eq_getLast?, List.getLast?_eq_getElem?, List.getElem?_eq_getElem (by omega)]; rfl
theorem memSet_len (body : List Nat) (k : Nat) : (memSet body k).length ≤ 4 := List.length_filter_le ..
theorem Lts.length {vs : List Value} {cs : List Nat} (h : Lts vs cs) : vs.length = cs.length := by
  have := StrsAre.length h
  simpa using this
theorem Lts.app {vs ws : List Value} {cs ds : List Nat} (h : Lts vs cs) (h' : Lts ws ds) : Lts (vs ++ ws) (cs ++ ds) := by
  unfold Lts Txs at *
  rw [List.map_append, List.map_append]
  exact strsAre_append h h'
theorem members_spec {w : World} {s : Shared} (P : Pre w [] s) (l : List Nat) (t : Tok) (h3 : 3 ≤ l.length) (h20 : l.length ≤ 20) :
    Spec w [] 3 (.ref 88) [.str (tx l) t] [] (fun v new => ∃ D us, v = .ref D ∧ (D, Ct.list us) ∈ new ∧ Lts us (membersOf l)) s := by
  refine Spec.enter (ml := []) (binds := [(Str.ofString "part", .str (tx l) t)]) (ln := mem.ln) (gl := mem.gl) (by assumption) rfl (fun a c h => nomatch h) List.nodup_nil mem_at rfl (fun s _ => BindsTo.of_eq rfl) (by simp only [List.map_cons, List.map_nil]; decide +kernel) (by kernel_rfl) (by decide +kernel) (by decide +kernel) (by decide +kernel) (by decide +kernel) (by decide +kernel) ?_
  intro C L hw h0 hd hck G hin hco hq hsc hce
  replace hsc := scopeLit hsc
  refine Tr.startN (loc := [(Str.ofString "part", some (Value.str (tx l) t))]) (cel := [(Str.ofString "wide", L + 1 + 1 + 1 + 1 + 1, none), (Str.ofString "body", L + 1 + 1 + 1 + 1, none), (Str.ofString "k", L + 1 + 1 + 1, none), (Str.ofString "inside", L + 1 + 1, none), (Str.ofString "turned", L + 1, none)]) (by kernel_rfl) (by kernel_rfl) ?_
  refine Tr.execs_cons ?_
  refine Mine.Tr.assignT (by assumption) ?_
  refine Tr.tuple ?_
  refine Tr.spl_cons ?_
  refine Tr.cmp1 ?_
  refine Tr.subscr ?_
  refine Tr.nameL (List.Mem.head _) ?_
  refine Tr.int ?_
  intro _
  refine Tr.itemStr (c := l.getD 1 0) (by omega) ⟨by omega, by omega⟩ ?_ ?_
  · rw [if_neg (by omega)]
    show l[1]? = _
    rw [List.getD_eq_getElem?_getD, List.getElem?_eq_getElem (by omega)]; rfl
  intro _
  refine Tr.strT ([94] : List Nat) (by decide +kernel) ?_
  intro _
  refine Mine.Tr.eqS ?_
  refine Tr.spl_cons ?_
  refine Tr.list ?_
  refine Tr.spl_nil ?_
  refine Tr.newList (by first | decide | (simp only [List.length_cons, List.length_nil]; decide)) ?_
  intro _
  refine Tr.spl_cons ?_
  refine Tr.int ?_
  intro _
  refine Tr.spl_nil ?_
  refine Tr.newTuple (by first | decide | (simp only [List.length_cons, List.length_nil]; decide)) ?_
  intro _
  refine Mine.Tr.aTup (.inl (List.Mem.head _)) ?_
  refine Mine.Tr.aio_cons ?_
  refine Tr.aName ?_
  refine Tr.storeC (.tail (.tail (.tail (.tail .head)))) (by assumption) ?_
  refine Mine.Tr.aio_cons ?_
  refine Tr.aName ?_
  refine Tr.storeC (.tail (.tail (.tail .head))) (by assumption) ?_
  refine Mine.Tr.aio_cons ?_
  refine Tr.aName ?_
  refine Tr.storeC (.tail (.tail .head)) (by assumption) ?_
  refine Mine.Tr.aio_nil ?_
  refine Then_next ?_
  refine Tr.execs_cons ?_
  refine Tr.assignN (Tr.cutV (fun v => ∃ t, v = .str (tx (bodyOf l)) t) ?_ ?_)
  · refine Tr.ifE ?_
    refine Tr.isVal ?_
    refine Tr.nameC (List.Mem.tail _ (List.Mem.tail _ (List.Mem.tail _ (List.Mem.tail _ (List.Mem.head _))))) ?_
    refine Tr.truthyB ?_
    refine tr_iteB (fun hs => ?_) (fun hs => ?_)
    · have hs' : turnedOf l = true := hs
      refine Tr.sliceStr ?_
      refine Tr.nameL (List.Mem.head _) ?_
      refine Tr.part_some ?_
      refine Tr.int ?_
      intro _
      refine Tr.part_some ?_
      refine Mine.Tr.unop ?_
      refine Tr.int ?_
      intro _
      refine Mine.Tr.negI ?_
      intro _
      refine ⟨_, _, _, _, rfl, (by first | exact PIs.none | exact PIs.int), (by first | exact PIs.none | exact PIs.int), (by (first | decide | assumption | (simp only [sizeLine_eq, List.length_append, List.length_cons, List.length_nil, List.length_map, List.length_range] at *; omega) | omega)), ?_⟩
      intro _
      exact ⟨⟨_, by unfold bodyOf; rw [hs', if_pos rfl]⟩, rfl⟩
    · have hs' : turnedOf l = false := hs
      refine Tr.sliceStr ?_
      refine Tr.nameL (List.Mem.head _) ?_
      refine Tr.part_some ?_
      refine Tr.int ?_
      intro _
      refine Tr.part_some ?_
      refine Mine.Tr.unop ?_
      refine Tr.int ?_
      intro _
      refine Mine.Tr.negI ?_
      intro _
      refine ⟨_, _, _, _, rfl, (by first | exact PIs.none | exact PIs.int), (by first | exact PIs.none | exact PIs.int), (by (first | decide | assumption | (simp only [sizeLine_eq, List.length_append, List.length_cons, List.length_nil, List.length_map, List.length_range] at *; omega) | omega)), ?_⟩
      intro _
      exact ⟨⟨_, by unfold bodyOf; rw [hs', if_neg (by decide)]⟩, rfl⟩
  rintro v ⟨tb, rfl⟩
  have hbl : (bodyOf l).length ≤ 20 := by
    unfold bodyOf
    split <;> exact Nat.le_trans (cut_len _ _ _) h20
  refine Tr.storeC (.tail .head) (by assumption) ?_
  refine Then_next ?_
  refine Tr.execs_cons ?_
  generalize hbody : bodyOf l = body at *
  refine Tr.whileS (fun n S => ∃ (k : Nat) (ins : List Nat) (vs : List Value) (ia : Addr) (tk tb : Tok) (ov : Option Value) (led : Led), memLoop body n k ins = memLoop body body.length 0 [] ∧ body.length ≤ k + n ∧ ins.length + 4 * n ≤ 80 ∧ (ia, Ct.list vs) ∈ led ∧ Lts vs ins ∧
    S = ⟨[(Str.ofString "part", some (.str (tx l) t))], [(Str.ofString "wide", L + 1 + 1 + 1 + 1 + 1, ov), (Str.ofString "body", L + 1 + 1 + 1 + 1, some (.str (tx body) tb)), (Str.ofString "k", L + 1 + 1 + 1, some (.int k tk)), (Str.ofString "inside", L + 1 + 1, some (.ref ia)), (Str.ofString "turned", L + 1, some (.bool (turnedOf l)))], led⟩) body.length
    ⟨0, [], [], _, _, _, _, _, rfl, by omega, by simp; omega, .tail _ (.head _), Txs.nil, rfl⟩ ?_
  rintro n S ⟨k, ins, vs, ia, tk, tb, ov, led, g1, g2, g3, g4, g5, rfl⟩
  refine Tr.isCmp1 ?_
  refine Tr.nameC (List.Mem.tail _ (List.Mem.tail _ (List.Mem.head _))) ?_
  refine Tr.callN ?_
  refine Tr.nameB (by assumption) (by decide +kernel) (Mine.b_len).1 (Mine.b_len).2.1 (Mine.b_len).2.2 ?_
  refine Tr.callW kept_builtin ?_
  refine Tr.spl_cons ?_
  refine Tr.nameC (List.Mem.tail _ (List.Mem.head _)) ?_
  refine Tr.spl_nil ?_
  refine Tr.lenStr (by (first | decide | assumption | (simp only [sizeLine_eq, List.length_append, List.length_cons, List.length_nil, List.length_map, List.length_range] at *; omega) | omega)) ?_
  intro _
  refine Mine.Tr.ltI ?_
  refine ⟨_, rfl, ?_⟩
  refine tr_ite (fun hlt => ?_) (fun hlt => ?_)
  · have hlt' : k < body.length := by omega
    obtain ⟨n, rfl⟩ : ∃ m, n = m + 1 := ⟨n - 1, by omega⟩
    refine Tr.execs_cons ?_
    refine Tr.assignN (Tr.cutV (fun v => ∃ t, v = .int (wideOf body k : Nat) t) ?_ ?_)
    · refine Tr.ifE ?_
      refine Tr.isCmp1 ?_
      refine Tr.sliceStr ?_
      refine Tr.nameC (List.Mem.tail _ (List.Mem.head _)) ?_
      refine Tr.part_some ?_
      refine Tr.binop ?_
      refine Tr.nameC (List.Mem.tail _ (List.Mem.tail _ (List.Mem.head _))) ?_
      refine Tr.int ?_
      intro _
      refine Tr.addI ?_
      intro _
      refine Tr.part_some ?_
      refine Tr.binop ?_
      refine Tr.nameC (List.Mem.tail _ (List.Mem.tail _ (List.Mem.head _))) ?_
      refine Tr.int ?_
      intro _
      refine Tr.addI ?_
      intro _
      refine ⟨_, _, _, _, rfl, (by first | exact PIs.none | exact PIs.int), (by first | exact PIs.none | exact PIs.int), (by (first | decide | assumption | (simp only [sizeLine_eq, List.length_append, List.length_cons, List.length_nil, List.length_map, List.length_range] at *; omega) | omega)), ?_⟩
      intro _
      refine Tr.strT ([45] : List Nat) (by decide +kernel) ?_
      intro _
      refine Mine.Tr.eqS ?_
      refine ⟨_, rfl, ?_⟩
      refine tr_ite (fun h => ?_) (fun h => ?_)
      · refine Tr.int ?_
        intro _
        exact ⟨⟨_, by unfold wideOf; rw [if_pos h]; rfl⟩, rfl⟩
      · refine Tr.int ?_
        intro _
        exact ⟨⟨_, by unfold wideOf; rw [if_neg h]; rfl⟩, rfl⟩
    rintro v ⟨tw, rfl⟩
    have hw1 : 1 ≤ wideOf body k ∧ wideOf body k ≤ 3 := by unfold wideOf; split <;> omega
    refine Tr.storeC .head (by assumption) ?_
    refine Then_next ?_
    refine Tr.execs_cons ?_
    refine Tr.assignN ?_
    refine Tr.binop ?_
    refine Tr.nameC (List.Mem.tail _ (List.Mem.tail _ (List.Mem.tail _ (List.Mem.head _)))) ?_
    refine Tr.filterS ab (fun c => decide (body.getD k 0 ≤ c) && decide (c ≤ lastOf body k (wideOf body k))) (by decide) (by decide) hck (by kernel_rfl) (by kernel_rfl) (by decide +kernel) ?_ ?_ ?_
    · refine Tr.strT ([97, 98, 99, 100] : List Nat) (by decide +kernel) ?_
      intro _
      exact ⟨⟨_, rfl⟩, rfl⟩
    · intro C' cx d t' hd'
      have G' := glb_of cx [] (by kernel_rfl)
      generalize hcap9 : capOf _ _ = cel9
      have ecap9 := Eq.trans (Eq.symm hcap9) (CapR.eq (.keep (by kernel_rfl) (.keep (by kernel_rfl) (.keep (by kernel_rfl) (.drop (by kernel_rfl) (.drop (by kernel_rfl) (.nil)))))))
      clear hcap9
      subst ecap9
      refine Tr.isCmp2 ?_
      refine Tr.subscr ?_
      refine Tr.nameC (List.Mem.tail _ (List.Mem.head _)) ?_
      refine Tr.nameC (List.Mem.tail _ (List.Mem.tail _ (List.Mem.head _))) ?_
      refine Tr.itemStr (c := body.getD k 0) (by omega) ⟨by omega, by omega⟩ ?_ ?_
      · rw [if_neg (by omega), Int.toNat_natCast, List.getD_eq_getElem?_getD, List.getElem?_eq_getElem hlt']; rfl
      intro _
      refine Tr.nameL (List.Mem.head _) ?_
      refine Mine.Tr.leS ?_
      refine ⟨_, rfl, ?_⟩
      refine tr_iteN (fun h1 => ?_) (fun h1 => ?_)
      · have l1 : body.getD k 0 ≤ d := Nat.not_lt.mp fun h => h1 (one_lt.mpr h)
        refine Tr.subscr ?_
        refine Tr.sliceStr ?_
        refine Tr.nameC (List.Mem.tail _ (List.Mem.head _)) ?_
        refine Tr.part_some ?_
        refine Tr.nameC (List.Mem.tail _ (List.Mem.tail _ (List.Mem.head _))) ?_
        refine Tr.part_some ?_
        refine Tr.binop ?_
        refine Tr.nameC (List.Mem.tail _ (List.Mem.tail _ (List.Mem.head _))) ?_
        refine Tr.nameC (List.Mem.head _) ?_
        refine Tr.addI ?_
        intro _
        refine ⟨_, _, _, _, rfl, (by first | exact PIs.none | exact PIs.int), (by first | exact PIs.none | exact PIs.int), (by (first | decide | assumption | (simp only [sizeLine_eq, List.length_append, List.length_cons, List.length_nil, List.length_map, List.length_range] at *; omega) | omega)), ?_⟩
        intro _
        refine Mine.Tr.unop ?_
        refine Tr.int ?_
        intro _
        refine Mine.Tr.negI ?_
        intro _
        have hcp := cut_pos (w := wideOf body k) hlt' hw1.1
        refine Tr.itemStr (c := lastOf body k (wideOf body k)) (by omega) ⟨by omega, by omega⟩ ?_ ?_
        · rw [if_pos (by omega)]
          exact last_get hcp
        intro _
        refine Mine.Tr.leS ?_
        refine ⟨_, rfl, ?_⟩
        refine ⟨?_, rfl⟩
        rw [lt_one, decide_le_not]
        simp only [l1, decide_true, Bool.true_and]
      · have l1 : ¬ body.getD k 0 ≤ d := Nat.not_le.mpr (one_lt.mp h1)
        skip
        refine ⟨?_, rfl⟩
        simp only [l1, decide_false, Bool.false_and]
    intro D ys hys
    have hl1 := g5.length
    have hl2 : ys.length = (memSet body k).length := hys.length
    have hl3 := memSet_len body k
    skip
    refine Tr.addL (.inl (.tail _ g4)) (.inl (.head _)) (by rw [sizeLine_eq]; omega) fun D2 => ?_
    refine Tr.storeC (.tail (.tail (.tail .head))) (by assumption) ?_
    refine Then_next ?_
    refine Tr.execs_cons ?_
    refine Tr.assignN ?_
    refine Tr.binop ?_
    refine Tr.nameC (List.Mem.tail _ (List.Mem.tail _ (List.Mem.head _))) ?_
    refine Tr.nameC (List.Mem.head _) ?_
    refine Tr.addI ?_
    intro _
    refine Tr.storeC (.tail (.tail .head)) (by assumption) ?_
    refine Then_next ?_
    refine Tr.execs_nil ?_
    refine ⟨n, Nat.lt_succ_self _, k + wideOf body k, ins ++ memSet body k, _, D2, _, _, _, _, ?_, by omega, by rw [List.length_append]; omega, .head _, g5.app hys, rfl⟩
    rw [← g1]
    show _ = if k < body.length then _ else _
    rw [if_pos hlt']
  · have hlt' : ¬ k < body.length := by omega
    rw [memLoop_end body n k ins hlt'] at g1
    refine Then_next ?_
    refine Tr.execs_cons ?_
    refine Tr.ret ?_
    refine Tr.filterS ab (fun c => decide (c ∈ memLoop body body.length 0 []) != turnedOf l) (by decide) (by decide) hck (by kernel_rfl) (by kernel_rfl) (by decide +kernel) ?_ ?_ ?_
    · refine Tr.strT ([97, 98, 99, 100] : List Nat) (by decide +kernel) ?_
      intro _
      exact ⟨⟨_, rfl⟩, rfl⟩
    · intro C' cx d t' hd'
      generalize hcap9 : capOf _ _ = cel9
      have ecap9 := Eq.trans (Eq.symm hcap9) (CapR.eq (.drop (by kernel_rfl) (.drop (by kernel_rfl) (.drop (by kernel_rfl) (.keep (by kernel_rfl) (.keep (by kernel_rfl) (.nil)))))))
      clear hcap9
      subst ecap9
      refine Tr.isCmp1 ?_
      refine Tr.cmp1 ?_
      refine Tr.nameL (List.Mem.head _) ?_
      refine Tr.nameC (List.Mem.head _) ?_
      refine Tr.inL (.inl g4) g5 ?_
      refine Tr.nameC (List.Mem.tail _ (List.Mem.head _)) ?_
      refine Mine.Tr.neB ?_
      refine ⟨_, rfl, ?_⟩
      refine ⟨?_, rfl⟩
      rw [lts_mem, g1]
    intro D ys hys
    refine Then_ret ?_
    refine ⟨D, ys, rfl, .head _, ?_⟩
    unfold membersOf
    rw [hbody]
    exact hys
end Mine
end
section
open PySem PySem.W PySem.Calls PyProof PyProof.Rows PySem.Spec PyProof.V PySem.Builtin.Str
set_option linter.unusedVariables false
namespace Mine
open PySem.SeqAt

def PAt (C : Cx) (S : St) (p : Option (List Nat)) (v : Value) : Prop := match p with
  | some l => ∃ t, v = .str (tx l) t
  | none => ∃ b t, v = .ref b ∧ LAt C S b [.str (tx [42]) t]
theorem PH.at {C : Cx} {S : St} {h : Heap} {p : Option (List Nat)} {v : Value} (h0 : C.h₀ = h) (x : PH h p v) : PAt C S p v := by
  cases p with
  | some l => exact x
  | none =>
    obtain ⟨b, t, e, hb⟩ := x
    exact ⟨b, t, e, .inr (by rw [h0]; exact hb)⟩
theorem PAt.is {C : Cx} {S : St} {s : Shared} {p : Option (List Nat)} {v : Value} (x : PAt C S p v) (H : Holds C S s) : PH s.heap p v := by
  cases p with
  | some l => exact x
  | none => obtain ⟨b, t, e, hb⟩ := x; exact ⟨b, t, e, hb.is H⟩
theorem star_eq {A : Around} {s : Shared} {p : Option (List Nat)} {v : Value} {a : Addr} {t : Tok} (hp : PH s.heap p v) (ha : s.heap.IsList a ([.str (tx [42]) t] : List Value).toArray) (hu : A.units < cLine) :
    EqAt A s v (.ref a) (decide (p = none)) := by
  cases p with
  | some l =>
    obtain ⟨u, rfl⟩ := hp
    exact EqAt.str_list _ _ ha hu
  | none =>
    obtain ⟨b, u, rfl, hb⟩ := hp
    by_cases e : b = a
    · subst e; exact EqAt.same _
    · refine EqAt.of_refs e ?_
      have := RcAt.lists (A := A) (e := fun _ => true) hb ha rfl hu (fun j h1 h2 => by
        have : j = 0 := by simpa using h1
        subst this
        have := EqAt.str_str (A := A.in1) (s := s) (tx [42]) u (tx [42]) t
        rw [tx_beq] at this
        exact this)
      exact this
theorem Tr.neStars {C : Cx} {S : St} {a b a1 a2 : Addr} {x y : Value} {p q : Option (List Nat)} {t1 t2 : Tok} {Q : Value → St → Prop} (hd : 1 ≤ C.d) (hx : PAt C S p x) (hy : PAt C S q y) (La : LAt C S a [x, y]) (Lb : LAt C S b [.ref a1, .ref a2]) (L1 : LAt C S a1 [.str (tx [42]) t1]) (L2 : LAt C S a2 [.str (tx [42]) t2])
    (h : Q (.bool (!(decide (p = none) && decide (q = none)))) S) : Tr C (compareOp .NotEq (.ref a) (.ref b)) Q S := by
  intro ok s H
  have hu : C.A.units + 8 < cLine := by have := ok.units; omega
  have hu1 : C.A.in1.units < cLine := by show C.A.units + 1 < _; omega
  have hp' := hx.is H
  have hq' := hy.is H
  refine RcNeAt.lists (e := fun j => if j = 0 then decide (p = none) else decide (q = none)) (La.is H) (Lb.is H) rfl (by omega) (fun j h1 h2 => ?_) _ _ _ _ ⟨S, H, ?_⟩
  · have : j = 0 ∨ j = 1 := by
      have : j < 2 := h1
      omega
    rcases this with rfl | rfl
    · exact star_eq hp' (L1.is H) hu1
    · exact star_eq hq' (L2.is H) hu1
  · have : ((List.range (([x, y] : List Value).toArray).size).all fun j => if j = 0 then decide (p = none) else decide (q = none)) = (decide (p = none) && decide (q = none)) := by
      show ((List.range 2).all _) = _
      simp [List.range_succ]
    rw [this]; exact h

noncomputable def press.fd : FuncData := fdAt 83
noncomputable def press.ln : List Str := lnOf press.fd
noncomputable def press.gl : List Str := glOf press.fd
theorem press_at : FnAt 83 press.fd := ⟨fun _ => ⟨_, _, _, rfl⟩, fun _ => rfl, rfl, rfl, rfl, rfl, rfl, rfl⟩
def keepAt (ps : List (Option (List Nat))) (k : Nat) : Bool := decide (k = 0) || !(decide (ps.getD (k - 1) (some []) = none) && decide (ps.getD k (some []) = none))
def PartsH (h : Heap) (ps : List (Option (List Nat))) (vs : List Value) : Prop := vs.length = ps.length ∧ ∀ i, i < ps.length → PH h (ps.getD i (some [])) (vs.getD i .none)
theorem press_spec {w : World} {s : Shared} (P : Pre w [] s) (pl : Addr) (vs : List Value) (ps : List (Option (List Nat))) (hpl : LB s pl vs) (hps : PartsH (hideAll s.heap (50 :: 50 :: [])) ps vs) (hn : ps.length ≤ 100) :
    Spec w [] 3 (.ref 83) [.ref pl] [] (fun v new => ∃ D, v = .ref D ∧ (D, Ct.list (((List.range ps.length).filter (keepAt ps)).map fun k => vs.getD k .none)) ∈ new) s := by
  refine Spec.enter (ml := []) (binds := [(Str.ofString "parts", .ref pl)]) (ln := press.ln) (gl := press.gl) (by assumption) rfl (fun a c h => nomatch h) List.nodup_nil press_at rfl (fun s _ => BindsTo.of_eq rfl) (by simp only [List.map_cons, List.map_nil]; decide +kernel) (by kernel_rfl) (by decide +kernel) (by decide +kernel) (by decide +kernel) (by decide +kernel) (by decide +kernel) ?_
  intro C L hw h0 hd hck G hin hco hq hsc hce
  replace hsc := scopeLit hsc
  refine Tr.startN (loc := []) (cel := [(Str.ofString "parts", L + 1, some (Value.ref pl))]) (by kernel_rfl) (by kernel_rfl) ?_
  have hL : ∀ S, LAt C S pl vs := fun S => .inr (by rw [h0]; exact hpl)
  have hsz : Builtin.Range.rangeSize 0 (vs.length : Int) 1 = ((ps.length : Nat) : Int) := by rw [rangeSize_one, hps.1]; split <;> omega
  refine Tr.execs_cons ?_
  refine Tr.ret ?_
  refine Tr.listComp [Str.ofString "k"] hck (by kernel_rfl) ?_
  refine Tr.callN ?_
  refine Tr.nameB (by assumption) (by decide +kernel) (Mine.b_range).1 (Mine.b_range).2.1 (Mine.b_range).2.2 ?_
  refine Tr.callW kept_type ?_
  refine Tr.spl_cons ?_
  refine Tr.callN ?_
  refine Tr.nameB (by assumption) (by decide +kernel) (Mine.b_len).1 (Mine.b_len).2.1 (Mine.b_len).2.2 ?_
  refine Tr.callW kept_builtin ?_
  refine Tr.spl_cons ?_
  refine Tr.nameC (List.Mem.head _) ?_
  refine Tr.spl_nil ?_
  refine Tr.lenList (hL _) (by rw [hps.1]; omega) ?_
  intro _
  refine Tr.spl_nil ?_
  refine Tr.range1 fun r => ?_
  refine ⟨ps.length, _, _, fun i ys led => (r, Ct.pred (RngO 0 (vs.length : Int) 1)) ∈ led ∧ ys = (((List.range ps.length).take i).filter (keepAt ps)).map fun k => vs.getD k .none, ⟨src_range hsz (small_one (by omega) (by omega) (by omega) (by rw [hps.1]; omega)), by rw [sizeLine_eq]; omega, by kernel_rfl, .inl ⟨_, _, rfl, Nat.le_refl _⟩, .inl (.head _), ⟨.head _, rfl⟩, fun _ _ _ pre h => .inl (List.mem_append_right _ h.1), ?_⟩, ?_⟩
  · intro C' cx i ys led own v hin hv hJ hown
    rw [own_nil hown]
    obtain ⟨hr, hy⟩ := hJ
    obtain ⟨u, rfl⟩ := hv
    have G' := glb_of cx [] (by kernel_rfl)
    have hL' : ∀ S, LAt C' S pl vs := fun S => .inr (isList_up cx.sub (by rw [h0]; exact hpl))
    have hP' : ∀ S i, i < ps.length → PAt C' S (ps.getD i (some [])) (vs.getD i .none) := fun S i hi => by
      have := hps.2 i hi
      cases hp : ps.getD i (some []) with
      | some l => rw [hp] at this; exact this
      | none =>
        rw [hp] at this
        obtain ⟨b, t, e, hb⟩ := this
        exact ⟨b, t, e, .inr (isList_up cx.sub (by rw [h0]; exact hb))⟩
    have e := take_succ_filter (keepAt ps) (List.range ps.length) i i (by rw [List.getElem?_range hin])
    have hget : ∀ j, j < ps.length → vs[j]? = some (vs.getD j .none) := fun j hj => by
      rw [List.getD_eq_getElem?_getD, List.getElem?_eq_getElem (by rw [hps.1]; exact hj)]; rfl
    rw [show (0 : Int) + (i : Int) * 1 = (i : Int) by omega]
    generalize hcap9 : capOf _ _ = cel9
    have ecap9 := Eq.trans (Eq.symm hcap9) (CapR.eq (.keep (by kernel_rfl) (.nil)))
    clear hcap9
    subst ecap9
    change Tr _ _ _ _
    set_option simprocs false in (conv => arg 4; dsimp only [List.cons_append, List.nil_append, List.map_cons, List.map_nil])
    refine Tr.aName ?_
    set_option simprocs false in (conv => arg 4; dsimp only [List.cons_append, List.nil_append, List.map_cons, List.map_nil])
    refine Tr.storeL .head ?_
    refine Tst_one ?_
    refine Tr.isBool ?_
    refine Tr.or_cons ?_
    refine Tr.isCmp1 ?_
    refine Tr.nameL (List.Mem.head _) ?_
    refine Tr.int ?_
    intro _
    refine Mine.Tr.eqI ?_
    refine ⟨_, rfl, ?_⟩
    refine tr_ite (fun hz => ?_) (fun hz => ?_)
    · refine tr_iteT ?_
      refine Tr.subscr ?_
      refine Tr.nameC (List.Mem.head _) ?_
      refine Tr.nameL (List.Mem.head _) ?_
      refine Tr.item (hL' _) (by omega) (by omega) (by rw [Int.toNat_natCast]; exact hget i hin) ?_
      have hk : keepAt ps i = true := by
        have : i = 0 := by omega
        simp [keepAt, this]
      refine ⟨⟨[], rfl, by kernel_rfl⟩, hr, ?_⟩
      rw [e, hk, if_pos rfl, List.map_append, hy]
      rfl
    · have hi1 : 1 ≤ i := by omega
      refine Tr.or_cons ?_
      refine Tr.isCmp1 ?_
      refine Tr.list ?_
      refine Tr.spl_cons ?_
      refine Tr.subscr ?_
      refine Tr.nameC (List.Mem.head _) ?_
      refine Tr.binop ?_
      refine Tr.nameL (List.Mem.head _) ?_
      refine Tr.int ?_
      intro _
      refine Tr.subI ?_
      intro _
      refine Tr.item (hL' _) (by omega) (by omega) (by rw [show ((i : Int) - 1).toNat = i - 1 by omega]; exact hget (i - 1) (by omega)) ?_
      refine Tr.spl_cons ?_
      refine Tr.subscr ?_
      refine Tr.nameC (List.Mem.head _) ?_
      refine Tr.nameL (List.Mem.head _) ?_
      refine Tr.item (hL' _) (by omega) (by omega) (by rw [Int.toNat_natCast]; exact hget i hin) ?_
      refine Tr.spl_nil ?_
      refine Tr.newList (by first | decide | (simp only [List.length_cons, List.length_nil]; decide)) ?_
      intro _
      refine Tr.list ?_
      refine Tr.spl_cons ?_
      refine Tr.list ?_
      refine Tr.spl_cons ?_
      refine Tr.strT ([42] : List Nat) (by decide +kernel) ?_
      intro _
      refine Tr.spl_nil ?_
      refine Tr.newList (by first | decide | (simp only [List.length_cons, List.length_nil]; decide)) ?_
      intro _
      refine Tr.spl_cons ?_
      refine Tr.list ?_
      refine Tr.spl_cons ?_
      refine Tr.strT ([42] : List Nat) (by decide +kernel) ?_
      intro _
      refine Tr.spl_nil ?_
      refine Tr.newList (by first | decide | (simp only [List.length_cons, List.length_nil]; decide)) ?_
      intro _
      refine Tr.spl_nil ?_
      refine Tr.newList (by first | decide | (simp only [List.length_cons, List.length_nil]; decide)) ?_
      intro _
      refine Tr.neStars (p := ps.getD (i - 1) (some [])) (q := ps.getD i (some [])) (by rw [cx.d, hd]; omega) (hP' _ (i - 1) (by omega)) (hP' _ i hin) (.inl (.tail _ (.tail _ (.tail _ (.head _))))) (.inl (.head _)) (.inl (.tail _ (.tail _ (.head _)))) (.inl (.tail _ (.head _))) ?_
      refine ⟨_, rfl, ?_⟩
      refine tr_iteB (fun hb => ?_) (fun hb => ?_)
      · have hk : keepAt ps i = true := by unfold keepAt; rw [hb, Bool.or_true]
        refine tr_iteT ?_
        refine Tr.subscr ?_
        refine Tr.nameC (List.Mem.head _) ?_
        refine Tr.nameL (List.Mem.head _) ?_
        refine Tr.item (hL' _) (by omega) (by omega) (by rw [Int.toNat_natCast]; exact hget i hin) ?_
        refine ⟨⟨[], rfl, by kernel_rfl⟩, .tail _ (.tail _ (.tail _ (.tail _ hr))), ?_⟩
        rw [e, hk, if_pos rfl, List.map_append, hy]
        rfl
      · have hk : keepAt ps i = false := by
          unfold keepAt; rw [hb, Bool.or_false]; exact decide_eq_false (by omega)
        refine Tr.or_nil ?_
        refine tr_iteF ?_
        refine ⟨⟨[], rfl, by kernel_rfl⟩, .tail _ (.tail _ (.tail _ (.tail _ hr))), ?_⟩
        rw [e, hk, if_neg (by decide), List.append_nil, hy]
  · rintro D ys led ⟨_, rfl⟩
    rw [List.take_of_length_le (by simp)]
    refine Then_ret ?_
    refine ⟨_, rfl, ?_⟩
    exact List.Mem.head _
end Mine
end
section
open PySem PySem.W PySem.Calls PyProof PyProof.Rows PySem.Spec PyProof.V PySem.Builtin.Str
set_option linter.unusedVariables false
namespace Mine
open AutoSeq1 (wpAny_loadPart')
theorem keys_all {prog : Program} {w : World} {es : Array DictEntry} (h : (es.toList.all fun e => match e.key with | .int i _ => decide (e.hash = hashInt i) | _ => false) = true) : KeysOf (intKind prog w) es := fun e he => by
  have := List.all_eq_true.mp h e (by simpa using he)
  cases hk : e.key with
  | int i t =>
    rw [hk] at this
    refine ⟨i, ?_, of_decide_eq_true this⟩
    show Value.isInt i (.int i t) = true
    simp [Value.isInt]
  | _ => rw [hk] at this; simp at this
theorem esc_map (P : Params) : ∃ o, (hd.heap_39 P).lookup 38 = some o ∧ ∀ (prog : Program) (w : World) (h : Heap), h.get? 38 = some o → ∃ f : Int → Option Value, h.MapOf (intKind prog w) 38 f ∧ ∀ c : Nat, 97 ≤ c → c ≤ 100 → f (c : Int) = none := by
  refine ⟨_, rfl, fun prog w h e => ?_⟩
  refine ⟨_, ⟨_, _, _, e, ?_, rfl, ?_, fun _ => rfl⟩, ?_⟩
  · exact ⟨rfl, rfl, rfl⟩
  · exact keys_all (by kernel_rfl)
  · intro c h1 h2
    have : c = 97 ∨ c = 98 ∨ c = 99 ∨ c = 100 := by omega
    rcases this with rfl | rfl | rfl | rfl <;> kernel_rfl
section
variable {prog : Program} {w : World} {A : Around} {E : Value → Shared → Prop} {s : Shared}
theorem lookup_keep {f : Int → Option Value} {c : Nat} {Q : Mapped → Shared → Prop} (hh : A.handled = none) (hm : s.heap.MapOf (intKind prog w) 38 f) (hf : f (c : Int) = none)
    (h : ∀ h' tk, Sub s.heap h' → Q .keep { s with heap := h', toks := tk }) : wpAny (model prog w) A (tableLookup (.ref 38) c) Q E s := by
  unfold tableLookup
  refine wpAny_bind (wpAny_attempt (wpAny_bind (wpAny_mkInt ?_)))
  refine wpAny_getItem_missing_of (knd := intKind prog w) (k := (c : Int)) (by show Value.isInt (c : Int) (.int (c : Int) s.toks) = true; simp [Value.isInt]) (by decide) hh hm hf fun h' e he => ?_
  dsimp only
  refine wpAny_bind (wpAny_isInstance (T := "KeyError") (b := true) (let ⟨ob, _, e1, e2, _⟩ := he.there; ⟨ob, e1, e2⟩) (by rw [isSubtype_type]; kernel_rfl) ?_)
  rw [if_pos rfl]
  exact wpAny_bind (wpAny_rule (wpAny_pure (h _ _ he.keeps)))
theorem call_translate {f : Int → Option Value} {c : Nat} {t : Tok} {Q : Value → Shared → Prop} (hh : A.handled = none) (hc : c < 128) (hm : s.heap.MapOf (intKind prog w) 38 f) (hf : f (c : Int) = none)
    (h : ∀ h' tk t', Sub s.heap h' → Q (.str (tx [c]) t') { s with heap := h', toks := tk }) : wpAny (model prog w) A (call (.builtin "str.translate") [.str (tx [c]) t, .ref 38]) Q E s := by
  refine wpAny_call_entry F.slot_str_translate (typeIs_str s _ _) F.entry_str_translate ?_ (F.args_str_translate_2 _ _)
  obtain ⟨hp, g, d, tk, os⟩ := s
  wp_walk
  have hfast : ((tx [c]).cps.all fun x => decide (x < 128)) = true := by simp [tx, hc]
  rw [if_pos hfast]
  dsimp only [List.lookup]
  refine wpAny_bind (lookup_keep hh hm hf fun h' tk' hk => ?_)
  dsimp only
  wp_walk
  exact ⟨_, rfl, h h' _ _ hk⟩
end
section
variable {C : Cx} {S : St}
theorem Tr.isinstStr {x : Str} {u : Tok} {Q : Value → St → Prop} (h : Q (.bool true) S) : Tr C (call (.builtin "isinstance") [.str x u, .type "str"]) Q S := fun _ _ H => IsiPair.str_str ⟨S, H, h⟩
theorem Tr.translate {c : Nat} {t : Tok} {Q : Value → St → Prop} (h1 : 97 ≤ c) (h2 : c ≤ 100) (h : ∀ t, Q (.str (tx [c]) t) S) : Tr C (call (.builtin "str.translate") [.str (tx [c]) t, .ref 38]) Q S := by
  intro ok s H
  obtain ⟨o, e, m⟩ := esc_map C.w.params
  obtain ⟨f, hm, hf⟩ := m pg C.w s.heap (H.keep _ _ (ok.gd.k _ _ e))
  exact call_translate ok.hd (by omega) hm (hf c h1 h2) fun h' tk t' hk => ⟨S, H.subH hk tk, h t'⟩
end

noncomputable def esc.fd : FuncData := fdAt 48
noncomputable def esc.ln : List Str := lnOf esc.fd
noncomputable def esc.gl : List Str := glOf esc.fd
theorem esc_at : FnAt 48 esc.fd := ⟨fun _ => ⟨_, _, _, rfl⟩, fun _ => rfl, rfl, rfl, rfl, rfl, rfl, rfl⟩
theorem b_isinstance : (∀ P, nsIn (hd.heap_39 P) mainGlobals (Str.ofString "isinstance") = some none) ∧ bootBuiltins (Str.ofString "isinstance") = some (.builtin "isinstance") ∧ (Str.ofString "isinstance") ≠ "__name__" := ⟨fun _ => rfl, by first | rfl | decide +kernel, by decide +kernel⟩
theorem b_str : (∀ P, nsIn (hd.heap_39 P) mainGlobals (Str.ofString "str") = some none) ∧ bootBuiltins (Str.ofString "str") = some (.type "str") ∧ (Str.ofString "str") ≠ "__name__" := ⟨fun _ => rfl, by first | rfl | decide +kernel, by decide +kernel⟩
theorem g__special_chars_map : ∀ P, nsIn (hd.heap_39 P) mainGlobals (Str.ofString "_special_chars_map") = some (some (.ref 38)) := fun _ => rfl
theorem esc_spec {w : World} {s : Shared} (P : Pre w [] s) (c : Nat) (t : Tok) (h1 : 97 ≤ c) (h2 : c ≤ 100) : Spec w [] 2 (.ref 48) [.str (tx [c]) t] [] (fun v new => ∃ t, v = .str (tx [c]) t) s := by
  refine Spec.enter (ml := []) (binds := [(Str.ofString "pattern", .str (tx [c]) t)]) (ln := esc.ln) (gl := esc.gl) (by assumption) rfl (fun a c h => nomatch h) List.nodup_nil esc_at rfl (fun s _ => BindsTo.of_eq rfl) (by simp only [List.map_cons, List.map_nil]; decide +kernel) (by kernel_rfl) (by decide +kernel) (by decide +kernel) (by decide +kernel) (by decide +kernel) (by decide +kernel) ?_
  intro C L hw h0 hd hck G hin hco hq hsc hce
  replace hsc := scopeLit hsc
  refine Tr.startN (loc := [(Str.ofString "pattern", some (Value.str (tx [c]) t))]) (cel := []) (by kernel_rfl) (by kernel_rfl) ?_
  refine Tr.execs_cons ?_
  refine Tr.ifS ?_
  refine Tr.isVal ?_
  refine Tr.callN ?_
  refine Tr.nameB (by assumption) (by decide +kernel) (Mine.b_isinstance).1 (Mine.b_isinstance).2.1 (Mine.b_isinstance).2.2 ?_
  refine Tr.callW kept_builtin ?_
  refine Tr.spl_cons ?_
  refine Tr.nameL (List.Mem.head _) ?_
  refine Tr.spl_cons ?_
  refine Tr.nameB (by assumption) (by decide +kernel) (Mine.b_str).1 (Mine.b_str).2.1 (Mine.b_str).2.2 ?_
  refine Tr.spl_nil ?_
  refine Tr.isinstStr ?_
  refine Tr.truthyB ?_
  refine tr_iteT ?_
  refine Tr.execs_cons ?_
  refine Tr.ret ?_
  refine Tr.callM1 (pl := _) ?_ (by rfl)
  refine Tr.nameL (List.Mem.head _) ?_
  refine Tr.methS PySem.F.slot_str_translate PySem.F.plainAttrs_str PySem.F.type_str_translate ?_
  refine Tr.callW kept_builtin ?_
  refine Tr.spl_cons ?_
  refine Tr.nameG (by assumption) (by decide +kernel) Mine.g__special_chars_map ?_
  refine Tr.spl_nil ?_
  refine Tr.translate h1 h2 ?_
  intro _
  refine Then_ret ?_
  refine Then_ret ?_
  exact ⟨_, rfl⟩
end Mine
end
section
open PySem PySem.W PySem.Calls PyProof PyProof.Rows PySem.Spec PyProof.V PySem.Builtin.Str
set_option linter.unusedVariables false
namespace Mine
def appendOf (a : Addr) : Obj := { cls := .type "builtin_function_or_method", data := .fields #[.builtin "list.append", .ref a] }
theorem md_entry : entryFor table "method_descriptor.__get__" = some Builtin.«method_descriptor.__get__» := entryFor_of_tree (by kernel_rfl)
theorem md_slot : Slot "method_descriptor" "__get__" "method_descriptor.__get__" :=
  .of (owner := "method_descriptor") (n := "__get__") (by rw [typeLookup_type, builtinLookup_eq_fast]; kernel_rfl) (by decide +kernel) (by decide +kernel) (by decide +kernel)
    (by first | exact .inl (by decide +kernel) | exact .inr (by decide +kernel)) (by rw [isSubtype_type]; kernel_rfl)
theorem md_args (a b c : Value) : argsOk "method_descriptor.__get__" ⟨[a, b, c], []⟩ := by unfold argsOk; kernel_rfl
theorem md_set : typeLookup (.type "method_descriptor") "__set__" = pure none := by rw [typeLookup_type, builtinLookup_eq_fast]; kernel_rfl
theorem md_del : typeLookup (.type "method_descriptor") "__delete__" = pure none := by rw [typeLookup_type, builtinLookup_eq_fast]; kernel_rfl
section
variable {prog : Program} {w : World} {A : Around} {E : Value → Shared → Prop} {s : Shared}
theorem owner_append : (kfb_private% "ownerAndName") "list.append" = ("list", "append") := by first | decide +kernel | kernel_rfl
theorem md_run {a : Addr} {xs : Array Value} {k : Nat} {P : Fin → Shared → Prop} (hx : s.heap.get? a = some { cls := .type "list", data := .seq xs k }) (h : P (.done (.ret (.ref s.heap.objs.size))) { s with heap := s.heap.push (appendOf a) }) :
    wpAny (model prog w) A (Builtin.«method_descriptor.__get__» ⟨[.builtin "list.append", .ref a, .type "list"], []⟩) P E s := by
  have hT : s.TypeIs (.ref a) "list" := ⟨_, hx, rfl⟩
  unfold Builtin.«method_descriptor.__get__»
  refine wpAny_bind (wpAny_of_eq (a := (.builtin "list.append", some (.ref a), some (.type "list"))) (by first | rfl | kernel_rfl) ?_)
  dsimp only
  rw [if_neg (by decide +kernel)]
  wp_walk
  rw [show (".".intercalate ("list.append".cutAt '.').dropLast) = "list" by decide +kernel]
  refine wpAny_of_eq (a := true) (by rw [isSubtype_type]; kernel_rfl) ?_
  rw [if_neg (by decide)]
  refine wpAny_pure ?_
  exact wpAny_bind (wpAny_newObj_type (wpAny_pure h))
theorem ga_append (a : Addr) (xs : Array Value) (k : Nat) (sl : Array (Option Value)) (u : Tok) :
    Meets (Builtin.«object.__getattribute__» ⟨[.ref a, .str (Str.ofString "append") u], []⟩) (fun A R s => s.heap.get? a = some { cls := .type "list", dict := none, data := .seq xs k, slots := sl } ∧ R (.ok (.ret (.ref s.heap.objs.size))) { s with heap := s.heap.push (appendOf a) }) :=
  Meets.of_wp fun prog w A R s hs => by
    obtain ⟨hp, g, d, tk, os⟩ := s
    obtain ⟨hx, hs⟩ := hs
    have hT : (⟨hp, g, d, tk, os⟩ : Shared).TypeIs (.ref a) "list" := ⟨_, hx, rfl⟩
    have f1 := F.slot_list_append.lookup
    have f2 := F.type_list_append
    have f3 := md_slot.lookup
    have f4 := md_set
    have f5 := md_del
    unfold Builtin.«object.__getattribute__»
    repeat (any_goals (first | assumption | ((with_reducible show wpAny _ _ (call (Value.builtin "method_descriptor.__get__") _ _) _ _ _); refine wpAny_call_entry md_slot f2 md_entry ?_ (md_args _ _ _)) | wp_step))
    rw [show (".".intercalate ("list.append".cutAt '.').dropLast) = "list" by decide +kernel]
    refine wpAny_of_eq (a := true) (by rw [isSubtype_type]; kernel_rfl) ?_
    rw [if_neg (by decide)]
    refine wpAny_pure ?_
    exact wpAny_bind (wpAny_newObj_type (wpAny_pure ⟨_, rfl, wpAny_pure ⟨_, rfl, hs⟩⟩))
theorem getAttr_append {a : Addr} {xs : Array Value} {k : Nat} {Q : Value → Shared → Prop} (hx : s.heap.get? a = some { cls := .type "list", data := .seq xs k })
    (h : ∀ tk, Q (.ref s.heap.objs.size) { s with heap := s.heap.push (appendOf a), toks := tk }) : wpAny (model prog w) A (getAttr (.ref a) (Str.ofString "append") true) Q E s := by
  obtain ⟨hp, g, d, tk, os⟩ := s
  have hT : ∀ tk', (⟨hp, g, d, tk', os⟩ : Shared).TypeIs (.ref a) "list" := fun _ => ⟨_, hx, rfl⟩
  have f3 := F.slot_list_getattribute.lookup
  have f4 := F.slot_list_getattribute.bind (.ref a)
  have f5 := am_list_getattr_none
  unfold getAttr getAttrBy
  repeat (any_goals (first | assumption | exact hT _ | ((with_reducible show wpAny _ _ (call (Value.builtin "list.__getattribute__") _ _) _ _ _); refine call_meets F.slot_list_getattribute (hT _) am_entry_list_getattribute (F.args_list_getattribute_2 _ _) (ga_append a xs k #[] _) ⟨hx, ?_⟩) | wp_step))
  show wpAny _ _ (handedOut (.ref _)) _ _ _
  exact wpAny_pure (h _)
end
section
variable {C : Cx} {S : St}
theorem Tr.attrAppend {o : Expr} {pos : Pos} {Q : Value → St → Prop}
    (h : Tr C (eval o C.env) (fun v S1 => ∃ a vs, v = .ref a ∧ (a, Ct.list vs) ∈ S1.led ∧ ∀ b, Q (.ref b) ⟨S1.loc, S1.cel, (b, .obj (appendOf a)) :: S1.led⟩) S) (hb : attributeBase o (Str.ofString "append") C.env (eval o C.env) = eval o C.env := by rfl)
    (ht : ∀ o' r, letTemporaryGo o o' r = pure () := by intro _ _; rfl) : Tr C (eval (.Attribute o (Str.ofString "append") pos) C.env) Q S := by
  intro ok s H
  rw [arm_eval_Attribute, hb]
  refine wpAny_bind (h.go ok H fun v s1 S1 h1 q1 => ?_)
  obtain ⟨a, vs, rfl, hm, hq⟩ := q1
  obtain ⟨o', e, n, rfl⟩ := h1.led _ _ hm
  refine wpAny_bind (wpAny_standAt (wpAny_bind (wpAny_holding (getAttr_append e fun tk => ?_))))
  rw [ht]
  refine wpAny_bind (wpAny_pure (wpAny_pure ?_))
  obtain ⟨loc, cel, led⟩ := S1
  exact ⟨_, h1.push ok rfl (.obj (appendOf a)) rfl tk, hq _⟩
end
end Mine
end
section
open PySem PySem.W PySem.Calls PyProof PyProof.Rows PySem.Spec PyProof.V PySem.Builtin.Str
set_option linter.unusedVariables false
namespace Mine
section
variable {prog : Program} {w : World} {A : Around} {E : Value → Shared → Prop} {s : Shared}
theorem quiet_append {as : Args} : (Code.builtin "list.append" as).quiet = true := Code.quiet_builtin _ (by decide +kernel)
theorem if_so {α : Type} {M : Model} {c : Bool} {a b : Sem α} {Q : α → Shared → Prop} (hc : c = true) (h : wpAny M A a Q E s) : wpAny M A (if c = true then a else b) Q E s := by
  subst hc
  exact h
theorem check_append {a : Addr} {x : Value} {its : Array Value} {n : Nat} {Q : Unit → Shared → Prop} (ho : s.heap.get? a = some { cls := .type "list", data := .seq its n }) (h : Q () s) : wpAny (model prog w) A (checkBoundCall "list.append" ⟨[.ref a, x], []⟩) Q E s := by
  have hT : s.TypeIs (.ref a) "list" := ⟨_, ho, rfl⟩
  have f1 : isSubtype (.type "list") (.type "module") = pure false := by rw [isSubtype_type]; kernel_rfl
  unfold checkBoundCall
  rw [signature?_of (id := "list.append") (n := ['d', 'n', 'e', 'p', 'p', 'a']) (o := ['t', 's', 'i', 'l']) (by kernel_rfl) PySem.F.owner_list]
  wp_walk
  exact h
theorem keeper_append {M : Model} {h : Heap} {b a : Addr} (e : h.get? b = some (appendOf a)) : Looks M h (keeperOf (.ref b)) .machine := by
  refine (Looks.ld (part := none) e).andThen ?_
  exact .now
theorem call_bound {b a : Addr} {its : Array Value} {n : Nat} {x : Value} {Q : Value → Shared → Prop} (hb : s.heap.get? b = some (appendOf a)) (ho : s.heap.get? a = some { cls := .type "list", data := .seq its n })
    (h : ∀ h', Heap.SameBut a s.heap h' → h'.get? a = some { cls := .type "list", data := .seq (its.push x) (n + 1) } → Q .none { s with heap := h' }) (hsz : its.size ≤ sizeLine) :
    wpAny (model prog w) A (call (.ref b) [x]) Q E s := by
  refine wpAny_call (codeAny_of_tree ?_)
  show wpAny _ A.in1 (callAny (.ref b) ⟨[x], []⟩) _ _ s
  simp only [callAny]
  refine wpAny_bind (wpAny_load hb ?_)
  simp only [appendOf, show (Value.type "builtin_function_or_method" == Value.type "method" || Value.type "builtin_function_or_method" == Value.type "builtin_function_or_method" || Value.type "builtin_function_or_method" == Value.type "method-wrapper") = true by decide, if_true]
  refine if_so (by decide) ?_
  refine wpAny_bind (check_append ho ?_)
  refine wpAny_bind (wpAny_pure (wpAny_pure ?_))
  refine ⟨quiet_append, codeAny_builtin entry_list_append ?_⟩
  show wpAny _ _ (updateSeq a (·.push x) >>= fun _ => ret .none) _ _ s
  refine wpAny_bind ?_
  refine wpAny_updateSeq ho rfl (wpAny_pure (h _ (Heap.SameBut.update ..) ?_)) hsz
  rw [Heap.get?_update_self _ ho (by rw [mapSeq_push]; rfl), mapSeq_push]
end
section
variable {C : Cx} {S : St}
theorem Tr.callBound {pos : Pos} {b : Addr} {e : Expr} {rest : List Expr} {Q : Value → St → Prop}
    (h : Tr C (spliced (backTo pos (starEach (e :: rest) C.env))) (fun vs S1 => ∃ a x us led', vs = [x] ∧ (b, Ct.obj (appendOf a)) ∈ S1.led ∧ DPut a (.list us) (.list (us ++ [x])) S1.led led' ∧ us.length ≤ sizeLine ∧ Q .none ⟨S1.loc, S1.cel, led'⟩) S)
    (he : starEach (e :: rest) C.env = (false, eval e C.env) :: starEach rest C.env := by rfl) (hp : ((backTo pos (starEach rest C.env)).any fun x => x.1) = false := by rfl) :
    Tr C (callWith pos (.ref b) [] (backTo pos (starEach (e :: rest) C.env)) (backToKw pos (keywordEach [] C.env))) Q S := by
  intro ok s hs
  have hw := h ok s hs
  rw [he] at hw ⊢
  refine callWith_of (P := fun h => ∃ a, h.get? b = some (appendOf a)) (by show ((false || (backTo pos (starEach rest C.env)).any fun x => x.1) || false) = false; rw [hp]; rfl) (fun h ⟨a, e⟩ => ⟨.machine, .inr (.inl rfl), keeper_append e⟩) ?_
  refine evalArgs_plain (wpAny_mono hw (fun vs s1 ⟨S1, h1, q1⟩ => ?_) fun _ _ e => e)
  obtain ⟨a, x, us, led', rfl, hb, P, hz, q⟩ := q1
  obtain ⟨o, eb, rfl⟩ := h1.led _ _ hb
  refine ⟨⟨a, eb⟩, ?_⟩
  obtain ⟨o, e, n, rfl⟩ := h1.led _ _ P.has
  obtain ⟨loc, cel, led⟩ := S1
  refine call_bound eb e (fun h' hs hl => ?_) (by rw [List.size_toArray]; exact hz)
  rw [List.push_toArray] at hl
  exact ⟨_, h1.turn P hs hl ⟨_, rfl⟩ _, q⟩
end
end Mine
end
section
open PySem PySem.W PySem.Calls PyProof PyProof.Rows PySem.Spec PyProof.V PySem.Builtin.Str
set_option linter.unusedVariables false
namespace Mine
section
variable {prog : Program} {w : World} {A : Around} {E : Value → Shared → Prop} {s : Shared}
theorem args_find4 (a b c d : Value) : argsOk "str.find" ⟨[a, b, c, d], []⟩ := by
  unfold argsOk; rw [signature?_of (id := "str.find") (n := ['d', 'n', 'i', 'f']) (o := ['r', 't', 's']) (by kernel_rfl) PySem.F.owner_str]; kernel_rfl
theorem call_find {x y : Str} {t u a b : Tok} {k j : Nat} {Q : Value → Shared → Prop} (hj : j ≤ x.length)
    (h : ∀ tk t', Q (.int (match occurrences x y k j 1 with | i :: _ => (i : Int) | [] => -1) t') { s with toks := tk }) : wpAny (model prog w) A (call (.builtin "str.find") [.str x t, .str y u, .int k a, .int j b]) Q E s := by
  refine wpAny_call_entry F.slot_str_find (typeIs_str s _ _) F.entry_str_find ?_ (args_find4 _ _ _ _)
  have f1 := F.slot_int_index.lookup
  obtain ⟨hp, g, d, tk, os⟩ := s
  wp_walk
  have e1 : ∀ n : Nat, (max 0 (if (n : Int) < 0 then (n : Int) + (x.length : Int) else (n : Int))).toNat = n := fun n => by rw [if_neg (by omega)]; omega
  rw [e1, e1, Nat.min_eq_left hj]
  cases ho : occurrences x y k j 1 with
  | nil =>
    rw [ho] at h
    wp_walk
    exact ⟨_, rfl, h _ _⟩
  | cons i r =>
    rw [ho] at h
    wp_walk
    exact ⟨_, rfl, h _ _⟩
end
theorem occ_full {s sub : Str} {hi : Nat} : ∀ (l : List Nat) (st : Array Nat × Nat), ¬ st.fst.size < 1 → (forIn l st (StrLaws.occBody s sub hi 1)).run = st
  | [], st, _ => rfl
  | a :: l, st, h => by
    rw [List.forIn_cons]
    unfold StrLaws.occBody
    rw [if_neg (fun q => h q.1.1.1)]
    exact occ_full l st h
section
variable {C : Cx} {S : St}
theorem Tr.findHit {l : List Nat} {c : Nat} {t u a b : Tok} {k j : Nat} {Q : Value → St → Prop} (hj : j ≤ l.length) (hk : k < j) (hc : l[k]? = some c) (h : ∀ t, Q (.int (k : Nat) t) S) : Tr C (call (.builtin "str.find") [.str (tx l) t, .str (tx [c]) u, .int k a, .int j b]) Q S := by
  have e : ∃ r, occurrences (tx l) (tx [c]) k j 1 = k :: r := by
    refine ⟨[], ?_⟩
    obtain ⟨m, hm⟩ : ∃ m, j + 1 - k = m + 1 := ⟨j - k, by omega⟩
    have h1 := (StrLaws.subAt_one (tx l) c k).mpr (by rw [tx_list]; exact hc)
    rw [StrLaws.occ_eq, hm, List.range'_succ, List.forIn_cons]
    have hb : StrLaws.occBody (tx l) (tx [c]) j 1 k (#[], k) = pure (ForInStep.yield (#[k], k + (tx [c]).length)) := by
      unfold StrLaws.occBody
      rw [if_pos ⟨⟨⟨by simp, Nat.le_refl _⟩, by rw [tx_len]; simp; omega⟩, h1.2⟩]
      rfl
    rw [hb]
    show ((forIn (List.range' (k + 1) m) (#[k], k + (tx [c]).length) (StrLaws.occBody (tx l) (tx [c]) j 1)).run).fst.toList = _
    rw [occ_full _ _ (by simp)]
  obtain ⟨r, e⟩ := e
  exact fun ok s H => call_find (by rw [tx_len]; exact hj) fun tk t' => ⟨S, H.toks _, by rw [e]; exact h t'⟩
theorem Tr.findMiss {l : List Nat} {c : Nat} {t u a b : Tok} {k j : Nat} {Q : Value → St → Prop} (hj : j ≤ l.length) (hk : j ≤ k) (h : ∀ t, Q (.int (-1) t) S) : Tr C (call (.builtin "str.find") [.str (tx l) t, .str (tx [c]) u, .int k a, .int j b]) Q S := by
  have e : occurrences (tx l) (tx [c]) k j 1 = [] := by
    rw [StrLaws.occ_eq]
    have key := (StrLaws.occ_none (tx l) (tx [c]) j (List.range' k (j + 1 - k)) k (fun i hi => by have := List.mem_range'.mp hi; obtain ⟨q, _, e⟩ := this; omega)).mpr fun i hi hc => by
      obtain ⟨q, _, e⟩ := List.mem_range'.mp hi
      have h2 := hc.1
      rw [tx_len] at h2
      simp at h2
      omega
    rw [key]
  exact fun ok s H => call_find (by rw [tx_len]; exact hj) fun tk t' => ⟨S, H.toks _, by rw [e]; exact h t'⟩
end

section
variable {prog : Program} {w : World} {A : Around} {E : Value → Shared → Prop} {s : Shared}
theorem call_replace {x y z : Str} {t u v : Tok} {Q : Value → Shared → Prop} (ho : occurrences x y 0 x.length (x.length + 1) = []) (h : ∀ tk t', Q (.str x t') { s with toks := tk }) :
    wpAny (model prog w) A (call (.builtin "str.replace") [.str x t, .str y u, .str z v]) Q E s := by
  refine wpAny_call_entry F.slot_str_replace (typeIs_str s _ _) F.entry_str_replace ?_ (PySem.F.args_str_replace_3 _ _ _)
  obtain ⟨hp, g, d, tk, os⟩ := s
  wp_walk
  exact ⟨_, rfl, h _ _⟩
end
theorem occ_miss {s sub : Str} {hi lim : Nat} : ∀ (l : List Nat) (st : Array Nat × Nat), (∀ i ∈ l, ¬ (i + sub.length ≤ hi ∧ subAt s sub i = true)) → (forIn l st (StrLaws.occBody s sub hi lim)).run = st
  | [], st, _ => rfl
  | a :: l, st, h => by
    rw [List.forIn_cons]
    unfold StrLaws.occBody
    rw [if_neg (fun q => h a List.mem_cons_self ⟨q.1.2, q.2⟩)]
    exact occ_miss l st fun i hi => h i (List.mem_cons_of_mem _ hi)
theorem occ_nil {l : List Nat} {c lim : Nat} (h : c ∉ l) : occurrences (tx l) (tx [c]) 0 (tx l).length lim = [] := by
  rw [StrLaws.occ_eq, occ_miss]
  intro i _ hc
  have := (StrLaws.subAt_one (tx l) c i).mp hc
  rw [tx_list] at this
  exact h (List.mem_of_getElem? this)
section
variable {C : Cx} {S : St}
theorem Tr.replaceMiss {l z : List Nat} {c : Nat} {t u v : Tok} {Q : Value → St → Prop} (hc : c ∉ l) (h : ∀ t, Q (.str (tx l) t) S) : Tr C (call (.builtin "str.replace") [.str (tx l) t, .str (tx [c]) u, .str (tx z) v]) Q S :=
  fun ok s H => call_replace (occ_nil hc) fun tk t' => ⟨S, H.toks _, h t'⟩
end
end Mine
end
section
open PySem PySem.W PySem.Calls PyProof PyProof.Rows PySem.Spec PyProof.V PySem.Builtin.Str
set_option linter.unusedVariables false
namespace Mine
section
variable {C : Cx} {S : St}
theorem Tr.joined {v₁ v₂ : Expr} {rest : List Expr} {pos : Pos} {Q : Value → St → Prop} (h : Tr C (joinParts (tx []) (eval v₁ C.env :: eval v₂ C.env :: evalEach rest C.env)) Q S) : Tr C (eval (.JoinedStr (v₁ :: v₂ :: rest) pos) C.env) Q S :=
  fun ok s H => JoinedStr_many (h ok s H)
theorem Tr.jp_cons {out : List Nat} {x : Sem Value} {rest : List (Sem Value)} {Q : Value → St → Prop} (h : Tr C x (fun v S1 => ∃ l t, v = .str (tx l) t ∧ out.length + l.length ≤ sizeLine ∧ Tr C (joinParts (tx (out ++ l)) rest) Q S1) S) : Tr C (joinParts (tx out) (x :: rest)) Q S := by
  intro ok s H
  refine joinParts_cons (h.go ok H fun v s1 S1 h1 q1 => ?_)
  obtain ⟨l, t, rfl, hz, q⟩ := q1
  show (tx out ++ tx l).length ≤ sizeLine ∧ wpAny _ _ (joinParts (tx out ++ tx l) rest) _ _ s1
  rw [tx_add]
  exact ⟨by rw [tx_len, List.length_append]; exact hz, q ok s1 h1⟩
theorem Tr.jp_nil {out : List Nat} {Q : Value → St → Prop} (hz : out.length ≤ sizeLine) (h : ∀ t, Q (.str (tx out) t) S) : Tr C (joinParts (tx out) []) Q S :=
  fun ok s H => joinParts_nil ⟨S, H.toks _, h _⟩ (by rw [tx_len]; exact hz)
theorem Tr.fmtPlain {value : Expr} {pos : Pos} {Q : Value → St → Prop} (h : Tr C (eval value C.env) (fun v S1 => Tr C (formatField v Str.empty) Q S1) S) : Tr C (eval (.FormattedValue value (-1) none pos) C.env) Q S :=
  fun ok s H => FormattedValue_plain (h.go ok H fun _ s1 S1 h1 q1 => q1 ok s1 h1)
theorem Tr.fmtStr {l : List Nat} {t : Tok} {Q : Value → St → Prop} (hz : l.length ≤ sizeLine) (h : ∀ t, Q (.str (tx l) t) S) : Tr C (formatField (.str (tx l) t) Str.empty) Q S :=
  fun ok s H => formatField_str (fun t' tk => ⟨S, H.toks _, h t'⟩) (by rw [tx_len]; exact hz)
/-- a letter among a tuple's texts -/
theorem Tr.inTup {a : Addr} {vs : List Value} {l : List Nat} {xs : List (List Nat)} {t : Tok} {Q : Value → St → Prop} (hT : TAt C S a vs) (hx : Txs vs xs) (h : Q (.bool (decide (l ∈ xs))) S) : Tr C (compareOp .In (.str (tx l) t) (.ref a)) Q S := by
  intro ok s H
  obtain ⟨o, e, hc, n, hd⟩ := hT.is H
  exact in_tuple_strs (items := vs.toArray) ⟨o, e, hc, n, hd⟩ hx ⟨S, H, by rw [any_tx]; exact h⟩
theorem Tr.delItem {loc cel} {led led' : Led} {a : Addr} {vs : List Value} {k : Nat} {t : Tok} {Q : Unit → St → Prop} (hk : k < vs.length) (hz : vs.length ≤ sizeLine) (P : DPut a (.list vs) (.list (vs.eraseIdx k)) led led') (h : Q () ⟨loc, cel, led'⟩) :
    Tr C (PySem.delItem (.ref a) (.int (k : Nat) t)) Q ⟨loc, cel, led⟩ := by
  intro ok s H
  obtain ⟨o, e, n, rfl⟩ := H.led _ _ P.has
  have hz' : sizeLine = 16777216 := sizeLine_eq
  refine wpAny_delItem_plain (k := k) ⟨n, e⟩ (fitsIndex_of (Int.natCast_nonneg k) (by omega)) ?_ (fun h' hl hs => ?_) (by simpa using hz)
  · unfold seqIndex?
    have h2 : (if (k : Int) < 0 then (k : Int) + (vs.toArray.size : Int) else (k : Int)) = k := if_neg (by omega)
    dsimp only
    rw [h2, if_pos (by simp; omega)]
    simp
  · have e2 : vs.toArray.eraseIdxIfInBounds k = (vs.eraseIdx k).toArray := by
      simp [Array.eraseIdxIfInBounds, hk]
    rw [e2] at hl
    obtain ⟨n', e'⟩ := hl
    exact ⟨_, H.turn P hs e' ⟨_, rfl⟩ _, h⟩
end
end Mine
end
section
open PySem PySem.W PySem.Calls PyProof PyProof.Rows PySem.Spec PyProof.V PySem.Builtin.Str
set_option linter.unusedVariables false
namespace Mine
noncomputable def reTup : Obj := objAt 35
noncomputable def rePat : Obj := objAt 36
noncomputable def reCode : Array Nat := match reTup.data with
  | .seq xs _ => (xs.map Builtin.Re.reRawOf).map (·.toNat)
  | _ => #[]
def reOk (c : Nat) : Bool := c == 33 || c == 45 || (97 ≤ c && c ≤ 100)
theorem inset_no {c : Nat} (h : reOk c = true) (seen : Sre.Seen) : ∃ seen', Sre.inSet reCode c reCode.size 5 true seen = .ok (false, seen') := by
  have : c = 33 ∨ c = 45 ∨ c = 97 ∨ c = 98 ∨ c = 99 ∨ c = 100 := by
    simp only [reOk, Bool.or_eq_true, beq_iff_eq, Bool.and_eq_true, decide_eq_true_eq] at h
    omega
  rcases this with rfl | rfl | rfl | rfl | rfl | rfl <;> exact ⟨(seen.add 9).add 0, by kernel_rfl⟩

theorem admitted_no {m : Sre.M} (hc : m.code = reCode) (ht : ∀ i, i < m.lim → reOk (m.text.getD i 0) = true) : ∀ (fuel s : Nat) (seen : Sre.Seen), ∃ seen', Sre.M.admitted m fuel s seen = .ok (none, seen')
  | 0, s, seen => ⟨seen, rfl⟩
  | fuel + 1, s, seen => by
    unfold Sre.M.admitted
    by_cases hs : s ≥ m.lim
    · exact ⟨seen, if_pos hs⟩
    · rw [if_neg hs, hc]
      obtain ⟨seen', e⟩ := inset_no (ht s (by omega)) seen
      rw [e]
      exact admitted_no hc ht fuel (s + 1) seen'
theorem first_set {m : Sre.M} (h : m.code = reCode) : m.hasFirstSet = true := by
  unfold Sre.M.hasFirstSet
  rw [h]; kernel_rfl
theorem from_no {m : Sre.M} (hc : m.code = reCode) (ht : ∀ i, i < m.lim → reOk (m.text.getD i 0) = true) (hf : m.frames = []) (ho : m.outcome = none) :
    (m.attemptFrom 0 true).answer = some false ∧ (m.attemptFrom 0 true).frames = [] ∧ (m.attemptFrom 0 true).outcome = none := by
  unfold Sre.M.attemptFrom
  rw [if_neg (by rw [first_set hc]; decide)]
  obtain ⟨seen', e⟩ := admitted_no hc ht (m.lim + 1 - 0) 0 m.seen
  rw [e]
  exact ⟨rfl, hf, ho⟩
theorem search_no {text : Array Nat} (ht : ∀ i, i < text.size → reOk (text.getD i 0) = true) :
    (Sre.forSearch reCode text 1 0 text.size false).answer = some false ∧ (Sre.forSearch reCode text 1 0 text.size false).frames = [] ∧ (Sre.forSearch reCode text 1 0 text.size false).outcome = none := by
  unfold Sre.forSearch
  dsimp only
  split
  · exact ⟨rfl, rfl, rfl⟩
  · exact from_no rfl ht rfl rfl
theorem run_no {m : Sre.M} (ha : m.answer = some false) (hf : m.frames = []) (ho : m.outcome = none) : m.runFor 4 = { m with outcome := some .failed } := by
  have e : m.step = { m with outcome := some .failed } := by
    unfold Sre.M.step
    rw [ho, ha, hf]
    rfl
  show (if m.outcome.isSome then m else Sre.M.runFor 3 m.step) = _
  rw [ho, e]
  rfl
section
variable {M : Model} {A : Around} {E : Value → Shared → Prop} {s : Shared}
theorem rules_loop {p : Nat → Bool} {nm : Nat → String} : ∀ (l : List Nat) (Q : PUnit → Shared → Prop), Q ⟨⟩ s → wpAny M A (forIn l (⟨⟩ : PUnit) fun i _ => if p i = true then (do rule (nm i); pure (ForInStep.yield ⟨⟩)) else pure (ForInStep.yield ⟨⟩)) Q E s
  | [], Q, h => wpAny_pure h
  | a :: l, Q, h => by
    rw [List.forIn_cons]
    refine wpAny_bind ?_
    split
    · exact wpAny_bind (wpAny_rule (wpAny_pure (rules_loop l Q h)))
    · exact wpAny_pure (rules_loop l Q h)
theorem toEnd_no {m : Sre.M} {Q : Option Sre.M → Shared → Prop} (ha : m.answer = some false) (hf : m.frames = []) (ho : m.outcome = none) (h : Q none s) : wpAny M A (Builtin.Re.reRunToEnd m) Q E s := by
  unfold Builtin.Re.reRunToEnd
  refine wpAny_bind ?_
  rw [show (2 : Nat) ^ 64 = (2 ^ 64 - 1) + 1 by decide]
  unfold Builtin.Re.reDrive
  rw [show Builtin.Re.reTurnSteps = 4 by rfl, run_no ha hf ho]
  dsimp only
  rw [if_pos (by rfl)]
  refine wpAny_pure ?_
  refine wpAny_bind ?_
  exact rules_loop _ _ (wpAny_pure h)
end
end Mine
end
section
open PySem PySem.W PySem.Calls PyProof PyProof.Rows PySem.Spec PyProof.V PySem.Builtin.Str
set_option linter.unusedVariables false
namespace Mine
theorem sub_slot : Slot "re.Pattern" "sub" "re.Pattern.sub" :=
  .of (owner := "re.Pattern") (n := "sub") (by rw [typeLookup_type, builtinLookup_eq_fast]; kernel_rfl) (by decide +kernel) (by decide +kernel) (by decide +kernel)
    (by first | exact .inl (by decide +kernel) | exact .inr (by decide +kernel)) (by rw [isSubtype_type]; kernel_rfl)
theorem sub_entry : entryFor table "re.Pattern.sub" = some Builtin.«re.Pattern.sub» := entryFor_of_tree (by kernel_rfl)
section
variable {prog : Program} {w : World} {A : Around} {E : Value → Shared → Prop} {s : Shared}
theorem join_code {y : Str} {u : Tok} {P : Addr} {v : Str} {t : Tok} {n : Nat} {R : Result → Shared → Prop} (hP : s.heap.get? P = some { cls := .type "list", data := .seq #[.str v t] n }) (h : R (.ok (.ret (.str v t))) s) :
    codeAny (model prog w) A (.call (.builtin "str.join") ⟨[.str y u, .ref P], []⟩) R s := by
  refine codeAny_call_builtin F.slot_str_join.plain F.entry_str_join (F.slot_str_join.check _ _ _ _ _ _ _ _ (typeIs_str s _ _) (PySem.F.args_str_join_2 _ _) ?_)
  obtain ⟨hp, g, d, tk, os⟩ := s
  wp_walk using AutoSeq1.wpAny_loadPart' hP
  exact h
end
theorem if_so2 {α : Type} {M : Model} {A : Around} {E : Value → Shared → Prop} {s : Shared} {c : Bool} {a b : Sem α} {Q : α → Shared → Prop} (hc : c = true) (h : wpAny M A a Q E s) : wpAny M A (if c = true then a else b) Q E s := by
  subst hc
  exact h
theorem after_no {M : Model} {A : Around} {E : Value → Shared → Prop} {s : Shared} {m : Sre.M} {Q : Option Sre.M → Shared → Prop} (ho : m.outcome = some .failed) (h : Q none s) : wpAny M A (do
    for i in List.range Sre.names.size do
      if m.seen.has i then rule (Sre.names.getD i "")
    match m.outcome with
    | some .matched => pure (some m)
    | some .failed => pure none
    | some (.stuck why) => unsupported s!"_sre:{why}"
    | none => unsupported "internal:sre:no-outcome") Q E s := by
  refine wpAny_bind (rules_loop _ _ ?_)
  rw [ho]
  exact wpAny_pure h
theorem sub_loop_entry : entryFor table "re.Pattern.sub.loop" = some Builtin.«re.Pattern.sub.loop» := entryFor_of_tree (by kernel_rfl)
theorem sub_type : typeOf (.builtin "re.Pattern.sub") = pure (.type "method_descriptor") := by show builtinType _ = _; rw [builtinType_eq_fast]; kernel_rfl
theorem sub_args (a b c : Value) : argsOk "re.Pattern.sub" ⟨[a, b, c], []⟩ := by unfold argsOk; kernel_rfl
theorem sub_plain : plainId "re.Pattern.sub.loop" = true := by decide +kernel

theorem rp_attrs : PlainAttrs "re.Pattern" :=
  ⟨⟨"object.__getattribute__", by rw [typeLookup_type, builtinLookup_eq_fast]; kernel_rfl, by decide +kernel⟩, by rw [typeLookup_type, builtinLookup_eq_fast]; kernel_rfl⟩
theorem fn_call : typeLookup (.type "function") "__call__" = pure (some (.builtin "function.__call__")) := by rw [typeLookup_type, builtinLookup_eq_fast]; kernel_rfl
open AutoSeq1 (wpAny_loadPart')
theorem sub_loop (x : List Nat) (t : Tok) (lam P : Addr) (hx : ∀ c ∈ x, reOk c = true) (hz : x.length ≤ 100) :
    Meets (Builtin.«re.Pattern.sub.loop» ⟨[.ref 36, .str (tx x) t, .ref lam, rawInt 1, rawInt 0, rawInt 0, rawInt 0, rawInt 0, .bool false, .ref P, .bool false], []⟩)
      (fun A R s => s.heap.get? 36 = some rePat ∧ s.heap.get? 35 = some reTup ∧ s.heap.get? P = some { cls := .type "list", data := .seq #[] } ∧
        ∀ h' tk t', Heap.ExtBut P s.heap h' → R (.ok (.ret (.str (tx x) t'))) { s with heap := h', toks := tk }) := by
  intro prog w A R s h
  obtain ⟨hp, g, d, tk, os⟩ := s; obtain ⟨h36, h35, hP, h⟩ := h
  have hs := search_no (text := (tx x).cps) (fun i hi => by
    have hi' : i < x.length := by simpa [tx] using hi
    have : (tx x).cps.getD i 0 = x[i] := by simp [tx, hi']
    rw [this]; exact hx _ (List.getElem_mem hi'))
  have hr := run_no hs.1 hs.2.1 hs.2.2
  unfold Builtin.«re.Pattern.sub.loop»
  wp_walk using wpAny_loadPart' h36, wpAny_loadPart' h35
  refine if_so2 (by show (Sre.M.runFor 4 (Sre.forSearch reCode (tx x).cps 1 0 (tx x).cps.size false)).outcome.isSome = true; rw [hr]; rfl) ?_
  refine wpAny_pure ?_
  refine after_no (by show (Sre.M.runFor 4 (Sre.forSearch reCode (tx x).cps 1 0 (tx x).cps.size false)).outcome = _; rw [hr]) ?_
  dsimp only
  wp_walk
  have hsz : (tx x).cps.size = x.length := by simp [tx]
  cases x with
  | nil =>
    rw [if_neg (by rw [hsz]; decide)]
    wp_walk using wpAny_loadPart' hP
    exact h hp _ _ (Heap.ExtBut.refl P hp)
  | cons c r =>
    rw [if_pos (by rw [hsz]; simp)]
    have hsl : Builtin.Re.reSlice (tx (c :: r)).cps 0 (Int.toNat 0) (tx (c :: r)).cps.size = mkStr (tx (c :: r)) := by
      show mkStr ⟨(tx (c :: r)).cps.extract 0 (tx (c :: r)).cps.size⟩ = _
      rw [Array.extract_size]
    rw [hsl]
    refine wpAny_bind (wpAny_mkStr ?_ (by rw [tx_len, sizeLine_eq]; omega))
    refine wpAny_bind (wpAny_updateSeq hP rfl ?_ (by simp))
    have hP2 : (hp.update P (Obj.mapSeq fun y => y.push (.str (tx (c :: r)) tk))).get? P = some { cls := .type "list", data := .seq #[.str (tx (c :: r)) tk] 1 } := by
      rw [Heap.get?_update_self _ hP (by rw [mapSeq_push]; rfl), mapSeq_push]; rfl
    have hb : Heap.ExtBut P hp (hp.update P (Obj.mapSeq fun y => y.push (.str (tx (c :: r)) tk))) := (Heap.SameBut.update ..).extBut
    dsimp only
    generalize hp.update P (Obj.mapSeq fun y => y.push (.str (tx (c :: r)) tk)) = hp2 at *
    wp_walk using wpAny_loadPart' hP2
    refine join_code hP2 ?_
    dsimp only
    rw [if_neg (by decide)]
    exact wpAny_pure (h hp2 _ _ hb)
theorem sub_meets (x : List Nat) (t : Tok) (lam : Addr) (fo : Obj) (hx : ∀ c ∈ x, reOk c = true) (hz : x.length ≤ 100) (hlc : fo.cls = .type "function") :
    Meets (Builtin.«re.Pattern.sub» ⟨[.ref 36, .ref lam, .str (tx x) t], []⟩)
      (fun A R s => s.heap.get? 36 = some rePat ∧ s.heap.get? 35 = some reTup ∧ s.heap.get? lam = some fo ∧
        ∀ h' tk t', Sub s.heap h' → R (.ok (.ret (.str (tx x) t'))) { s with heap := h', toks := tk }) := by
  intro prog w A R s h
  obtain ⟨h36, h35, hl, h⟩ := h
  have hT : s.TypeIs (.ref 36) "re.Pattern" := ⟨_, h36, rfl⟩
  have hTl : s.TypeIs (.ref lam) "function" := ⟨_, hl, hlc⟩
  have f1 := fn_call
  have f2 : isSubtype (.type "str") (.type "bytearray") = pure false := by rw [isSubtype_type]; kernel_rfl
  unfold Builtin.«re.Pattern.sub» Builtin.Re.reSubstitute
  wp_walk
  refine ⟨plainId_quiet sub_plain _, codeAny_builtin sub_loop_entry ?_⟩
  rw [Around.under_plainId sub_plain _]
  have up : ∀ b o, s.heap.get? b = some o → (s.heap.push { cls := .type "list", data := .seq #[] }).get? b = some o := fun b o e => Heap.get?_push_of_some _ e
  refine sub_loop x t lam s.heap.objs.size hx hz prog w A R _ ⟨up _ _ h36, up _ _ h35, Heap.get?_push_size _ rfl, fun h' tk t' hb => ?_⟩
  exact h h' tk t' fun b o e => hb b o (Nat.ne_of_lt (Heap.lt_size e)) (up b o e)
section
variable {C : Cx} {S : St}
theorem pat_at (P : Params) : (hd.heap_39 P).lookup 36 = some rePat ∧ (hd.heap_39 P).lookup 35 = some reTup := ⟨rfl, rfl⟩
theorem Tr.sub {x : List Nat} {t : Tok} {lam : Addr} {fo : Obj} {Q : Value → St → Prop} (hx : ∀ c ∈ x, reOk c = true) (hz : x.length ≤ 100) (hl : (lam, Ct.obj fo) ∈ S.led) (hlc : fo.cls = .type "function") (h : ∀ t, Q (.str (tx x) t) S) :
    Tr C (call (.builtin "re.Pattern.sub") [.ref 36, .ref lam, .str (tx x) t]) Q S := by
  intro ok s H
  have h36 := H.keep _ _ (ok.gd.k _ _ (pat_at C.w.params).1)
  have h35 := H.keep _ _ (ok.gd.k _ _ (pat_at C.w.params).2)
  obtain ⟨o, e, rfl⟩ := H.led _ _ hl
  exact call_meets sub_slot ⟨_, h36, rfl⟩ sub_entry (sub_args _ _ _) (sub_meets x t lam o hx hz hlc) ⟨h36, h35, e, fun h' tk t' hk => ⟨S, H.subH hk tk, h t'⟩⟩
end
end Mine
end
section
open PySem PySem.W PySem.Calls PyProof PyProof.Rows PySem.Spec PyProof.V PySem.Builtin.Str
set_option linter.unusedVariables false
namespace Mine
section
variable {C : Cx} {S : St}
theorem Holds.regrow {s : Shared} (ok : C.Ok) (H : Holds C S s) {h' : Heap} (hx : Heap.ExtBut 50 s.heap h') (ht : TabOk 50 h') (tk : Nat) : Holds C S { s with heap := h', toks := tk } := by
  have L := L_no H
  refine ⟨?_, H.locs, H.locn, fun b o e => hx b o (fun q => by rw [q, ok.n1] at e; cases e) (H.keep b o e), fun x k ov h => ?_, H.cels, fun b k hb => ?_, H.out, H.nodup, H.os, H.gens, ⟨ht, ht⟩⟩
  · obtain ⟨m, ⟨o, es, ep, e, r⟩, hml⟩ := H.loc
    exact ⟨m, ⟨o, es, ep, hx _ _ L.1 e, r⟩, hml⟩
  · obtain ⟨o, e, hd⟩ := H.cel x k ov h
    exact ⟨o, hx _ _ (H.out _ (St.out_cel h)).2.2.1 e, hd⟩
  · obtain ⟨o, e, i⟩ := H.led b k hb
    exact ⟨o, hx _ _ (H.out _ (St.out_led hb)).2.2.1 e, i⟩
theorem TopL.at {mg mb : Str → Option Value} {h : Heap} (T : TopL mg mb h) {P : Addr} (hP : ∀ bm ob, mg "__builtins__" = some (.ref bm) → h.get? bm = some ob → ob.data = .plain → bm ≠ P ∧ bm ≠ mainGlobals) : h.BuiltinsAt mg P := by
  obtain ⟨bm, ob, h1, h2, h3, h4, h5, h6⟩ := T.bmain
  have := hP bm ob h1 h3 h6
  exact ⟨bm, ob, h1, h2, this.2, this.1, h3, h4, h5, h6⟩
/-- a lambda whose code stands in the table at 50 -/
theorem Tr.lambda50 {params : Arguments} {body : Expr} {scope : Scope} {pos : Pos} {loc cel} {led : Led} {Q : Value → St → Prop} {cd : Addr} {clos : List (Str × Addr)} (hcode : C.env.code = .ref cd) (hhd : ∀ p, codeHdIn (hd.heap_39 p) cd 50 = true)
    (hdef : defaultsOf params C.env = ([], [])) (hcl : closureFor scope C.env = pure clos)
    (h : ∀ f fo, fo.cls = .type "function" → Q (.ref f) ⟨loc, cel, (f, .obj fo) :: led⟩) : Tr C (eval (.Lambda params body scope pos) C.env) Q ⟨loc, cel, led⟩ := by
  intro ok s H
  refine kla_eval hdef ?_
  obtain ⟨mg, mb, T⟩ := ok.gd.top
  have T' := T.keeps H.keep
  obtain ⟨ps, e50, tr⟩ := H.gi.t1
  have hd' : CodeHd s.heap cd 50 := codeHd_of_K (ok.gd.k.keeps H.keep) (hhd C.w.params)
  have hb : s.heap.BuiltinsAt mg 50 := T'.at fun bm ob _ e pl => by
    refine ⟨fun q => ?_, fun q => ?_⟩
    · rw [q, e50] at e
      cases e
      cases pl
    · obtain ⟨o, es, ep, e2, hdat⟩ := T'.g
      rw [q, e2] at e
      cases e
      rcases hdat with ⟨h1, h2⟩
      simp_all
  cases hc : codeAmong pos ps.toList with
  | some cv =>
    refine kla_makeFunctionHit hcl ok.globals T'.g hcode hd' e50 tr hc hb fun ctv h' tk hk hsz => ?_
    have H2 := H.subH hk tk
    exact ⟨_, H2.push ok (o := { cls := .type "function", data := .func (kla_fn _ _ params body scope clos ((mg "__name__").getD .none) cv ctv) }) rfl (.obj _) rfl tk, h _ _ rfl⟩
  | none =>
    refine kla_makeFunction hcl ok.globals T'.g hcode hd' e50 tr hc (by decide) hb fun c' ctv h' tk hx hge hlt hrec htb => ?_
    have ht : TabOk 50 h' := ⟨_, htb, by
      have := TriplesOk_snoc pos.line pos.col (.ref c') ps.toList tr
      simpa using this⟩
    have H2 := H.regrow ok hx ht tk
    exact ⟨_, H2.push ok (o := kla_obj _ _ params body scope clos ((mg "__name__").getD .none) c' ctv) rfl (.obj _) rfl tk, h _ _ rfl⟩
theorem Tr.methP {pl : Sem Bool} {Q : Value × List Value → St → Prop} (h : Q (.builtin "re.Pattern.sub", [.ref 36]) S) : Tr C (getMethod (.ref 36) (Str.ofString "sub") pl) Q S := by
  intro ok s H
  have h36 := H.keep _ _ (ok.gd.k _ _ (pat_at C.w.params).1)
  exact getMethod_builtin (T := "re.Pattern") ⟨_, h36, rfl⟩ rp_attrs sub_slot sub_type (fun b eb => by cases eb; exact ⟨_, h36, rfl⟩) ⟨S, H, h⟩
end
end Mine
end
section
open PySem PySem.W PySem.Calls PyProof PyProof.Rows PySem.Spec PyProof.V PySem.Builtin.Str
set_option linter.unusedVariables false
namespace Mine
def joinT (sep : List Nat) : List (List Nat) → List Nat
  | [] => []
  | [x] => x
  | x :: y :: r => x ++ sep ++ joinT sep (y :: r)
theorem join_tx (sep : List Nat) : ∀ xs : List (List Nat), Txt.join (tx sep) (xs.map tx) = tx (joinT sep xs) := by
  have h : ∀ xs : List (List Nat), Str.join (tx sep) (xs.map tx) = tx (joinT sep xs) := by
    intro xs
    induction xs with
    | nil => rfl
    | cons x r ih =>
      cases r with
      | nil => rfl
      | cons y r =>
        show tx x ++ tx sep ++ Str.join (tx sep) ((y :: r).map tx) = _
        rw [ih, tx_add, tx_add]; rfl
  intro xs
  show glued _ _ = _
  rw [StrLaws.glued_eq_join]; exact h xs
theorem joinOk_of {sep : List Nat} {xs : List (List Nat)} {B : Nat} (hB : ∀ y ∈ xs, y.length ≤ B) (h : xs.length * B + xs.length * sep.length ≤ 16777216) : JoinOk (tx sep) (xs.map tx) = true := by
  unfold JoinOk
  rw [Bool.not_eq_true']
  refine StrLaws.joinFits (B := B) (fun y hy => ?_) (by rw [List.length_map, tx_len]; exact h)
  obtain ⟨z, hz, rfl⟩ := List.mem_map.mp hy
  rw [tx_len]; exact hB z hz
theorem strs_values : ∀ {vs : List Value} {ts : List Str}, StrsAre vs ts → ∃ l : List (Str × Tok), strValues l = vs ∧ l.map (·.1) = ts
  | _, _, .nil => ⟨[], rfl, rfl⟩
  | _, _, .cons m t h => by
    obtain ⟨l, e1, e2⟩ := strs_values h
    exact ⟨(m, t) :: l, by rw [← e1]; rfl, by rw [← e2]; rfl⟩
section
variable {C : Cx} {S : St}
theorem Tr.joinL {a : Addr} {vs : List Value} {sep : List Nat} {xs : List (List Nat)} {t : Tok} {B : Nat} {Q : Value → St → Prop} (L : LAt C S a vs) (hx : Txs vs xs) (hB : ∀ y ∈ xs, y.length ≤ B) (hz : xs.length * B + xs.length * sep.length ≤ 16777216)
    (h : ∀ t, Q (.str (tx (joinT sep xs)) t) S) : Tr C (call (.builtin "str.join") [.str (tx sep) t, .ref a]) Q S := by
  intro ok s H
  obtain ⟨l, e1, e2⟩ := strs_values hx
  refine SC.join (l := l) (texts := xs.map tx) (by rw [e1]; exact L.is H) e2 (joinOk_of hB hz) fun t' k => ?_
  rw [join_tx]
  exact ⟨S, H.toks _, h _⟩

theorem codeAmong_some {pos : Pos} {l : List Value} : codeAmong pos l = none ∨ ∃ c, codeAmong pos l = some c := by
  cases codeAmong pos l with
  | none => exact .inl rfl
  | some c => exact .inr ⟨c, rfl⟩
/-- the code of a generator, in the table at 50 -/
theorem Holds.genCode {S : St} {s : Shared} {pos : Pos} {qn : Str} {scope : Scope} {cd : Addr} {Q : Value → Shared → Prop} {E : Value → Shared → Prop} (ok : C.Ok) (H : Holds C S s) (hcode : C.env.code = .ref cd) (hhd : ∀ p, codeHdIn (hd.heap_39 p) cd 50 = true)
    (h : ∀ c h' tk, Holds C S { s with heap := h', toks := tk } → Heap.ExtBut 50 s.heap h' → s.heap.objs.size ≤ h'.objs.size → Q c { s with heap := h', toks := tk }) :
    wpAny (model pg C.w) C.A (genexprCode C.env pos qn scope) Q E s := by
  obtain ⟨ps, e50, tr⟩ := H.gi.t1
  have hd' : CodeHd s.heap cd 50 := codeHd_of_K (ok.gd.k.keeps H.keep) (hhd C.w.params)
  rcases codeAmong_some (pos := pos) (l := ps.toList) with hc | ⟨c, hc⟩
  · refine wpAny_genexprCodeX hcode (hd'.code e50 tr) (hd'.tab e50) hc fun c' h' tk hx hge hlt hcode' _ htab _ => ?_
    have ht : TabOk 50 h' := ⟨_, htab.2, by
      have := TriplesOk_snoc pos.line pos.col (.ref c') ps.toList tr
      simpa using this⟩
    exact h _ h' tk (H.regrow ok hx ht tk) hx (by omega)
  · exact wpAny_genexprCode_hit hcode (hd'.code e50 tr) hc (h c s.heap s.toks H (Heap.ExtBut.refl _ _) (Nat.le_refl _))
theorem Holds.gensNew {S : St} {s : Shared} (H : Holds C S s) {g : Array GenState} (hg : AllBare g) {d : _} : Holds C S { s with gens := g, drawn := d } :=
  ⟨H.loc, H.locs, H.locn, H.keep, H.cel, H.cels, H.led, H.out, H.nodup, H.os, hg, H.gi⟩
theorem filt_true (n : Nat) : passing (fun _ => true) n 0 = List.range n := by
  unfold passing
  rw [List.drop_zero]
  induction n with
  | zero => rfl
  | succ n ih => rw [List.range_succ, List.filter_append, ih]; rfl
theorem range_get {n j i : Nat} (h : (List.range n)[j]? = some i) : j = i ∧ j < n := by
  obtain ⟨hl, e⟩ := List.getElem?_eq_some_iff.mp h
  rw [List.length_range] at hl
  rw [List.getElem_range] at e
  exact ⟨e, hl⟩
/-- a text that joins what a generator of texts gives -/
theorem Tr.joinGen {pos : Pos} {sep : List Nat} {t : Tok} {elt iter : Expr} {x : Str} {px : Pos} {scope : Scope} {gpos : Pos} {Q : Value → St → Prop} {cd : Addr} {f : List Nat → List Nat} {B : Nat}
    (hcode : C.env.code = .ref cd) (hhd : ∀ p, codeHdIn (hd.heap_39 p) cd 50 = true)
    (hco : scope.isCoroutine = false) (hclos : closureFor scope C.env = pure []) (hcell : ∀ y ∈ scope.names, y.2 ≠ .cell) (h0 : scope.names.lookup (".0" : Str) = some NameKind.local)
    (hx : scope.names.lookup x = some .local) (hkind : scope.kind = .function)
    (h : Tr C (eval iter C.env) (fun v S1 => ∃ l vs xs, v = .ref l ∧ (l, Ct.list vs) ∈ S1.led ∧ Txs vs xs ∧ xs.length ≤ sizeLine ∧ (∀ y ∈ xs.map f, y.length ≤ B) ∧ xs.length * B + xs.length * sep.length ≤ 16777216 ∧
      (∀ (cenv : Env) (A' : Around) (E' : Value → Shared → Prop) (i : Nat) (y : List Nat) (u : Tok) (s₂ : Shared) (m₂ : Str → Option Value), cenv.scope = scope → A'.handled = none → xs[i]? = some y → s₂.heap.Ns cenv.locals m₂ → m₂ x = some (.str (tx y) u) →
        wpAny (model pg C.w) A' (eval elt cenv) (fun r s₃ => (∃ u, r = .str (tx (f y)) u) ∧ Keeps s₂ s₃) E' s₂) ∧
      ∀ t, Q (.str (tx (joinT sep (xs.map f))) t) S1) S)
    (hs : ∀ x, genFold iter C.env x = pure x := by intro _; rfl) :
    Tr C (callWith pos (.builtin "str.join") [.str (tx sep) t] (backTo pos (starEach [.GeneratorExp elt [⟨.Name x px, iter, [], 0⟩] scope gpos] C.env)) (backToKw pos (keywordEach [] C.env))) Q S := by
  intro ok s hs'
  refine callWith_of (P := fun _ => True) rfl (fun h _ => ⟨.machine, .inr (.inl rfl), Looks.of_pure rfl⟩) ?_
  refine evalArgs_plain ?_
  show wpAny _ _ (do let v ← eval _ C.env; let here ← (pure [v] : Sem (List Value)); return here ++ (← holding here (spliced (backTo pos (starEach [] C.env))))) _ _ s
  refine wpAny_bind ?_
  have hroom : C.A.depth < recursionLimit := by have := ok.depth; omega
  refine wpAny_GeneratorExp_walksQ ok.hd hco hclos hcell h0 hx hkind hroom (h.go ok hs' fun v s1 S1 H1 q1 => ?_) hs
  obtain ⟨l, vs, xs, rfl, hl, hxs, hxz, hB, hz, helt, hq⟩ := q1
  have hlis : s1.heap.IsList l vs.toArray := LAt.is (.inl hl) H1
  refine wpAny_pyIter_list hlis ?_
  obtain ⟨loc, cel, led⟩ := S1
  have H2 := H1.push ok (o := { cls := .type "list_iterator", data := .fields #[.ref l, .int 0 0] }) rfl (.pred fun _ => True) trivial s1.toks
  obtain ⟨mg, mb, T⟩ := ok.gd.top
  have nl := fun {S : St} {s : Shared} (H : Holds C S s) => (T.keeps H.keep).nolimit
  refine ⟨nl H2, H2.genCode ok hcode hhd fun code h3 tk3 H3 hx3 hsz3 => ?_⟩
  have T3 := T.keeps H3.keep
  obtain ⟨bm, ob, b1, b2, b3, b4, b5, b6⟩ := T3.bmain
  refine wpAny_builtinsFor (globals := C.env.globals) (by rw [ok.globals]; exact T3.g) b1 b2 b3 b4 b5 b6 ?_
  have hlt : l < s1.heap.objs.size := by obtain ⟨_, e, _⟩ := hlis; exact Heap.lt_size e
  have hlen : vs.length = xs.length := by have := StrsAre.length hxs; simpa using this
  have hI0 : (s1.heap.push { cls := .type "list_iterator", data := .fields #[.ref l, .int 0 0] }).get? s1.heap.objs.size = some { cls := .type "list_iterator", data := .fields #[.ref l, .int 0 0] } := Heap.get?_push_size _ rfl
  have hsz2 : (s1.heap.push { cls := .type "list_iterator", data := .fields #[.ref l, .int 0 0] }).objs.size = s1.heap.objs.size + 1 := Heap.size_push ..
  have n50 : ∀ o, s1.heap.get? 50 = some o → s1.heap.objs.size ≠ 50 := fun o e q => by have := Heap.lt_size e; rw [q] at this; exact absurd this (Nat.lt_irrefl _)
  obtain ⟨o50, e50⟩ : ∃ o, s1.heap.get? 50 = some o := let ⟨ps, e, _⟩ := H1.gi.t1; ⟨_, e⟩
  have hI3 : h3.get? s1.heap.objs.size = some { cls := .type "list_iterator", data := .fields #[.ref l, .int 0 0] } := hx3 _ _ (n50 _ e50) hI0
  have hl50 : l ≠ 50 := (H1.out l (St.out_led hl)).2.2.1
  have hl3 : h3.IsList l vs.toArray := by
    obtain ⟨o, e, r⟩ := hlis
    exact ⟨o, hx3 _ _ hl50 (Heap.get?_push_of_some _ e), r⟩
  refine ⟨s1.heap.objs.size, [s1.heap.objs.size, l], [s1.heap.objs.size], vs.toArray.size, _, _, fun _ => true, fun i y => ∃ u z, xs[i]? = some z ∧ y = .str (tx (f z)) u, rfl, fun A' hA => Walks.list hA _ _ (Nat.ne_of_lt hlt) vs.toArray, ⟨⟨_, hI3, rfl, rfl⟩, hl3⟩, ?_, nl H3, ?_, ?_, ?_⟩
  · intro b hb
    have h3l : s1.heap.objs.size + 1 ≤ h3.objs.size := by rw [← hsz2]; exact hsz3
    show b < h3.objs.size
    clear hroom hz hB hxz hq helt
    rcases List.mem_cons.mp hb with rfl | hb
    · exact Nat.lt_of_succ_le h3l
    · rw [List.mem_singleton] at hb; subst hb; exact Nat.lt_trans hlt (Nat.lt_of_succ_le h3l)
  · intro hb
    rw [List.mem_singleton] at hb
    have hc : cStatics < s1.heap.objs.size := let ⟨_, hn, _⟩ := nl H1; hn.lt
    rw [hb] at hc; exact Nat.lt_irrefl _ hc
  · intro href hhref
    refine ⟨fun A' E' i v s₂ m₂ hA hP hn hm hk => wpAny_pure ⟨rfl, s₂.heap, s₂.toks, rfl, fun _ _ e => e⟩, fun A' E' i v s₂ m₂ hA hP _ hn hm hk => ?_⟩
    have hP' : vs[i]? = some v := by simpa using hP
    have hi : i < xs.length := by rw [← hlen]; exact (List.getElem?_eq_some_iff.mp hP').1
    obtain ⟨u, hu⟩ := StrsAre.get hxs i (tx xs[i]) (by rw [List.getElem?_map, List.getElem?_eq_getElem hi]; rfl)
    rw [hP'] at hu
    cases Option.some.inj hu
    exact wpAny_mono (helt _ A' E' i xs[i] u s₂ m₂ rfl hA (List.getElem?_eq_getElem hi) hn hm) (fun r s₃ ⟨⟨u, e⟩, hk⟩ => ⟨⟨u, _, List.getElem?_eq_getElem hi, e⟩, hk⟩) fun _ _ e => e
  · intro a h5 tk5 gs hgb hag hsz5 hk5 W hat
    refine wpAny_bind (wpAny_pure ?_)
    refine wpAny_bind (wpAny_holding (wpAny_pure (wpAny_pure ⟨trivial, ?_⟩)))
    have W := W.in4_2
    have hn : (passing (fun _ => true) vs.toArray.size 0).length = xs.length := by rw [filt_true]; simp [hlen]
    refine SC.joinGen W (fun i s' st => st.1.typeIs) hat ?_ List.mem_cons_self (fun j v hv => ?_) (fun s' lt hm hacc => ?_) (by rw [hn]; exact hxz)
    · intro b hb
      show b < h5.objs.size
      rw [hsz5]
      rcases List.mem_cons.mp hb with rfl | hb
      · exact Nat.lt_succ_self _
      · rcases List.mem_cons.mp hb with rfl | hb
        · exact Nat.lt_succ_of_lt hag
        · exact Nat.lt_succ_of_lt (Nat.lt_trans (List.mem_range.mp hb) hag)
    · obtain ⟨i, _, u, z, _, e⟩ := hv
      exact ⟨_, u, e⟩
    · rw [hn] at hacc
      have hlt : lt.map (·.1) = (xs.map f).map tx := by
        apply List.ext_getElem?
        intro j
        have hsz : lt.length = xs.length := by simpa [strValues] using hacc.1
        by_cases hj : j < xs.length
        · have hj' : j < lt.length := hsz ▸ hj
          obtain ⟨i, hi, u, z, hz', e⟩ := hacc.2 j (.str lt[j].1 lt[j].2) (by simp [strValues, List.getElem?_eq_getElem hj'])
          rw [filt_true] at hi
          obtain ⟨rfl, _⟩ := range_get hi
          injection e with h1 _
          rw [List.getElem?_eq_getElem hj] at hz'
          cases Option.some.inj hz'
          simp [List.getElem?_eq_getElem hj', hj, h1]
        · rw [List.getElem?_eq_none (by simpa [hsz] using Nat.le_of_not_lt hj), List.getElem?_eq_none (by simpa using Nat.le_of_not_lt hj)]
      rw [hlt, join_tx]
      refine ⟨joinOk_of hB (by rw [List.length_map]; exact hz), fun t' k => ?_⟩
      refine ⟨⟨loc, cel, led⟩, ?_, hq t'⟩
      have hb' : Heap.ExtBut s1.heap.objs.size h3 s'.heap := fun b o hb e => hm.heap b o (fun q => by
        rcases List.mem_cons.mp q with rfl | q
        · exact absurd (Heap.lt_size e) (Nat.lt_irrefl _)
        · rw [List.mem_singleton] at q; exact hb q) (hk5 b o e)
      have H4 := H3.ext hb' k
      have g5 : AllBare s'.gens := AllBare.movedS (s := { s1 with heap := h5, toks := tk5, gens := s1.gens.push gs }) (H1.gens.push hgb) hm
      have H5 := H4.gensNew g5 (d := s'.drawn)
      have eo : s'.os = s1.os := hm.os
      have : ({ s' with toks := k } : Shared) = { s1 with heap := s'.heap, toks := k, gens := s'.gens, drawn := s'.drawn } := by
        cases s'; cases s1; simp_all
      rw [this]
      exact H5
end
end Mine
end
section
open PySem PySem.W PySem.Calls PyProof PyProof.Rows PySem.Spec PyProof.V PySem.Builtin.Str
set_option linter.unusedVariables false
namespace Mine
theorem keeps_tk {s0 s : Shared} (h : Keeps s0 s) (tk : Nat) : Keeps s0 { s with toks := tk } := by
  obtain ⟨h', tk', rfl, k⟩ := h
  exact ⟨h', tk, rfl, k⟩
section
variable {w : World} {A : Around} {E : Value → Shared → Prop} {s s0 : Shared} {env : Env}
theorem wp_replace {o : Expr} {apos pos p1 p2 : Pos} {k1 k2 : Nat} {y z : List Nat} {c : Nat} {X Z : Str} (hX : X = tx [c]) (hZ : Z = tx z) (hc : c ∉ y)
    (h : wpAny (model pg w) A (eval o env) (fun v s1 => (∃ u, v = .str (tx y) u) ∧ Keeps s0 s1) E s) (pl : Sem Bool)
    (he : eval (.Call (.Attribute o (Str.ofString "replace") apos) [.Constant (.str X) k1 p1, .Constant (.str Z) k2 p2] [] pos) env = (do
      let ov ← eval o env
      standAt apos.atName
      let (f, first) ← holding [ov] (getMethod ov (Str.ofString "replace") pl)
      callWith pos f first (backTo pos (starEach [.Constant (.str X) k1 p1, .Constant (.str Z) k2 p2] env)) [])) :
    wpAny (model pg w) A (eval (.Call (.Attribute o (Str.ofString "replace") apos) [.Constant (.str X) k1 p1, .Constant (.str Z) k2 p2] [] pos) env) (fun v s1 => (∃ u, v = .str (tx y) u) ∧ Keeps s0 s1) E s := by
  refine MethodCall_ (pl := pl) (wpAny_mono h (fun v s1 hv => ?_) fun _ _ e => e) he
  obtain ⟨⟨u, rfl⟩, hk⟩ := hv
  refine getMethod_builtin (T := "str") rfl PySem.F.plainAttrs_str PySem.F.slot_str_replace PySem.F.type_str_replace (fun a e => by cases e) ?_
  refine callWith_of (P := fun _ => True) rfl (fun h _ => ⟨.machine, .inr (.inl rfl), Looks.of_pure rfl⟩) ?_
  refine evalArgs_plain ?_
  show wpAny _ _ (do let v ← eval (.Constant (.str X) k1 p1) env; let here ← (pure [v] : Sem (List Value)); return here ++ (← holding here (do let v ← eval (.Constant (.str Z) k2 p2) env; let here ← (pure [v] : Sem (List Value)); return here ++ (← holding here (spliced (backTo pos (starEach [] env))))))) _ _ _
  refine wpAny_bind (Calls.Constant_str (wpAny_bind (wpAny_pure (wpAny_bind (wpAny_holding (wpAny_bind (Calls.Constant_str (wpAny_bind (wpAny_pure (wpAny_bind (wpAny_holding (wpAny_pure (wpAny_pure (wpAny_pure ⟨trivial, ?_⟩))))))))))))))
  subst hX hZ
  exact call_replace (occ_nil hc) fun tk t' => ⟨⟨_, rfl⟩, keeps_tk (keeps_tk (keeps_tk hk _) _) _⟩
end
end Mine
end
section
open PySem PySem.W PySem.Calls PyProof PyProof.Rows PySem.Spec PyProof.V PySem.Builtin.Str
set_option linter.unusedVariables false
namespace Mine
def brLeft (lo hi : Nat) (more : List Nat) : List Nat := (if lo ≤ hi then [lo, 45, hi] else []) ++ more
def brPart (neg : Bool) (lo hi : Nat) (more : List Nat) : List Nat :=
  if neg then (if brLeft lo hi more ≠ [] then [91, 94] ++ brLeft lo hi more ++ [93] else [46]) else (if brLeft lo hi more ≠ [] then [91] ++ brLeft lo hi more ++ [93] else [40, 63, 33, 41])
def negT (neg : Bool) : List Nat := if neg then [33] else []
def brText (neg : Bool) (lo hi : Nat) (more : List Nat) : List Nat := [91] ++ (negT neg ++ [lo, 45, hi] ++ more) ++ [93]
def IsLet (c : Nat) : Prop := 97 ≤ c ∧ c ≤ 100
inductive Shape : Item → Prop
  | lett (c : Nat) : IsLet c → Shape ⟨[c], [c], some [c]⟩
  | any : Shape ⟨[63], ab, some [46]⟩
  | star : Shape ⟨[42], [], none⟩
  | br (neg : Bool) (lo hi : Nat) (more : List Nat) : IsLet lo → IsLet hi → (more = [] ∨ ∃ m, IsLet m ∧ more = [m]) →
      Shape ⟨brText neg lo hi more, ab.filter fun c => ((decide (lo ≤ c) && decide (c ≤ hi)) || decide ([c] = more)) != neg, some (brPart neg lo hi more)⟩
theorem let4_is (n : Int) : IsLet (let4 n) := by
  have h0 := Int.fmod_nonneg_of_pos n (b := 4) (by omega)
  have h1 := Int.fmod_lt_of_pos n (b := 4) (by omega)
  unfold IsLet let4
  omega
theorem shape_of (x : Int) : Shape (itemOf x) := by
  have hm : itMore x = [] ∨ ∃ m, IsLet m ∧ itMore x = [m] := by
    unfold itMore
    split
    · exact .inr ⟨_, let4_is _, rfl⟩
    · exact .inl rfl
  unfold itemOf
  split
  · split
    · exact .any
    · exact .lett _ (let4_is _)
  · split
    · exact .star
    · split
      · have := Shape.br true (itLo x) (itHi x) (itMore x) (let4_is _) (let4_is _) hm
        have e1 : brText true (itLo x) (itHi x) (itMore x) = [91, 33] ++ [itLo x] ++ [45] ++ [itHi x] ++ itMore x ++ [93] := by simp [brText, negT]
        have e2 : (fun c => ((decide (itLo x ≤ c) && decide (c ≤ itHi x)) || decide ([c] = itMore x)) != true) = fun c => !itMeans x c := by
          funext c; unfold itMeans; simp
        rw [e1, e2] at this
        exact this
      · have := Shape.br false (itLo x) (itHi x) (itMore x) (let4_is _) (let4_is _) hm
        have e1 : brText false (itLo x) (itHi x) (itMore x) = [91] ++ [itLo x] ++ [45] ++ [itHi x] ++ itMore x ++ [93] := by simp [brText, negT]
        have e2 : (fun c => ((decide (itLo x ≤ c) && decide (c ≤ itHi x)) || decide ([c] = itMore x)) != false) = itMeans x := by
          funext c; unfold itMeans; simp
        rw [e1, e2] at this
        exact this
theorem star8 : itemOf 8 = ⟨[42], [], none⟩ := by rfl

def trStep1 (acc : List (Option (List Nat))) (it : Item) : List (Option (List Nat)) := match it.part with
  | some l => acc ++ [some l]
  | none => if acc.getLast? = some none then acc else acc ++ [none]
def trOf (its : List Item) : List (Option (List Nat)) := its.foldl trStep1 []
def texts (its : List Item) : List Nat := (its.map (·.text)).flatten
theorem texts_app (a b : List Item) : texts (a ++ b) = texts a ++ texts b := by unfold texts; simp
theorem texts_cons (a : Item) (b : List Item) : texts (a :: b) = a.text ++ texts b := by unfold texts; simp
theorem trOf_snoc (a : List Item) (b : Item) : trOf (a ++ [b]) = trStep1 (trOf a) b := by unfold trOf; rw [List.foldl_append]; rfl

inductive TPs (star : Addr) : List Value → List (Option (List Nat)) → Prop
  | nil : TPs star [] []
  | str (l : List Nat) (t : Tok) {vs ps} : TPs star vs ps → TPs star (.str (tx l) t :: vs) (some l :: ps)
  | star {vs ps} : TPs star vs ps → TPs star (.ref star :: vs) (none :: ps)
theorem TPs.snocS {star : Addr} {vs : List Value} {ps : List (Option (List Nat))} (h : TPs star vs ps) (l : List Nat) (t : Tok) : TPs star (vs ++ [.str (tx l) t]) (ps ++ [some l]) := by
  induction h with
  | nil => exact .str l t .nil
  | str a u _ ih => exact .str a u ih
  | star _ ih => exact .star ih
theorem TPs.snocR {star : Addr} {vs : List Value} {ps : List (Option (List Nat))} (h : TPs star vs ps) : TPs star (vs ++ [.ref star]) (ps ++ [none]) := by
  induction h with
  | nil => exact .star .nil
  | str a u _ ih => exact .str a u ih
  | star _ ih => exact .star ih
theorem TPs.length {star : Addr} {vs : List Value} {ps : List (Option (List Nat))} (h : TPs star vs ps) : vs.length = ps.length := by
  induction h with
  | nil => rfl
  | str a u _ ih => simp [ih]
  | star _ ih => simp [ih]
theorem TPs.get {star : Addr} {vs : List Value} {ps : List (Option (List Nat))} (h : TPs star vs ps) : ∀ {i : Nat} {p : Option (List Nat)}, ps[i]? = some p → (∃ l t, p = some l ∧ vs[i]? = some (.str (tx l) t)) ∨ (p = none ∧ vs[i]? = some (.ref star)) := by
  induction h with
  | nil => intro i p e; simp at e
  | str a u _ ih =>
    intro i p e
    cases i with
    | zero => simp at e; subst e; exact .inl ⟨a, u, rfl, rfl⟩
    | succ i => exact ih e
  | star _ ih =>
    intro i p e
    cases i with
    | zero => simp at e; subst e; exact .inr ⟨rfl, rfl⟩
    | succ i => exact ih e
theorem trOf_len (its : List Item) : (trOf its).length ≤ its.length := by
  have : ∀ (its : List Item) (acc : List (Option (List Nat))), (its.foldl trStep1 acc).length ≤ acc.length + its.length := by
    intro its
    induction its with
    | nil => intro acc; exact Nat.le_refl _
    | cons a r ih =>
      intro acc
      refine Nat.le_trans (ih _) ?_
      have : (trStep1 acc a).length ≤ acc.length + 1 := by
        unfold trStep1
        split
        · simp
        · split
          · omega
          · simp
      simp only [List.length_cons]; omega
  have := this its []
  unfold trOf
  simpa using this
end Mine
end
section
open PySem PySem.W PySem.Calls PyProof PyProof.Rows PySem.Spec PyProof.V PySem.Builtin.Str
set_option linter.unusedVariables false
namespace Mine
section
variable {C : Cx} {S : St}
/-- what the turns of a for must do -/
structure ForDo (C : Cx) (target : Expr) (body : List Stmt) (Q : Flow → St → Prop) (v : Value) (S : St) (n : Nat) (P : Nat → Value → Prop) (F : Led → Prop) (I : Nat → St → Prop) : Prop where
  src : Src C v n P F
  f0 : F S.led
  i0 : I 0 S
  hF : ∀ i S, I i S → F S.led
  turn : ∀ i S it K x, i < n → P i x → I i S → Tr C (assign target C.env x) (fun _ S1 => Tr C (execs body C.env) (fun f S2 => match f with
        | .next => ∃ led, Pick it K S2.led led ∧ I (i + 1) ⟨S2.loc, S2.cel, led⟩
        | .cont => ∃ led, Pick it K S2.led led ∧ I (i + 1) ⟨S2.loc, S2.cel, led⟩
        | .brk => Q .next S2
        | .ret v => Q (.ret v) S2) S1) ⟨S.loc, S.cel, (it, K) :: S.led⟩
  fin : ∀ S, I n S → Q .next S
theorem Tr.forX {x : Str} {tp : Pos} {iter : Expr} {body : List Stmt} {pos : Pos} {Q : Flow → St → Prop}
    (hi : Tr C (eval iter C.env) (fun v S1 => ∃ n P F I, ForDo C (.Name x tp) body Q v S1 n P F I) S)
    (hs : ∀ x, foldedSetIterable iter C.env x = pure x := by intro _; rfl) : Tr C (exec (.For (.Name x tp) iter body [] pos) C.env) Q S := by
  intro ok s hs'
  refine wpAny_For (hi.go ok hs' fun v s1 S1 h1 q1 => ?_) hs
  obtain ⟨n, P, F, I, ⟨⟨K, W, start⟩, hF1, hI, hF, turn, fin⟩⟩ := q1
  refine start _ _ _ hF1 ok s1 h1 _ _ fun it s2 h2 => ?_
  refine codeAny_forLoop_any (fun k s => ∃ i S, k = n - i ∧ i ≤ n ∧ I i S ∧ Holds C ⟨S.loc, S.cel, (it, .pred (K i)) :: S.led⟩ s) ?_ n ⟨0, S1, rfl, Nat.zero_le _, hI, h2⟩
  rintro k s3 ⟨i, S3, rfl, hin, hI3, h3⟩
  by_cases hlt : i < n
  · refine W.next i _ _ _ _ hlt (hF i S3 hI3) ok s3 h3 _ _ fun x s4 hx h4 => ?_
    have body' := fun (E : Value → Shared → Prop) => (turn i S3 it (.pred (K (i + 1))) x hlt hx hI3).go ok h4 (E := E) (Q' := fun _ s5 => wpAny (model pg C.w) C.A (execs body C.env) (fun f s6 => match f with
        | .next => ∃ m, m < n - i ∧ ∃ i S, m = n - i ∧ i ≤ n ∧ I i S ∧ Holds C ⟨S.loc, S.cel, (it, .pred (K i)) :: S.led⟩ s6
        | .cont => ∃ m, m < n - i ∧ ∃ i S, m = n - i ∧ i ≤ n ∧ I i S ∧ Holds C ⟨S.loc, S.cel, (it, .pred (K i)) :: S.led⟩ s6
        | .brk => ∃ S', Holds C S' s6 ∧ Q .next S'
        | .ret v => ∃ S', Holds C S' s6 ∧ Q (.ret v) S') E s5) (fun _ s5 S5 h5 q5 => q5.go ok h5 fun f s6 S6 h6 q6 => by
      cases f with
      | next =>
        obtain ⟨led, pk, i6⟩ := q6
        exact ⟨n - (i + 1), by omega, i + 1, ⟨S6.loc, S6.cel, led⟩, rfl, hlt, i6, Holds.perm (l := S6.led) h6 pk.perm⟩
      | cont =>
        obtain ⟨led, pk, i6⟩ := q6
        exact ⟨n - (i + 1), by omega, i + 1, ⟨S6.loc, S6.cel, led⟩, rfl, hlt, i6, Holds.perm (l := S6.led) h6 pk.perm⟩
      | brk => exact ⟨S6, h6, q6⟩
      | ret v => exact ⟨S6, h6, q6⟩)
    exact wpAny_pure (body' _)
  · obtain rfl : i = n := Nat.le_antisymm hin (Nat.not_lt.mp hlt)
    refine W.done _ _ _ _ (hF i S3 hI3) ok s3 h3 _ _ fun s4 h4 => ?_
    exact wpAny_execs_nil ⟨S3, h4, fin S3 hI3⟩
end
end Mine
end
section
open PySem PySem.W PySem.Calls PyProof PyProof.Rows PySem.Spec PyProof.V PySem.Builtin.Str
set_option linter.unusedVariables false
namespace Mine
noncomputable def trans.fd : FuncData := fdAt 55
noncomputable def trans.ln : List Str := lnOf trans.fd
noncomputable def trans.gl : List Str := glOf trans.fd
theorem trans_at : FnAt 55 trans.fd := ⟨fun _ => ⟨_, _, _, rfl⟩, fun _ => rfl, rfl, rfl, rfl, rfl, rfl, rfl⟩
theorem g_escape : ∀ P, nsIn (hd.heap_39 P) mainGlobals (Str.ofString "escape") = some (some (.ref 48)) := fun _ => rfl
theorem g__twin_re_1 : ∀ P, nsIn (hd.heap_39 P) mainGlobals (Str.ofString "_twin_re_1") = some (some (.ref 36)) := fun _ => rfl

theorem shape_len {it : Item} (h : Shape it) : 1 ≤ it.text.length ∧ it.text.length ≤ 7 := by
  cases h with
  | lett => simp
  | any => simp
  | star => simp
  | br neg lo hi more _ _ hm =>
    have : more.length ≤ 1 := by
      rcases hm with rfl | ⟨m, _, rfl⟩ <;> simp
    cases neg <;> simp [brText, negT] <;> omega
theorem texts_len {its : List Item} (h : ∀ it ∈ its, Shape it) : (texts its).length ≤ 7 * its.length := by
  induction its with
  | nil => simp [texts]
  | cons a r ih =>
    have h1 := (shape_len (h a List.mem_cons_self)).2
    have h2 := ih fun b hb => h b (List.mem_cons_of_mem _ hb)
    rw [texts_cons, List.length_append, List.length_cons]; omega
def trSt (its : List Item) (star D b : Addr) (t tq ti tn : Tok) (i : Nat) (oc oj os och ok ock : Option Value) (led : Led) : St :=
  ⟨[(Str.ofString "pat", some (.str (tx (texts its)) t)), (Str.ofString "STAR", some (.ref star)), (Str.ofString "QUESTION_MARK", some (.str (tx [46]) tq)), (Str.ofString "res", some (.ref D)), (Str.ofString "add", some (.ref b)),
    (Str.ofString "i", some (.int i ti)), (Str.ofString "n", some (.int (texts its).length tn)), (Str.ofString "c", oc), (Str.ofString "j", oj), (Str.ofString "stuff", os), (Str.ofString "chunks", och), (Str.ofString "k", ok), (Str.ofString "chunk", ock)], [], led⟩
theorem trSt_mk {star D b : Addr} {t tq ti tn : Tok} {i : Nat} {oc oj os och ok ock : Option Value} {led : Led} {x : Int} {pat : List Nat} (hx : x = (i : Nat)) :
    (⟨[(Str.ofString "pat", some (.str (tx pat) t)), (Str.ofString "STAR", some (.ref star)), (Str.ofString "QUESTION_MARK", some (.str (tx [46]) tq)), (Str.ofString "res", some (.ref D)), (Str.ofString "add", some (.ref b)),
    (Str.ofString "i", some (.int x ti)), (Str.ofString "n", some (.int pat.length tn)), (Str.ofString "c", oc), (Str.ofString "j", oj), (Str.ofString "stuff", os), (Str.ofString "chunks", och), (Str.ofString "k", ok), (Str.ofString "chunk", ock)], [], led⟩ : St) = ⟨[(Str.ofString "pat", some (.str (tx pat) t)), (Str.ofString "STAR", some (.ref star)), (Str.ofString "QUESTION_MARK", some (.str (tx [46]) tq)), (Str.ofString "res", some (.ref D)), (Str.ofString "add", some (.ref b)),
    (Str.ofString "i", some (.int i ti)), (Str.ofString "n", some (.int pat.length tn)), (Str.ofString "c", oc), (Str.ofString "j", oj), (Str.ofString "stuff", os), (Str.ofString "chunks", och), (Str.ofString "k", ok), (Str.ofString "chunk", ock)], [], led⟩ := by
  subst hx; rfl
def bSt (star D b : Addr) (t tq : Tok) (pat : List Nat) (i : Int) (ti tn : Tok) (oc oj os och ok ock : Option Value) (led : Led) : St :=
  ⟨[(Str.ofString "pat", some (.str (tx pat) t)), (Str.ofString "STAR", some (.ref star)), (Str.ofString "QUESTION_MARK", some (.str (tx [46]) tq)), (Str.ofString "res", some (.ref D)), (Str.ofString "add", some (.ref b)),
    (Str.ofString "i", some (.int i ti)), (Str.ofString "n", some (.int pat.length tn)), (Str.ofString "c", oc), (Str.ofString "j", oj), (Str.ofString "stuff", os), (Str.ofString "chunks", och), (Str.ofString "k", ok), (Str.ofString "chunk", ock)], [], led⟩
theorem cutB {pat pre body post : List Nat} {p a b : Nat} (hp : pre.length = p) (h : pat = pre ++ (body ++ post)) (hab : a ≤ b) (hb : b ≤ body.length) : cut (some ((p + a : Nat) : Int)) (some ((p + b : Nat) : Int)) pat = (body.drop a).take (b - a) := by
  subst hp h
  unfold cut
  have hl : (pre ++ (body ++ post)).length = pre.length + (body.length + post.length) := by simp
  have e1 : bnd (some ((pre.length + a : Nat) : Int)) 0 (pre ++ (body ++ post)).length = pre.length + a := by
    unfold bnd; rw [hl]; dsimp only; omega
  have e2 : bnd (some ((pre.length + b : Nat) : Int)) (pre ++ (body ++ post)).length (pre ++ (body ++ post)).length = pre.length + b := by
    unfold bnd; rw [hl]; dsimp only; omega
  rw [e1, e2, List.drop_append, List.drop_of_length_le (by omega), List.nil_append, show pre.length + a - pre.length = a by omega, show pre.length + b - (pre.length + a) = b - a by omega,
    List.drop_append_of_le_length (by omega), List.take_append_of_le_length (by rw [List.length_drop]; omega)]
theorem ex_tx {t : Tok} {l l' : List Nat} (h : l = l') : ∃ u, Value.str (tx l) t = .str (tx l') u := ⟨t, by rw [h]⟩
theorem ex_int {t : Tok} {l l' : Int} (h : l = l') : ∃ u, Value.int l t = .int l' u := ⟨t, by rw [h]⟩
theorem bSt_eq {star D b : Addr} {t tq : Tok} {pat : List Nat} {i i' k k' : Int} {ti tn tk : Tok} {oc oj os och ock : Option Value} {led : Led} (h1 : i = i') (h2 : k = k') :
    bSt star D b t tq pat i ti tn oc oj os och (some (.int k tk)) ock led = bSt star D b t tq pat i' ti tn oc oj os och (some (.int k' tk)) ock led := by rw [h1, h2]
theorem Tr.brk {C : Cx} {S : St} {pos : Pos} {Q : Flow → St → Prop} (h : Q .brk S) : Tr C (exec (.Break pos) C.env) Q S := fun _ _ H => by
  rw [show exec (.Break pos) C.env = (do standAt pos; pure Flow.brk) from rfl]
  exact wpAny_bind (wpAny_standAt (wpAny_pure ⟨S, H, h⟩))
theorem cut_tail (a : Nat) (l : List Nat) : cut (some 1) none (a :: l) = l := by
  unfold cut
  have e1 : bnd (some 1) 0 (a :: l).length = 1 := by unfold bnd; dsimp only; rw [List.length_cons]; omega
  rw [e1]
  show (l.take _) = l
  unfold bnd
  exact List.take_of_length_le (by dsimp only; rw [List.length_cons]; omega)
theorem trans_spec {w : World} {s : Shared} (P : Pre w [] s) (its : List Item) (hsh : ∀ it ∈ its, Shape it) (hn : its.length ≤ 20) (star : Addr) (t tq : Tok) :
    Spec w [] 3 (.ref 55) [.str (tx (texts its)) t, .ref star, .str (tx [46]) tq] [] (fun v new => ∃ D us, v = .ref D ∧ (D, Ct.list us) ∈ new ∧ TPs star us (trOf its)) s := by
  have hlen := texts_len hsh
  refine Spec.enter (ml := []) (binds := [(Str.ofString "pat", .str (tx (texts its)) t), (Str.ofString "STAR", .ref star), (Str.ofString "QUESTION_MARK", .str (tx [46]) tq)]) (ln := trans.ln) (gl := trans.gl) (by assumption) rfl (fun a c h => nomatch h) List.nodup_nil trans_at rfl (fun s _ => BindsTo.of_eq rfl) (by simp only [List.map_cons, List.map_nil]; decide +kernel) (by kernel_rfl) (by decide +kernel) (by decide +kernel) (by decide +kernel) (by decide +kernel) (by decide +kernel) ?_
  intro C L hw h0 hd hck G hin hco hq hsc hce
  replace hsc := scopeLit hsc
  refine Tr.startN (loc := [(Str.ofString "pat", some (Value.str (tx (texts its)) t)), (Str.ofString "STAR", some (Value.ref star)), (Str.ofString "QUESTION_MARK", some (Value.str (tx [46]) tq)), (Str.ofString "res", none), (Str.ofString "add", none), (Str.ofString "i", none), (Str.ofString "n", none), (Str.ofString "c", none), (Str.ofString "j", none), (Str.ofString "stuff", none), (Str.ofString "chunks", none), (Str.ofString "k", none), (Str.ofString "chunk", none)]) (cel := []) (by kernel_rfl) (by kernel_rfl) ?_
  refine Tr.execs_cons ?_
  refine Tr.assignN ?_
  refine Tr.list ?_
  refine Tr.spl_nil ?_
  refine Tr.newList (by first | decide | (simp only [List.length_cons, List.length_nil]; decide)) ?_
  intro _
  refine Tr.storeL (.tail (.tail (.tail .head))) ?_
  refine Then_next ?_
  refine Tr.execs_cons ?_
  refine Tr.assignN ?_
  rename_i D
  refine Tr.attrAppend ?_
  refine Tr.nameL (List.Mem.tail _ (List.Mem.tail _ (List.Mem.tail _ (List.Mem.head _)))) ?_
  refine ⟨D, _, rfl, .head _, fun b => ?_⟩
  set_option simprocs false in (conv => arg 4; dsimp only [List.cons_append, List.nil_append, List.map_cons, List.map_nil])
  refine Tr.storeL (.tail (.tail (.tail (.tail .head)))) ?_
  refine Then_next ?_
  refine Tr.execs_cons ?_
  refine Mine.Tr.assignSw (by assumption) ?_
  refine Tr.tuple ?_
  refine Tr.spl_cons ?_
  refine Tr.int ?_
  intro _
  refine Tr.spl_cons ?_
  refine Tr.callN ?_
  refine Tr.nameB (by assumption) (by decide +kernel) (Mine.b_len).1 (Mine.b_len).2.1 (Mine.b_len).2.2 ?_
  refine Tr.callW kept_builtin ?_
  refine Tr.spl_cons ?_
  refine Tr.nameL (List.Mem.head _) ?_
  refine Tr.spl_nil ?_
  refine Tr.lenStr (by (first | decide | assumption | (simp only [sizeLine_eq, List.length_append, List.length_cons, List.length_nil, List.length_map, List.length_range] at *; omega) | omega)) ?_
  intro _
  refine Tr.spl_nil ?_
  refine Tr.newTuple (by first | decide | (simp only [List.length_cons, List.length_nil]; decide)) ?_
  intro _
  refine ⟨_, _, rfl, .inl (.head _), rfl, ?_⟩
  refine Mine.Tr.aio_cons ?_
  refine Mine.Tr.bindN ?_
  refine Tr.storeL (.tail (.tail (.tail (.tail (.tail (.tail .head)))))) ?_
  refine Mine.Tr.aio_cons ?_
  refine Mine.Tr.bindN ?_
  refine Tr.storeL (.tail (.tail (.tail (.tail (.tail .head))))) ?_
  refine Mine.Tr.aio_nil ?_
  refine Then_next ?_
  refine Tr.execs_cons ?_
  refine Tr.whileS (fun n S => ∃ (done rest : List Item) (us : List Value) (ti tn : Tok) (oc oj os och ok ock : Option Value) (led : Led), its = done ++ rest ∧ rest.length = n ∧ TPs star us (trOf done) ∧ [(b, Ct.obj (appendOf D)), (D, Ct.list us)].Sublist led ∧
    S = trSt its star D b t tq ti tn (texts done).length oc oj os och ok ock led) its.length
    ⟨[], its, [], _, _, _, _, _, _, _, _, _, rfl, rfl, .nil, .cons _ (.cons_cons _ (.cons_cons _ .slnil)), rfl⟩ ?_
  rintro n S ⟨done, rest, us, ti, tn, oc, oj, os, och, ok, ock, led, hits, hrest, hus, hsub, rfl⟩
  refine Tr.weak hsub ?_
  unfold trSt
  refine Tr.isCmp1 ?_
  refine Tr.nameL (List.Mem.tail _ (List.Mem.tail _ (List.Mem.tail _ (List.Mem.tail _ (List.Mem.tail _ (List.Mem.head _)))))) ?_
  refine Tr.nameL (List.Mem.tail _ (List.Mem.tail _ (List.Mem.tail _ (List.Mem.tail _ (List.Mem.tail _ (List.Mem.tail _ (List.Mem.head _))))))) ?_
  refine Mine.Tr.ltI ?_
  refine ⟨_, rfl, ?_⟩
  refine tr_ite (fun hlt => ?_) (fun hlt => ?_)
  · obtain ⟨it, rest, rfl⟩ : ∃ it r, rest = it :: r := by
      cases rest with
      | nil => rw [hits, List.append_nil] at hlt; omega
      | cons it r => exact ⟨it, r, rfl⟩
    have hpat : texts its = texts done ++ (it.text ++ texts rest) := by rw [hits, texts_app, texts_cons]
    have hul : us.length ≤ 20 := by
      have := trOf_len done
      have := hus.length
      have : its.length = done.length + (rest.length + 1) := by rw [hits]; simp
      omega
    have hsi : Shape it := hsh it (by rw [hits]; simp)
    have hpl : (texts done).length ≤ 140 := by rw [hpat, List.length_append] at hlen; omega
    have hits' : its = (done ++ [it]) ++ rest := by rw [hits]; simp
    have hdl : (texts (done ++ [it])).length = (texts done).length + it.text.length := by
      rw [texts_app, List.length_append]; unfold texts; simp
    have htr : trOf (done ++ [it]) = trStep1 (trOf done) it := trOf_snoc done it
    have get : ∀ k c, it.text[k]? = some c → (texts its)[(texts done).length + k]? = some c := fun k c h => by
      rw [hpat, List.getElem?_append_right (by omega), Nat.add_sub_cancel_left, List.getElem?_append_left (List.getElem?_eq_some_iff.mp h).1]; exact h
    generalize hp : (texts done).length = p at *
    generalize hpt : texts its = pat at *
    simp only [List.length_cons] at hrest
    refine Tr.execs_cons ?_
    refine Tr.assignN ?_
    refine Tr.subscr ?_
    refine Tr.nameL (List.Mem.head _) ?_
    refine Tr.nameL (List.Mem.tail _ (List.Mem.tail _ (List.Mem.tail _ (List.Mem.tail _ (List.Mem.tail _ (List.Mem.head _)))))) ?_
    have h0c : it.text[0]? = some (it.text.getD 0 0) := by
      rw [List.getD_eq_getElem?_getD, List.getElem?_eq_getElem (by have := (shape_len hsi).1; omega)]; rfl
    refine Tr.itemStr (c := it.text.getD 0 0) (by omega) ⟨by omega, by omega⟩ ?_ ?_
    · rw [if_neg (by omega), Int.toNat_natCast]; exact get 0 _ h0c
    intro _
    refine Tr.storeL (.tail (.tail (.tail (.tail (.tail (.tail (.tail .head))))))) ?_
    refine Then_next ?_
    refine Tr.execs_cons ?_
    refine Tr.assignN ?_
    refine Tr.binop ?_
    refine Tr.nameL (List.Mem.tail _ (List.Mem.tail _ (List.Mem.tail _ (List.Mem.tail _ (List.Mem.tail _ (List.Mem.head _)))))) ?_
    refine Tr.int ?_
    intro _
    refine Tr.addI ?_
    intro _
    refine Tr.storeL (.tail (.tail (.tail (.tail (.tail .head))))) ?_
    refine Then_next ?_
    refine Tr.execs_cons ?_
    refine Tr.ifS ?_
    refine Tr.isCmp1 ?_
    refine Tr.nameL (List.Mem.tail _ (List.Mem.tail _ (List.Mem.tail _ (List.Mem.tail _ (List.Mem.tail _ (List.Mem.tail _ (List.Mem.tail _ (List.Mem.head _)))))))) ?_
    refine Tr.strT ([42] : List Nat) (by decide +kernel) ?_
    intro _
    refine Mine.Tr.eqS ?_
    refine ⟨_, rfl, ?_⟩
    cases hsi with
    | lett c hc =>
      have e0 : ([c] : List Nat).getD 0 0 = c := rfl
      have h1 : ∀ k, k < 97 → ¬ [c] = [k] := fun k hk e => by cases e; have := hc.1; omega
      refine tr_ite (fun h => absurd h (h1 _ (by decide))) (fun _ => ?_)
      refine Tr.execs_cons ?_
      refine Tr.ifS ?_
      refine Tr.isCmp1 ?_
      refine Tr.nameL (List.Mem.tail _ (List.Mem.tail _ (List.Mem.tail _ (List.Mem.tail _ (List.Mem.tail _ (List.Mem.tail _ (List.Mem.tail _ (List.Mem.head _)))))))) ?_
      refine Tr.strT ([63] : List Nat) (by decide +kernel) ?_
      intro _
      refine Mine.Tr.eqS ?_
      refine ⟨_, rfl, ?_⟩
      refine tr_ite (fun h => absurd h (h1 _ (by decide))) (fun _ => ?_)
      refine Tr.execs_cons ?_
      refine Tr.ifS ?_
      refine Tr.isCmp1 ?_
      refine Tr.nameL (List.Mem.tail _ (List.Mem.tail _ (List.Mem.tail _ (List.Mem.tail _ (List.Mem.tail _ (List.Mem.tail _ (List.Mem.tail _ (List.Mem.head _)))))))) ?_
      refine Tr.strT ([91] : List Nat) (by decide +kernel) ?_
      intro _
      refine Mine.Tr.eqS ?_
      refine ⟨_, rfl, ?_⟩
      refine tr_ite (fun h => absurd h (h1 _ (by decide))) (fun _ => ?_)
      refine Tr.execs_cons ?_
      refine Tr.exprS ?_ (by assumption)
      refine Tr.callN ?_
      refine Tr.nameL (List.Mem.tail _ (List.Mem.tail _ (List.Mem.tail _ (List.Mem.tail _ (List.Mem.head _))))) ?_
      refine Tr.callBound ?_
      refine Tr.spl_cons ?_
      refine Tr.callN ?_
      refine Tr.nameG (by assumption) (by decide +kernel) Mine.g_escape ?_
      refine Tr.callW (kept_K (fun _ => rfl)) ?_
      refine Tr.spl_cons ?_
      refine Tr.nameL (List.Mem.tail _ (List.Mem.tail _ (List.Mem.tail _ (List.Mem.tail _ (List.Mem.tail _ (List.Mem.tail _ (List.Mem.tail _ (List.Mem.head _)))))))) ?_
      refine Tr.spl_nil ?_
      refine Tr.call0 (d := 2) (by rw [hd]; exact Nat.le_refl _) (R := fun v new => ∃ t, v = .str (tx [c]) t) (fun s' ok' H => ?_) ?_
      · rw [hw]
        exact esc_spec (hw ▸ H.pre0 ok') c _ hc.1 hc.2
      rintro v new ⟨u, rfl⟩
      refine Tr.weak (List.sublist_append_right _ _) ?_
      refine Tr.spl_nil ?_
      refine ⟨D, _, us, _, rfl, .head _, .tail .head, by rw [sizeLine_eq]; omega, rfl, ?_⟩
      refine Then_next ?_
      set_option simprocs false in (conv => arg 4; dsimp only [List.cons_append, List.nil_append, List.map_cons, List.map_nil])
      refine Tr.execs_nil ?_
      refine Then_next ?_
      refine Tr.execs_nil ?_
      refine Then_next ?_
      refine Tr.execs_nil ?_
      refine Then_next ?_
      refine Tr.execs_nil ?_
      refine ⟨rest.length, by omega, done ++ [_], rest, us ++ [.str (tx [c]) u], _, _, _, _, _, _, _, _, _, hits', rfl, ?_, by (repeat (first | exact List.Sublist.refl _ | exact List.sublist_append_right _ _ | apply List.Sublist.cons)), trSt_mk ?_⟩
      · rw [htr]; exact hus.snocS _ _
      · rw [hdl]; simp
    | any =>
      refine tr_ite (fun h => absurd h (by decide)) (fun _ => ?_)
      refine Tr.execs_cons ?_
      refine Tr.ifS ?_
      refine Tr.isCmp1 ?_
      refine Tr.nameL (List.Mem.tail _ (List.Mem.tail _ (List.Mem.tail _ (List.Mem.tail _ (List.Mem.tail _ (List.Mem.tail _ (List.Mem.tail _ (List.Mem.head _)))))))) ?_
      refine Tr.strT ([63] : List Nat) (by decide +kernel) ?_
      intro _
      refine Mine.Tr.eqS ?_
      refine ⟨_, rfl, ?_⟩
      refine tr_ite (fun _ => ?_) (fun h => absurd rfl h)
      refine Tr.execs_cons ?_
      refine Tr.exprS ?_ (by assumption)
      refine Tr.callN ?_
      refine Tr.nameL (List.Mem.tail _ (List.Mem.tail _ (List.Mem.tail _ (List.Mem.tail _ (List.Mem.head _))))) ?_
      refine Tr.callBound ?_
      refine Tr.spl_cons ?_
      refine Tr.nameL (List.Mem.tail _ (List.Mem.tail _ (List.Mem.head _))) ?_
      refine Tr.spl_nil ?_
      refine ⟨D, _, us, _, rfl, .head _, .tail .head, by rw [sizeLine_eq]; omega, rfl, ?_⟩
      refine Then_next ?_
      set_option simprocs false in (conv => arg 4; dsimp only [List.cons_append, List.nil_append, List.map_cons, List.map_nil])
      refine Tr.execs_nil ?_
      refine Then_next ?_
      refine Tr.execs_nil ?_
      refine Then_next ?_
      refine Tr.execs_nil ?_
      refine ⟨rest.length, by omega, done ++ [_], rest, us ++ [.str (tx [46]) tq], _, _, _, _, _, _, _, _, _, hits', rfl, ?_, by (repeat (first | exact List.Sublist.refl _ | exact List.sublist_append_right _ _ | apply List.Sublist.cons)), trSt_mk ?_⟩
      · rw [htr]; exact hus.snocS _ _
      · rw [hdl]; simp
    | star =>
      refine tr_ite (fun _ => ?_) (fun h => absurd rfl h)
      refine Tr.execs_cons ?_
      refine Tr.ifS ?_
      refine Tr.isBool ?_
      refine Tr.or_cons ?_
      refine Tr.isNot ?_
      refine Tr.isVal ?_
      refine Tr.nameL (List.Mem.tail _ (List.Mem.tail _ (List.Mem.tail _ (List.Mem.head _)))) ?_
      refine Tr.truthyList (.inl (List.Mem.tail _ (List.Mem.head _))) (by (first | decide | assumption | (simp only [sizeLine_eq, List.length_append, List.length_cons, List.length_nil, List.length_map, List.length_range] at *; omega) | omega)) ?_
      have e2 : trStep1 (trOf done) ⟨[42], [], none⟩ = if (trOf done).getLast? = some none then trOf done else trOf done ++ [none] := rfl
      rw [e2] at htr
      have yes : ∀ {R : Flow → St → Prop}, (trOf done).getLast? ≠ some none → True := fun _ => trivial
      refine tr_iteB (fun he => ?_) (fun he => ?_)
      · have hus0 : us = [] := by simpa using he
        subst hus0
        have ht0 : trOf done = [] := List.length_eq_zero_iff.mp hus.length.symm
        rw [ht0] at htr
        refine tr_iteT ?_
        refine Tr.execs_cons ?_
        refine Tr.exprS ?_ (by assumption)
        refine Tr.callN ?_
        refine Tr.nameL (List.Mem.tail _ (List.Mem.tail _ (List.Mem.tail _ (List.Mem.tail _ (List.Mem.head _))))) ?_
        refine Tr.callBound ?_
        refine Tr.spl_cons ?_
        refine Tr.nameL (List.Mem.tail _ (List.Mem.head _)) ?_
        refine Tr.spl_nil ?_
        refine ⟨D, _, [], _, rfl, .head _, .tail .head, by rw [sizeLine_eq]; decide, rfl, ?_⟩
        refine Then_next ?_
        set_option simprocs false in (conv => arg 4; dsimp only [List.cons_append, List.nil_append, List.map_cons, List.map_nil])
        refine Tr.execs_nil ?_
        refine Then_next ?_
        refine Tr.execs_nil ?_
        refine Then_next ?_
        refine Tr.execs_nil ?_
        refine ⟨rest.length, by omega, done ++ [_], rest, [.ref star], _, _, _, _, _, _, _, _, _, hits', rfl, ?_, by (repeat (first | exact List.Sublist.refl _ | exact List.sublist_append_right _ _ | apply List.Sublist.cons)), trSt_mk ?_⟩
        · rw [htr]; exact TPs.star .nil
        · rw [hdl]; simp
      · have hne : us ≠ [] := by intro q; subst q; simp at he
        have hl1 : 1 ≤ us.length := Nat.pos_of_ne_zero fun q => hne (List.length_eq_zero_iff.mp q)
        have hl2 := hus.length
        refine Tr.or_cons ?_
        refine Tr.isCmp1 ?_
        refine Tr.subscr ?_
        refine Tr.nameL (List.Mem.tail _ (List.Mem.tail _ (List.Mem.tail _ (List.Mem.head _)))) ?_
        refine Mine.Tr.unop ?_
        refine Tr.int ?_
        intro _
        refine Mine.Tr.negI ?_
        intro _
        obtain ⟨x, hx⟩ : ∃ x, (trOf done)[us.length - 1]? = some x := ⟨_, List.getElem?_eq_getElem (by omega)⟩
        have hlast : (trOf done).getLast? = some x := by rw [List.getLast?_eq_getElem?, ← hl2]; exact hx
        rw [hlast] at htr
        rcases hus.get hx with ⟨l, u, rfl, hv⟩ | ⟨rfl, hv⟩
        · refine Tr.itemNeg (vs := us) (.inl (.tail _ (.head _))) (by decide) (by omega) (by decide) (x := .str (tx l) u) (by rw [show ((-1 : Int) + us.length).toNat = us.length - 1 by omega]; exact hv) ?_
          refine Tr.nameL (List.Mem.tail _ (List.Mem.head _)) ?_
          refine Mine.Tr.isNotStrRef ?_
          refine ⟨_, rfl, ?_⟩
          refine tr_iteT ?_
          refine tr_iteT ?_
          refine Tr.execs_cons ?_
          refine Tr.exprS ?_ (by assumption)
          refine Tr.callN ?_
          refine Tr.nameL (List.Mem.tail _ (List.Mem.tail _ (List.Mem.tail _ (List.Mem.tail _ (List.Mem.head _))))) ?_
          refine Tr.callBound ?_
          refine Tr.spl_cons ?_
          refine Tr.nameL (List.Mem.tail _ (List.Mem.head _)) ?_
          refine Tr.spl_nil ?_
          refine ⟨D, _, us, _, rfl, .head _, .tail .head, by rw [sizeLine_eq]; omega, rfl, ?_⟩
          refine Then_next ?_
          set_option simprocs false in (conv => arg 4; dsimp only [List.cons_append, List.nil_append, List.map_cons, List.map_nil])
          refine Tr.execs_nil ?_
          refine Then_next ?_
          refine Tr.execs_nil ?_
          refine Then_next ?_
          refine Tr.execs_nil ?_
          refine ⟨rest.length, by omega, done ++ [_], rest, us ++ [.ref star], _, _, _, _, _, _, _, _, _, hits', rfl, ?_, by (repeat (first | exact List.Sublist.refl _ | exact List.sublist_append_right _ _ | apply List.Sublist.cons)), trSt_mk ?_⟩
          · rw [htr, if_neg (fun e => by cases e)]; exact hus.snocR
          · rw [hdl]; simp
        · refine Tr.itemNeg (vs := us) (.inl (.tail _ (.head _))) (by decide) (by omega) (by decide) (x := .ref star) (by rw [show ((-1 : Int) + us.length).toNat = us.length - 1 by omega]; exact hv) ?_
          refine Tr.nameL (List.Mem.tail _ (List.Mem.head _)) ?_
          refine Mine.Tr.isNotRefSelf ?_
          refine ⟨_, rfl, ?_⟩
          refine tr_iteF ?_
          refine Tr.or_nil ?_
          refine tr_iteF ?_
          refine Tr.execs_nil ?_
          refine Then_next ?_
          refine Tr.execs_nil ?_
          refine Then_next ?_
          refine Tr.execs_nil ?_
          refine ⟨rest.length, by omega, done ++ [_], rest, us, _, _, _, _, _, _, _, _, _, hits', rfl, ?_, by (repeat (first | exact List.Sublist.refl _ | exact List.sublist_append_right _ _ | apply List.Sublist.cons)), trSt_mk ?_⟩
          · rw [htr, if_pos rfl]; exact hus
          · rw [hdl]; simp
    | br neg lo hi more hlo hhi hm =>
      have hbt : brText neg lo hi more = [91] ++ (negT neg ++ [lo, 45, hi] ++ more) ++ [93] := rfl
      have hml : more.length ≤ 1 := by rcases hm with rfl | ⟨m, _, rfl⟩ <;> simp
      have hnl : (negT neg).length ≤ 1 := by cases neg <;> simp [negT]
      have hbl : (negT neg ++ [lo, 45, hi] ++ more).length = (negT neg).length + 3 + more.length := by simp; omega
      have htl : (brText neg lo hi more).length = (negT neg).length + 5 + more.length := by rw [hbt]; simp; omega
      have hok : ∀ c ∈ negT neg ++ [lo, 45, hi] ++ more, reOk c = true ∧ c ≠ 93 := by
        intro c hc
        simp only [List.mem_append, List.mem_cons, List.mem_nil_iff, or_false] at hc
        have hl : ∀ {c}, IsLet c → reOk c = true ∧ c ≠ 93 := fun {c} ⟨h1, h2⟩ => ⟨by simp [reOk, h1, h2], by omega⟩
        rcases hc with (hc | rfl | rfl | rfl) | hc
        · cases neg
          · simp [negT] at hc
          · simp [negT] at hc; subst hc; exact ⟨by decide, by decide⟩
        · exact hl hlo
        · exact ⟨by decide, by decide⟩
        · exact hl hhi
        · rcases hm with rfl | ⟨m, h, rfl⟩
          · simp at hc
          · simp at hc; subst hc; exact hl h
      have hpn : p + (negT neg).length + 5 + more.length ≤ pat.length := by
        rw [hpat, List.length_append, List.length_append, hp]
        show _ ≤ p + ((brText neg lo hi more).length + _)
        omega
      generalize hbody : negT neg ++ [lo, 45, hi] ++ more = body at *
      have get' : ∀ q c, body[q]? = some c → pat[p + 1 + q]? = some c := fun q c h => by
        rw [Nat.add_assoc]
        refine get (1 + q) c ?_
        show (brText neg lo hi more)[1 + q]? = _
        rw [hbt, List.append_assoc, List.getElem?_append_right (by simp), List.length_singleton, Nat.add_sub_cancel_left, List.getElem?_append_left (List.getElem?_eq_some_iff.mp h).1]
        exact h
      have getE : pat[p + 1 + body.length]? = some 93 := by
        rw [Nat.add_assoc]
        refine get (1 + body.length) 93 ?_
        show (brText neg lo hi more)[1 + body.length]? = _
        rw [hbt, List.append_assoc, List.getElem?_append_right (by simp), List.length_singleton, Nat.add_sub_cancel_left, List.getElem?_append_right (Nat.le_refl _), Nat.sub_self]
        rfl
      refine tr_ite (fun h => absurd (show [91] = [42] from h) (by decide)) (fun _ => ?_)
      refine Tr.execs_cons ?_
      refine Tr.ifS ?_
      refine Tr.isCmp1 ?_
      refine Tr.nameL (List.Mem.tail _ (List.Mem.tail _ (List.Mem.tail _ (List.Mem.tail _ (List.Mem.tail _ (List.Mem.tail _ (List.Mem.tail _ (List.Mem.head _)))))))) ?_
      refine Tr.strT ([63] : List Nat) (by decide +kernel) ?_
      intro _
      refine Mine.Tr.eqS ?_
      refine ⟨_, rfl, ?_⟩
      refine tr_ite (fun h => absurd (show [91] = [63] from h) (by decide)) (fun _ => ?_)
      refine Tr.execs_cons ?_
      refine Tr.ifS ?_
      refine Tr.isCmp1 ?_
      refine Tr.nameL (List.Mem.tail _ (List.Mem.tail _ (List.Mem.tail _ (List.Mem.tail _ (List.Mem.tail _ (List.Mem.tail _ (List.Mem.tail _ (List.Mem.head _)))))))) ?_
      refine Tr.strT ([91] : List Nat) (by decide +kernel) ?_
      intro _
      refine Mine.Tr.eqS ?_
      refine ⟨_, rfl, ?_⟩
      refine tr_ite (fun _ => ?_) (fun h => absurd rfl h)
      refine Tr.execs_cons ?_
      refine Tr.assignN ?_
      refine Tr.nameL (List.Mem.tail _ (List.Mem.tail _ (List.Mem.tail _ (List.Mem.tail _ (List.Mem.tail _ (List.Mem.head _)))))) ?_
      refine Tr.storeL (.tail (.tail (.tail (.tail (.tail (.tail (.tail (.tail .head)))))))) ?_
      refine Then_next ?_
      refine Tr.execs_cons ?_
      have hpat' : pat = (texts done ++ [91]) ++ (body ++ ([93] ++ texts rest)) := by
        rw [hpat]
        show texts done ++ (brText neg lo hi more ++ _) = _
        rw [hbt]; simp only [List.append_assoc]
      have hp1 : (texts done ++ [91]).length = p + 1 := by rw [List.length_append, hp]; rfl
      have bN : body[(negT neg).length]? = some lo ∧ body[(negT neg).length + 1]? = some 45 ∧ body[(negT neg).length + 2]? = some hi := by
        rw [← hbody]; cases neg <;> exact ⟨rfl, rfl, rfl⟩
      have b0 : body[0]? = some (if neg then 33 else lo) := by
        rw [← hbody]; cases neg <;> rfl
      have n33 : ∀ {c}, IsLet c → ¬ [c] = [33] := fun {c} ⟨h1, h2⟩ e => by cases e; omega
      have n93 : ∀ {c}, IsLet c → ¬ [c] = [93] := fun {c} ⟨h1, h2⟩ e => by cases e; omega
      refine Tr.mono (Q := fun f S' => f = .next ∧ ∃ ti tn oc tj, S' = bSt star D b t tq pat ((p : Int) + 1) ti tn oc (some (.int ((p + 1 + (negT neg).length : Nat) : Int) tj)) os och ok ock [(b, Ct.obj (appendOf D)), (D, Ct.list us)]) ?_ ?_
      · refine Tr.ifS ?_
        refine Tr.isBool ?_
        refine Tr.and_cons ?_
        refine Tr.isCmp1 ?_
        refine Tr.nameL (List.Mem.tail _ (List.Mem.tail _ (List.Mem.tail _ (List.Mem.tail _ (List.Mem.tail _ (List.Mem.tail _ (List.Mem.tail _ (List.Mem.tail _ (List.Mem.head _))))))))) ?_
        refine Tr.nameL (List.Mem.tail _ (List.Mem.tail _ (List.Mem.tail _ (List.Mem.tail _ (List.Mem.tail _ (List.Mem.tail _ (List.Mem.head _))))))) ?_
        refine Mine.Tr.ltI ?_
        refine ⟨_, rfl, ?_⟩
        refine tr_ite (fun _ => ?_) (fun h => h.elim (by omega))
        refine Tr.and_cons ?_
        refine Tr.isCmp1 ?_
        refine Tr.subscr ?_
        refine Tr.nameL (List.Mem.head _) ?_
        refine Tr.nameL (List.Mem.tail _ (List.Mem.tail _ (List.Mem.tail _ (List.Mem.tail _ (List.Mem.tail _ (List.Mem.tail _ (List.Mem.tail _ (List.Mem.tail _ (List.Mem.head _))))))))) ?_
        refine Tr.itemStr (c := if neg then 33 else lo) (by omega) ⟨by omega, by omega⟩ ?_ ?_
        · rw [if_neg (by omega), show ((p : Int) + 1).toNat = p + 1 + 0 by omega]; exact get' 0 _ b0
        intro _
        refine Tr.strT ([33] : List Nat) (by decide +kernel) ?_
        intro _
        refine Mine.Tr.eqS ?_
        refine ⟨_, rfl, ?_⟩
        cases neg with
        | true =>
          refine tr_ite (fun _ => ?_) (fun h => absurd rfl h)
          refine Tr.and_nil ?_
          refine tr_iteT ?_
          refine Tr.execs_cons ?_
          refine Tr.assignN ?_
          refine Tr.binop ?_
          refine Tr.nameL (List.Mem.tail _ (List.Mem.tail _ (List.Mem.tail _ (List.Mem.tail _ (List.Mem.tail _ (List.Mem.tail _ (List.Mem.tail _ (List.Mem.tail _ (List.Mem.head _))))))))) ?_
          refine Tr.int ?_
          intro _
          refine Tr.addI ?_
          intro _
          refine Tr.storeL (.tail (.tail (.tail (.tail (.tail (.tail (.tail (.tail .head)))))))) ?_
          refine Then_next ?_
          refine Tr.execs_nil ?_
          exact ⟨rfl, _, _, _, _, rfl⟩
        | false =>
          refine tr_ite (fun h => absurd h (n33 hlo)) (fun _ => ?_)
          refine tr_iteF ?_
          refine Tr.execs_nil ?_
          exact ⟨rfl, _, _, _, _, rfl⟩
      rintro f S' ⟨rfl, ti', tn', oc', tj, rfl⟩
      unfold bSt
      refine Then_next ?_
      refine Tr.execs_cons ?_
      refine Tr.ifS ?_
      refine Tr.isBool ?_
      refine Tr.and_cons ?_
      refine Tr.isCmp1 ?_
      refine Tr.nameL (List.Mem.tail _ (List.Mem.tail _ (List.Mem.tail _ (List.Mem.tail _ (List.Mem.tail _ (List.Mem.tail _ (List.Mem.tail _ (List.Mem.tail _ (List.Mem.head _))))))))) ?_
      refine Tr.nameL (List.Mem.tail _ (List.Mem.tail _ (List.Mem.tail _ (List.Mem.tail _ (List.Mem.tail _ (List.Mem.tail _ (List.Mem.head _))))))) ?_
      refine Mine.Tr.ltI ?_
      refine ⟨_, rfl, ?_⟩
      refine tr_ite (fun _ => ?_) (fun h => h.elim (by omega))
      refine Tr.and_cons ?_
      refine Tr.isCmp1 ?_
      refine Tr.subscr ?_
      refine Tr.nameL (List.Mem.head _) ?_
      refine Tr.nameL (List.Mem.tail _ (List.Mem.tail _ (List.Mem.tail _ (List.Mem.tail _ (List.Mem.tail _ (List.Mem.tail _ (List.Mem.tail _ (List.Mem.tail _ (List.Mem.head _))))))))) ?_
      refine Tr.itemStr (c := lo) (by omega) ⟨by omega, by omega⟩ ?_ ?_
      · rw [if_neg (by omega), Int.toNat_natCast]; exact get' _ _ bN.1
      intro _
      refine Tr.strT ([93] : List Nat) (by decide +kernel) ?_
      intro _
      refine Mine.Tr.eqS ?_
      refine ⟨_, rfl, ?_⟩
      refine tr_ite (fun h => absurd h (n93 hlo)) (fun _ => ?_)
      refine tr_iteF ?_
      refine Tr.execs_nil ?_
      refine Then_next ?_
      refine Tr.execs_cons ?_
      refine Tr.whileS (fun m S => ∃ (q : Nat) (tj : Tok), q + m = body.length ∧ S = bSt star D b t tq pat ((p : Int) + 1) ti' tn' oc' (some (.int ((p + 1 + q : Nat) : Int) tj)) os och ok ock [(b, Ct.obj (appendOf D)), (D, Ct.list us)]) (body.length - (negT neg).length)
        ⟨(negT neg).length, tj, by omega, rfl⟩ ?_
      rintro m S ⟨q, tj, hq', rfl⟩
      unfold bSt
      refine Tr.isBool ?_
      refine Tr.and_cons ?_
      refine Tr.isCmp1 ?_
      refine Tr.nameL (List.Mem.tail _ (List.Mem.tail _ (List.Mem.tail _ (List.Mem.tail _ (List.Mem.tail _ (List.Mem.tail _ (List.Mem.tail _ (List.Mem.tail _ (List.Mem.head _))))))))) ?_
      refine Tr.nameL (List.Mem.tail _ (List.Mem.tail _ (List.Mem.tail _ (List.Mem.tail _ (List.Mem.tail _ (List.Mem.tail _ (List.Mem.head _))))))) ?_
      refine Mine.Tr.ltI ?_
      refine ⟨_, rfl, ?_⟩
      refine tr_ite (fun _ => ?_) (fun h => h.elim (by omega))
      refine Tr.and_cons ?_
      refine Tr.isCmp1 ?_
      refine Tr.subscr ?_
      refine Tr.nameL (List.Mem.head _) ?_
      refine Tr.nameL (List.Mem.tail _ (List.Mem.tail _ (List.Mem.tail _ (List.Mem.tail _ (List.Mem.tail _ (List.Mem.tail _ (List.Mem.tail _ (List.Mem.tail _ (List.Mem.head _))))))))) ?_
      by_cases hqL : q < body.length
      · refine Tr.itemStr (c := body[q]) (by omega) ⟨by omega, by omega⟩ ?_ ?_
        · rw [if_neg (by omega), Int.toNat_natCast]; exact get' _ _ (List.getElem?_eq_getElem hqL)
        intro _
        refine Tr.strT ([93] : List Nat) (by decide +kernel) ?_
        intro _
        refine Mine.Tr.neS ?_
        refine ⟨_, rfl, ?_⟩
        refine tr_iteN (fun _ => ?_) (fun h => absurd (List.singleton_inj.mp h) (hok _ (List.getElem_mem hqL)).2)
        refine Tr.and_nil ?_
        refine tr_iteT ?_
        refine Tr.execs_cons ?_
        refine Tr.assignN ?_
        refine Tr.binop ?_
        refine Tr.nameL (List.Mem.tail _ (List.Mem.tail _ (List.Mem.tail _ (List.Mem.tail _ (List.Mem.tail _ (List.Mem.tail _ (List.Mem.tail _ (List.Mem.tail _ (List.Mem.head _))))))))) ?_
        refine Tr.int ?_
        intro _
        refine Tr.addI ?_
        intro _
        refine Tr.storeL (.tail (.tail (.tail (.tail (.tail (.tail (.tail (.tail .head)))))))) ?_
        refine Then_next ?_
        refine Tr.execs_nil ?_
        exact ⟨m - 1, by omega, q + 1, _, by omega, by push_cast; rfl⟩
      · have hqe : q = body.length := by omega
        subst hqe
        refine Tr.itemStr (c := 93) (by omega) ⟨by omega, by omega⟩ ?_ ?_
        · rw [if_neg (by omega), Int.toNat_natCast]; exact getE
        intro _
        refine Tr.strT ([93] : List Nat) (by decide +kernel) ?_
        intro _
        refine Mine.Tr.neS ?_
        refine ⟨_, rfl, ?_⟩
        refine tr_iteN (fun h => absurd rfl h) (fun _ => ?_)
        refine tr_iteF ?_
        refine Then_next ?_
        refine Tr.execs_cons ?_
        refine Tr.ifS ?_
        refine Tr.isCmp1 ?_
        refine Tr.nameL (List.Mem.tail _ (List.Mem.tail _ (List.Mem.tail _ (List.Mem.tail _ (List.Mem.tail _ (List.Mem.tail _ (List.Mem.tail _ (List.Mem.tail _ (List.Mem.head _))))))))) ?_
        refine Tr.nameL (List.Mem.tail _ (List.Mem.tail _ (List.Mem.tail _ (List.Mem.tail _ (List.Mem.tail _ (List.Mem.tail _ (List.Mem.head _))))))) ?_
        refine Mine.Tr.geI ?_
        refine ⟨_, rfl, ?_⟩
        refine tr_ite (fun h => absurd h (by omega)) (fun _ => ?_)
        refine Tr.execs_cons ?_
        have cB : ∀ a b', a ≤ b' → b' ≤ body.length → cut (some ((p + 1 + a : Nat) : Int)) (some ((p + 1 + b' : Nat) : Int)) pat = (body.drop a).take (b' - a) := fun a b' h1 h2 => cutB hp1 hpat' h1 h2
        refine Tr.assignN (Tr.cutV (fun v => ∃ t, v = .str (tx body) t) ?_ ?_)
        · refine Tr.sliceStr ?_
          refine Tr.nameL (List.Mem.head _) ?_
          refine Tr.part_some ?_
          refine Tr.nameL (List.Mem.tail _ (List.Mem.tail _ (List.Mem.tail _ (List.Mem.tail _ (List.Mem.tail _ (List.Mem.head _)))))) ?_
          refine Tr.part_some ?_
          refine Tr.nameL (List.Mem.tail _ (List.Mem.tail _ (List.Mem.tail _ (List.Mem.tail _ (List.Mem.tail _ (List.Mem.tail _ (List.Mem.tail _ (List.Mem.tail _ (List.Mem.head _))))))))) ?_
          refine ⟨_, _, _, _, rfl, (by first | exact PIs.none | exact PIs.int), (by first | exact PIs.none | exact PIs.int), (by (first | decide | assumption | (simp only [sizeLine_eq, List.length_append, List.length_cons, List.length_nil, List.length_map, List.length_range] at *; omega) | omega)), ?_⟩
          intro _
          refine ⟨ex_tx ?_, rfl⟩
          have := cB 0 body.length (by omega) (Nat.le_refl _)
          rw [List.drop_zero, Nat.sub_zero, List.take_length] at this
          exact this
        rintro v ⟨ts, rfl⟩
        refine Tr.storeL (.tail (.tail (.tail (.tail (.tail (.tail (.tail (.tail (.tail .head))))))))) ?_
        refine Then_next ?_
        refine Tr.execs_cons ?_
        refine Tr.ifS ?_
        refine Tr.isCmp1 ?_
        refine Tr.strT ([45] : List Nat) (by decide +kernel) ?_
        intro _
        refine Tr.nameL (List.Mem.tail _ (List.Mem.tail _ (List.Mem.tail _ (List.Mem.tail _ (List.Mem.tail _ (List.Mem.tail _ (List.Mem.tail _ (List.Mem.tail _ (List.Mem.tail _ (List.Mem.head _)))))))))) ?_
        refine Mine.Tr.notinS1 ?_
        refine ⟨_, rfl, ?_⟩
        refine tr_iteN (fun h => absurd (List.mem_of_getElem? bN.2.1) h) (fun _ => ?_)
        refine Tr.execs_cons ?_
        refine Tr.assignN ?_
        refine Tr.list ?_
        refine Tr.spl_nil ?_
        refine Tr.newList (by first | decide | (simp only [List.length_cons, List.length_nil]; decide)) ?_
        intro _
        refine Tr.storeL (.tail (.tail (.tail (.tail (.tail (.tail (.tail (.tail (.tail (.tail .head)))))))))) ?_
        refine Then_next ?_
        refine Tr.execs_cons ?_
        rename_i ch
        refine Tr.assignN (Tr.cutV (fun v => ∃ t, v = .int ((p + 1 + ((negT neg).length + 1) : Nat) : Int) t) ?_ ?_)
        · refine Tr.ifE ?_
          refine Tr.isCmp1 ?_
          refine Tr.subscr ?_
          refine Tr.nameL (List.Mem.head _) ?_
          refine Tr.nameL (List.Mem.tail _ (List.Mem.tail _ (List.Mem.tail _ (List.Mem.tail _ (List.Mem.tail _ (List.Mem.head _)))))) ?_
          refine Tr.itemStr (c := if neg then 33 else lo) (by omega) ⟨by omega, by omega⟩ ?_ ?_
          · rw [if_neg (by omega), show ((p : Int) + 1).toNat = p + 1 + 0 by omega]; exact get' 0 _ b0
          intro _
          refine Tr.strT ([33] : List Nat) (by decide +kernel) ?_
          intro _
          refine Mine.Tr.eqS ?_
          refine ⟨_, rfl, ?_⟩
          cases neg with
          | true =>
            refine tr_ite (fun _ => ?_) (fun h => absurd rfl h)
            refine Tr.binop ?_
            refine Tr.nameL (List.Mem.tail _ (List.Mem.tail _ (List.Mem.tail _ (List.Mem.tail _ (List.Mem.tail _ (List.Mem.head _)))))) ?_
            refine Tr.int ?_
            intro _
            refine Tr.addI ?_
            intro _
            exact ⟨ex_int (by simp only [negT, if_true, List.length_singleton]; omega), rfl⟩
          | false =>
            refine tr_ite (fun h => absurd h (n33 hlo)) (fun _ => ?_)
            refine Tr.binop ?_
            refine Tr.nameL (List.Mem.tail _ (List.Mem.tail _ (List.Mem.tail _ (List.Mem.tail _ (List.Mem.tail _ (List.Mem.head _)))))) ?_
            refine Tr.int ?_
            intro _
            refine Tr.addI ?_
            intro _
            exact ⟨ex_int (by simp [negT]), rfl⟩
        rintro v ⟨tk, rfl⟩
        refine Tr.storeL (.tail (.tail (.tail (.tail (.tail (.tail (.tail (.tail (.tail (.tail (.tail .head))))))))))) ?_
        refine Then_next ?_
        refine Tr.execs_cons ?_
        have tak : body.take ((negT neg).length + 1) = negT neg ++ [lo] ∧ body.drop ((negT neg).length + 2) = [hi] ++ more := by
          rw [← hbody]; cases neg <;> exact ⟨rfl, rfl⟩
        refine Tr.whileS (fun m S => (m = 1 ∧ ∃ ti tk, S = bSt star D b t tq pat ((p + 1 + 0 : Nat) : Int) ti tn' oc' (some (.int ((p + 1 + body.length : Nat) : Int) tj)) (some (.str (tx body) ts)) (some (.ref ch)) (some (.int ((p + 1 + ((negT neg).length + 1) : Nat) : Int) tk)) ock [(ch, Ct.list []), (b, Ct.obj (appendOf D)), (D, Ct.list us)]) ∨
          (m = 0 ∧ ∃ ti tk tc, S = bSt star D b t tq pat ((p + 1 + ((negT neg).length + 2) : Nat) : Int) ti tn' oc' (some (.int ((p + 1 + body.length : Nat) : Int) tj)) (some (.str (tx body) ts)) (some (.ref ch)) (some (.int ((p + 1 + ((negT neg).length + 4) : Nat) : Int) tk)) ock
            [(ch, Ct.list [.str (tx (negT neg ++ [lo])) tc]), (b, Ct.obj (appendOf D)), (D, Ct.list us)])) 1
          (.inl ⟨rfl, _, _, rfl⟩) ?_
        rintro m S (⟨rfl, ti2, tk2, rfl⟩ | ⟨rfl, ti2, tk2, tc, rfl⟩)
        · unfold bSt
          refine Tr.isVal ?_
          refine Tr.boolc ?_
          refine Tr.truthyB ?_
          refine tr_iteT ?_
          refine Tr.execs_cons ?_
          refine Tr.assignN ?_
          refine Tr.callM1 (pl := _) ?_ (by rfl)
          refine Tr.nameL (List.Mem.head _) ?_
          refine Tr.methS PySem.F.slot_str_find PySem.F.plainAttrs_str PySem.F.type_str_find ?_
          refine Tr.callW kept_builtin ?_
          refine Tr.spl_cons ?_
          refine Tr.strT ([45] : List Nat) (by decide +kernel) ?_
          intro _
          refine Tr.spl_cons ?_
          refine Tr.nameL (List.Mem.tail _ (List.Mem.tail _ (List.Mem.tail _ (List.Mem.tail _ (List.Mem.tail _ (List.Mem.tail _ (List.Mem.tail _ (List.Mem.tail _ (List.Mem.tail _ (List.Mem.tail _ (List.Mem.tail _ (List.Mem.head _)))))))))))) ?_
          refine Tr.spl_cons ?_
          refine Tr.nameL (List.Mem.tail _ (List.Mem.tail _ (List.Mem.tail _ (List.Mem.tail _ (List.Mem.tail _ (List.Mem.tail _ (List.Mem.tail _ (List.Mem.tail _ (List.Mem.head _))))))))) ?_
          refine Tr.spl_nil ?_
          refine Tr.findHit (by omega) (by omega) (get' _ _ bN.2.1) ?_
          intro _
          refine Tr.storeL (.tail (.tail (.tail (.tail (.tail (.tail (.tail (.tail (.tail (.tail (.tail .head))))))))))) ?_
          refine Then_next ?_
          refine Tr.execs_cons ?_
          refine Tr.ifS ?_
          refine Tr.isCmp1 ?_
          refine Tr.nameL (List.Mem.tail _ (List.Mem.tail _ (List.Mem.tail _ (List.Mem.tail _ (List.Mem.tail _ (List.Mem.tail _ (List.Mem.tail _ (List.Mem.tail _ (List.Mem.tail _ (List.Mem.tail _ (List.Mem.tail _ (List.Mem.head _)))))))))))) ?_
          refine Tr.int ?_
          intro _
          refine Mine.Tr.ltI ?_
          refine ⟨_, rfl, ?_⟩
          refine tr_ite (fun h => absurd h (by omega)) (fun _ => ?_)
          refine Tr.execs_nil ?_
          refine Then_next ?_
          refine Tr.execs_cons ?_
          refine Tr.exprS ?_ (by assumption)
          refine Tr.callM1 (pl := _) ?_ (by rfl)
          refine Tr.nameL (List.Mem.tail _ (List.Mem.tail _ (List.Mem.tail _ (List.Mem.tail _ (List.Mem.tail _ (List.Mem.tail _ (List.Mem.tail _ (List.Mem.tail _ (List.Mem.tail _ (List.Mem.tail _ (List.Mem.head _))))))))))) ?_
          refine Mine.Tr.methL (List.Mem.head _) PySem.F.slot_list_append PySem.F.plainAttrs_list PySem.F.type_list_append ?_
          refine Tr.callW kept_builtin ?_
          refine Tr.spl_cons ?_
          refine Tr.sliceStr ?_
          refine Tr.nameL (List.Mem.head _) ?_
          refine Tr.part_some ?_
          refine Tr.nameL (List.Mem.tail _ (List.Mem.tail _ (List.Mem.tail _ (List.Mem.tail _ (List.Mem.tail _ (List.Mem.head _)))))) ?_
          refine Tr.part_some ?_
          refine Tr.nameL (List.Mem.tail _ (List.Mem.tail _ (List.Mem.tail _ (List.Mem.tail _ (List.Mem.tail _ (List.Mem.tail _ (List.Mem.tail _ (List.Mem.tail _ (List.Mem.tail _ (List.Mem.tail _ (List.Mem.tail _ (List.Mem.head _)))))))))))) ?_
          refine ⟨_, _, _, _, rfl, (by first | exact PIs.none | exact PIs.int), (by first | exact PIs.none | exact PIs.int), (by (first | decide | assumption | (simp only [sizeLine_eq, List.length_append, List.length_cons, List.length_nil, List.length_map, List.length_range] at *; omega) | omega)), ?_⟩
          intro _
          refine Tr.spl_nil ?_
          refine Tr.append .head (by (first | decide | assumption | (simp only [sizeLine_eq, List.length_append, List.length_cons, List.length_nil, List.length_map, List.length_range] at *; omega) | omega)) ?_
          rw [cB 0 ((negT neg).length + 1) (by omega) (by omega), List.drop_zero, Nat.sub_zero, tak.1]
          refine ⟨rfl, ?_⟩
          refine Then_next ?_
          set_option simprocs false in (conv => arg 4; dsimp only [List.cons_append, List.nil_append, List.map_cons, List.map_nil])
          refine Tr.execs_cons ?_
          refine Tr.assignN ?_
          refine Tr.binop ?_
          refine Tr.nameL (List.Mem.tail _ (List.Mem.tail _ (List.Mem.tail _ (List.Mem.tail _ (List.Mem.tail _ (List.Mem.tail _ (List.Mem.tail _ (List.Mem.tail _ (List.Mem.tail _ (List.Mem.tail _ (List.Mem.tail _ (List.Mem.head _)))))))))))) ?_
          refine Tr.int ?_
          intro _
          refine Tr.addI ?_
          intro _
          refine Tr.storeL (.tail (.tail (.tail (.tail (.tail .head))))) ?_
          refine Then_next ?_
          refine Tr.execs_cons ?_
          refine Tr.assignN ?_
          refine Tr.binop ?_
          refine Tr.nameL (List.Mem.tail _ (List.Mem.tail _ (List.Mem.tail _ (List.Mem.tail _ (List.Mem.tail _ (List.Mem.tail _ (List.Mem.tail _ (List.Mem.tail _ (List.Mem.tail _ (List.Mem.tail _ (List.Mem.tail _ (List.Mem.head _)))))))))))) ?_
          refine Tr.int ?_
          intro _
          refine Tr.addI ?_
          intro _
          refine Tr.storeL (.tail (.tail (.tail (.tail (.tail (.tail (.tail (.tail (.tail (.tail (.tail .head))))))))))) ?_
          refine Then_next ?_
          refine Tr.execs_nil ?_
          exact ⟨0, by decide, .inr ⟨rfl, _, _, _, bSt_eq (by omega) (by omega)⟩⟩
        · unfold bSt
          refine Tr.isVal ?_
          refine Tr.boolc ?_
          refine Tr.truthyB ?_
          refine tr_iteT ?_
          refine Tr.execs_cons ?_
          refine Tr.assignN ?_
          refine Tr.callM1 (pl := _) ?_ (by rfl)
          refine Tr.nameL (List.Mem.head _) ?_
          refine Tr.methS PySem.F.slot_str_find PySem.F.plainAttrs_str PySem.F.type_str_find ?_
          refine Tr.callW kept_builtin ?_
          refine Tr.spl_cons ?_
          refine Tr.strT ([45] : List Nat) (by decide +kernel) ?_
          intro _
          refine Tr.spl_cons ?_
          refine Tr.nameL (List.Mem.tail _ (List.Mem.tail _ (List.Mem.tail _ (List.Mem.tail _ (List.Mem.tail _ (List.Mem.tail _ (List.Mem.tail _ (List.Mem.tail _ (List.Mem.tail _ (List.Mem.tail _ (List.Mem.tail _ (List.Mem.head _)))))))))))) ?_
          refine Tr.spl_cons ?_
          refine Tr.nameL (List.Mem.tail _ (List.Mem.tail _ (List.Mem.tail _ (List.Mem.tail _ (List.Mem.tail _ (List.Mem.tail _ (List.Mem.tail _ (List.Mem.tail _ (List.Mem.head _))))))))) ?_
          refine Tr.spl_nil ?_
          refine Tr.findMiss (by omega) (by omega) ?_
          intro _
          refine Tr.storeL (.tail (.tail (.tail (.tail (.tail (.tail (.tail (.tail (.tail (.tail (.tail .head))))))))))) ?_
          refine Then_next ?_
          refine Tr.execs_cons ?_
          refine Tr.ifS ?_
          refine Tr.isCmp1 ?_
          refine Tr.nameL (List.Mem.tail _ (List.Mem.tail _ (List.Mem.tail _ (List.Mem.tail _ (List.Mem.tail _ (List.Mem.tail _ (List.Mem.tail _ (List.Mem.tail _ (List.Mem.tail _ (List.Mem.tail _ (List.Mem.tail _ (List.Mem.head _)))))))))))) ?_
          refine Tr.int ?_
          intro _
          refine Mine.Tr.ltI ?_
          refine ⟨_, rfl, ?_⟩
          refine tr_ite (fun _ => ?_) (fun h => absurd (by decide) h)
          refine Tr.execs_cons ?_
          refine Tr.brk ?_
          refine Then_brk ?_
          refine Then_brk ?_
          refine Then_next ?_
          refine Tr.execs_cons ?_
          refine Tr.assignN (Tr.cutV (fun v => ∃ t, v = .str (tx ([hi] ++ more)) t) ?_ ?_)
          · refine Tr.sliceStr ?_
            refine Tr.nameL (List.Mem.head _) ?_
            refine Tr.part_some ?_
            refine Tr.nameL (List.Mem.tail _ (List.Mem.tail _ (List.Mem.tail _ (List.Mem.tail _ (List.Mem.tail _ (List.Mem.head _)))))) ?_
            refine Tr.part_some ?_
            refine Tr.nameL (List.Mem.tail _ (List.Mem.tail _ (List.Mem.tail _ (List.Mem.tail _ (List.Mem.tail _ (List.Mem.tail _ (List.Mem.tail _ (List.Mem.tail _ (List.Mem.head _))))))))) ?_
            refine ⟨_, _, _, _, rfl, (by first | exact PIs.none | exact PIs.int), (by first | exact PIs.none | exact PIs.int), (by (first | decide | assumption | (simp only [sizeLine_eq, List.length_append, List.length_cons, List.length_nil, List.length_map, List.length_range] at *; omega) | omega)), ?_⟩
            intro _
            refine ⟨ex_tx ?_, rfl⟩
            rw [cB _ _ (by omega) (Nat.le_refl _), tak.2, List.take_of_length_le (by simp; omega)]
          rintro v ⟨tck, rfl⟩
          refine Tr.storeL (.tail (.tail (.tail (.tail (.tail (.tail (.tail (.tail (.tail (.tail (.tail (.tail .head)))))))))))) ?_
          refine Then_next ?_
          set_option simprocs false in (conv => arg 4; dsimp only [List.cons_append, List.nil_append, List.map_cons, List.map_nil])
          refine Tr.execs_cons ?_
          refine Tr.ifS ?_
          refine Tr.isVal ?_
          refine Tr.nameL (List.Mem.tail _ (List.Mem.tail _ (List.Mem.tail _ (List.Mem.tail _ (List.Mem.tail _ (List.Mem.tail _ (List.Mem.tail _ (List.Mem.tail _ (List.Mem.tail _ (List.Mem.tail _ (List.Mem.tail _ (List.Mem.tail _ (List.Mem.head _))))))))))))) ?_
          refine Tr.truthyStr (by (first | decide | assumption | (simp only [sizeLine_eq, List.length_append, List.length_cons, List.length_nil, List.length_map, List.length_range] at *; omega) | omega)) ?_
          refine tr_iteB (fun _ => ?_) (fun h => absurd h (by simp))
          refine Tr.execs_cons ?_
          refine Tr.exprS ?_ (by assumption)
          refine Tr.callM1 (pl := _) ?_ (by rfl)
          refine Tr.nameL (List.Mem.tail _ (List.Mem.tail _ (List.Mem.tail _ (List.Mem.tail _ (List.Mem.tail _ (List.Mem.tail _ (List.Mem.tail _ (List.Mem.tail _ (List.Mem.tail _ (List.Mem.tail _ (List.Mem.head _))))))))))) ?_
          refine Mine.Tr.methL (List.Mem.head _) PySem.F.slot_list_append PySem.F.plainAttrs_list PySem.F.type_list_append ?_
          refine Tr.callW kept_builtin ?_
          refine Tr.spl_cons ?_
          refine Tr.nameL (List.Mem.tail _ (List.Mem.tail _ (List.Mem.tail _ (List.Mem.tail _ (List.Mem.tail _ (List.Mem.tail _ (List.Mem.tail _ (List.Mem.tail _ (List.Mem.tail _ (List.Mem.tail _ (List.Mem.tail _ (List.Mem.tail _ (List.Mem.head _))))))))))))) ?_
          refine Tr.spl_nil ?_
          refine Tr.append .head (by (first | decide | assumption | (simp only [sizeLine_eq, List.length_append, List.length_cons, List.length_nil, List.length_map, List.length_range] at *; omega) | omega)) ?_
          refine ⟨rfl, ?_⟩
          refine Then_next ?_
          set_option simprocs false in (conv => arg 4; dsimp only [List.cons_append, List.nil_append, List.map_cons, List.map_nil])
          refine Tr.execs_nil ?_
          refine Then_next ?_
          refine Tr.execs_cons ?_
          have hA : (negT neg ++ [lo]).length ≤ 2 := by simp; omega
          refine Tr.forX ?_
          refine Tr.callN ?_
          refine Tr.nameB (by assumption) (by decide +kernel) (Mine.b_range).1 (Mine.b_range).2.1 (Mine.b_range).2.2 ?_
          refine Tr.callW kept_type ?_
          refine Tr.spl_cons ?_
          refine Tr.binop ?_
          refine Tr.callN ?_
          refine Tr.nameB (by assumption) (by decide +kernel) (Mine.b_len).1 (Mine.b_len).2.1 (Mine.b_len).2.2 ?_
          refine Tr.callW kept_builtin ?_
          refine Tr.spl_cons ?_
          refine Tr.nameL (List.Mem.tail _ (List.Mem.tail _ (List.Mem.tail _ (List.Mem.tail _ (List.Mem.tail _ (List.Mem.tail _ (List.Mem.tail _ (List.Mem.tail _ (List.Mem.tail _ (List.Mem.tail _ (List.Mem.head _))))))))))) ?_
          refine Tr.spl_nil ?_
          refine Tr.lenList (.inl (List.Mem.head _)) (by (first | decide | assumption | (simp only [sizeLine_eq, List.length_append, List.length_cons, List.length_nil, List.length_map, List.length_range] at *; omega) | omega)) ?_
          intro _
          refine Tr.int ?_
          intro _
          refine Tr.subI ?_
          intro _
          refine Tr.spl_cons ?_
          refine Tr.int ?_
          intro _
          refine Tr.spl_cons ?_
          refine Mine.Tr.unop ?_
          refine Tr.int ?_
          intro _
          refine Mine.Tr.negI ?_
          intro _
          refine Tr.spl_nil ?_
          refine Tr.range3 (by decide) (by simp only [List.length_cons, List.length_nil]; decide) fun r => ?_
          refine ⟨1, (fun i v => ∃ t, v = .int (1 + (i : Int) * (-1)) t), (fun led => RAtL C led r 1 0 (-1)), (fun i S => ∃ ok' vs, S = bSt star D b t tq pat ((p + 1 + ((negT neg).length + 2) : Nat) : Int) ti2 tn' oc' (some (.int ((p + 1 + body.length : Nat) : Int) tj)) (some (.str (tx body) ts)) (some (.ref ch)) ok' (some (.str (tx ([hi] ++ more)) tck))
              [(r, Ct.pred (RngO 1 0 (-1))), (ch, Ct.list vs), (b, Ct.obj (appendOf D)), (D, Ct.list us)] ∧
            ((i = 0 ∧ vs = [.str (tx (negT neg ++ [lo])) tc, .str (tx ([hi] ++ more)) tck]) ∨ (i = 1 ∧ Txs vs (if hi < lo then [negT neg ++ more] else [negT neg ++ [lo], [hi] ++ more])))),
            ⟨src_range (by decide) (by decide), .inl (.head _), ⟨_, _, rfl, .inl ⟨rfl, rfl⟩⟩, ?_, ?_, ?_⟩⟩
          · rintro i S ⟨ok', vs, rfl, _⟩
            exact .inl (.head _)
          · rintro i S it K x hi1 ⟨tx1, rfl⟩ ⟨ok', vs, rfl, (⟨rfl, rfl⟩ | ⟨rfl, _⟩)⟩
            rotate_left 1
            · omega
            unfold bSt
            set_option simprocs false in (conv => arg 4; dsimp only [List.cons_append, List.nil_append, List.map_cons, List.map_nil])
            refine Tr.aName ?_
            refine Tr.storeL (.tail (.tail (.tail (.tail (.tail (.tail (.tail (.tail (.tail (.tail (.tail .head))))))))))) ?_
            refine Tr.execs_cons ?_
            refine Tr.ifS ?_
            refine Tr.isCmp1 ?_
            refine Tr.subscr ?_
            refine Tr.subscr ?_
            refine Tr.nameL (List.Mem.tail _ (List.Mem.tail _ (List.Mem.tail _ (List.Mem.tail _ (List.Mem.tail _ (List.Mem.tail _ (List.Mem.tail _ (List.Mem.tail _ (List.Mem.tail _ (List.Mem.tail _ (List.Mem.head _))))))))))) ?_
            refine Tr.binop ?_
            refine Tr.nameL (List.Mem.tail _ (List.Mem.tail _ (List.Mem.tail _ (List.Mem.tail _ (List.Mem.tail _ (List.Mem.tail _ (List.Mem.tail _ (List.Mem.tail _ (List.Mem.tail _ (List.Mem.tail _ (List.Mem.tail _ (List.Mem.head _)))))))))))) ?_
            refine Tr.int ?_
            intro _
            refine Tr.subI ?_
            intro _
            refine Tr.item (.inl (.tail _ (.tail _ (.head _)))) (by decide) (by decide) rfl ?_
            refine Mine.Tr.unop ?_
            refine Tr.int ?_
            intro _
            refine Mine.Tr.negI ?_
            intro _
            refine Tr.itemStr (c := lo) (by simp; omega) ⟨by omega, by omega⟩ ?_ ?_
            · cases neg <;> rfl
            intro _
            refine Tr.subscr ?_
            refine Tr.subscr ?_
            refine Tr.nameL (List.Mem.tail _ (List.Mem.tail _ (List.Mem.tail _ (List.Mem.tail _ (List.Mem.tail _ (List.Mem.tail _ (List.Mem.tail _ (List.Mem.tail _ (List.Mem.tail _ (List.Mem.tail _ (List.Mem.head _))))))))))) ?_
            refine Tr.nameL (List.Mem.tail _ (List.Mem.tail _ (List.Mem.tail _ (List.Mem.tail _ (List.Mem.tail _ (List.Mem.tail _ (List.Mem.tail _ (List.Mem.tail _ (List.Mem.tail _ (List.Mem.tail _ (List.Mem.tail _ (List.Mem.head _)))))))))))) ?_
            refine Tr.item (.inl (.tail _ (.tail _ (.head _)))) (by decide) (by decide) rfl ?_
            refine Tr.int ?_
            intro _
            refine Tr.itemStr (c := hi) (by simp; omega) ⟨by omega, by omega⟩ ?_ ?_
            · rfl
            intro _
            refine Mine.Tr.gtS ?_
            refine ⟨_, rfl, ?_⟩
            refine tr_ite (fun hh => ?_) (fun hh => ?_)
            · have hlh : hi < lo := one_lt.mp hh
              rw [if_pos hlh]
              refine Tr.execs_cons ?_
              refine Tr.assignSub ?_
              refine Tr.binop ?_
              refine Tr.sliceStr ?_
              refine Tr.subscr ?_
              refine Tr.nameL (List.Mem.tail _ (List.Mem.tail _ (List.Mem.tail _ (List.Mem.tail _ (List.Mem.tail _ (List.Mem.tail _ (List.Mem.tail _ (List.Mem.tail _ (List.Mem.tail _ (List.Mem.tail _ (List.Mem.head _))))))))))) ?_
              refine Tr.binop ?_
              refine Tr.nameL (List.Mem.tail _ (List.Mem.tail _ (List.Mem.tail _ (List.Mem.tail _ (List.Mem.tail _ (List.Mem.tail _ (List.Mem.tail _ (List.Mem.tail _ (List.Mem.tail _ (List.Mem.tail _ (List.Mem.tail _ (List.Mem.head _)))))))))))) ?_
              refine Tr.int ?_
              intro _
              refine Tr.subI ?_
              intro _
              refine Tr.item (.inl (.tail _ (.tail _ (.head _)))) (by decide) (by decide) rfl ?_
              refine Tr.part_none ?_
              refine Tr.part_some ?_
              refine Mine.Tr.unop ?_
              refine Tr.int ?_
              intro _
              refine Mine.Tr.negI ?_
              intro _
              refine ⟨_, _, _, _, rfl, (by first | exact PIs.none | exact PIs.int), (by first | exact PIs.none | exact PIs.int), (by (first | decide | assumption | (simp only [sizeLine_eq, List.length_append, List.length_cons, List.length_nil, List.length_map, List.length_range] at *; omega) | omega)), ?_⟩
              intro _
              refine Tr.sliceStr ?_
              refine Tr.subscr ?_
              refine Tr.nameL (List.Mem.tail _ (List.Mem.tail _ (List.Mem.tail _ (List.Mem.tail _ (List.Mem.tail _ (List.Mem.tail _ (List.Mem.tail _ (List.Mem.tail _ (List.Mem.tail _ (List.Mem.tail _ (List.Mem.head _))))))))))) ?_
              refine Tr.nameL (List.Mem.tail _ (List.Mem.tail _ (List.Mem.tail _ (List.Mem.tail _ (List.Mem.tail _ (List.Mem.tail _ (List.Mem.tail _ (List.Mem.tail _ (List.Mem.tail _ (List.Mem.tail _ (List.Mem.tail _ (List.Mem.head _)))))))))))) ?_
              refine Tr.item (.inl (.tail _ (.tail _ (.head _)))) (by decide) (by decide) rfl ?_
              have c1 : cut none (some (-1)) (negT neg ++ [lo]) = negT neg := by cases neg <;> rfl
              have c2 : cut (some 1) none (hi :: more) = more := by
                rcases hm with rfl | ⟨m, _, rfl⟩ <;> rfl
              refine Tr.part_some ?_
              refine Tr.int ?_
              intro _
              refine Tr.part_none ?_
              refine ⟨_, _, _, _, rfl, (by first | exact PIs.none | exact PIs.int), (by first | exact PIs.none | exact PIs.int), (by (first | decide | assumption | (simp only [sizeLine_eq, List.length_append, List.length_cons, List.length_nil, List.length_map, List.length_range] at *; omega) | omega)), ?_⟩
              intro _
              rw [c1, c2]
              refine Mine.Tr.addS (by (first | decide | assumption | (simp only [sizeLine_eq, List.length_append, List.length_cons, List.length_nil, List.length_map, List.length_range] at *; omega) | omega)) ?_
              intro _
              refine Tr.nameL (List.Mem.tail _ (List.Mem.tail _ (List.Mem.tail _ (List.Mem.tail _ (List.Mem.tail _ (List.Mem.tail _ (List.Mem.tail _ (List.Mem.tail _ (List.Mem.tail _ (List.Mem.tail _ (List.Mem.head _))))))))))) ?_
              refine Tr.binop ?_
              refine Tr.nameL (List.Mem.tail _ (List.Mem.tail _ (List.Mem.tail _ (List.Mem.tail _ (List.Mem.tail _ (List.Mem.tail _ (List.Mem.tail _ (List.Mem.tail _ (List.Mem.tail _ (List.Mem.tail _ (List.Mem.tail _ (List.Mem.head _)))))))))))) ?_
              refine Tr.int ?_
              intro _
              refine Tr.subI ?_
              intro _
              refine Tr.setItem (by decide) (by simp only [List.length_cons, List.length_nil]; decide) (by rw [sizeLine_eq]; simp) (.tail (.tail .head)) ?_
              refine Then_next ?_
              refine Tr.execs_cons ?_
              refine Tr.delSub ?_
              refine Tr.nameL (List.Mem.tail _ (List.Mem.tail _ (List.Mem.tail _ (List.Mem.tail _ (List.Mem.tail _ (List.Mem.tail _ (List.Mem.tail _ (List.Mem.tail _ (List.Mem.tail _ (List.Mem.tail _ (List.Mem.head _))))))))))) ?_
              refine Tr.nameL (List.Mem.tail _ (List.Mem.tail _ (List.Mem.tail _ (List.Mem.tail _ (List.Mem.tail _ (List.Mem.tail _ (List.Mem.tail _ (List.Mem.tail _ (List.Mem.tail _ (List.Mem.tail _ (List.Mem.tail _ (List.Mem.head _)))))))))))) ?_
              refine Tr.delItem (k := 1) (by rw [List.length_set]; simp) (by rw [sizeLine_eq, List.length_set]; simp) (.tail (.tail .head)) ?_
              refine Then_next ?_
              refine Tr.execs_nil ?_
              refine Then_next ?_
              refine Tr.execs_nil ?_
              exact ⟨_, .head, _, _, rfl, .inr ⟨rfl, StrsAre.cons _ _ .nil⟩⟩
            · have hlh : ¬ hi < lo := fun q => hh (one_lt.mpr q)
              rw [if_neg hlh]
              refine Tr.execs_nil ?_
              refine Then_next ?_
              refine Tr.execs_nil ?_
              exact ⟨_, .head, _, _, rfl, .inr ⟨rfl, StrsAre.cons _ _ (StrsAre.cons _ _ .nil)⟩⟩
          · rintro S ⟨ok', vs, rfl, (⟨h, _⟩ | ⟨_, hvs⟩)⟩
            · cases h
            unfold bSt
            refine Then_next ?_
            set_option simprocs false in (conv => arg 4; dsimp only [List.cons_append, List.nil_append, List.map_cons, List.map_nil])
            refine Tr.execs_cons ?_
            refine Tr.assignN (Tr.callM1 (pl := _) ?_ (by rfl))
            refine Tr.strT ([45] : List Nat) (by decide +kernel) ?_
            intro _
            refine Tr.methS PySem.F.slot_str_join PySem.F.plainAttrs_str PySem.F.type_str_join ?_
            have hx2 : ∀ y ∈ (if hi < lo then [negT neg ++ more] else [negT neg ++ [lo], [hi] ++ more]), (∀ c ∈ y, c ∈ body ∧ c ≠ 45) ∧ y.length ≤ 2 := by
              have hnn : ∀ c ∈ negT neg, c ∈ body ∧ c ≠ 45 := fun c hc => ⟨by rw [← hbody]; simp [hc], by cases neg <;> simp [negT] at hc; omega⟩
              have hmm : ∀ c ∈ more, c ∈ body ∧ c ≠ 45 := fun c hc => ⟨by rw [← hbody]; simp [hc], by
                rcases hm with rfl | ⟨m, h, rfl⟩
                · simp at hc
                · simp at hc; subst hc; have := h.1; omega⟩
              have hll : lo ∈ body ∧ lo ≠ 45 := ⟨by rw [← hbody]; simp, by have := hlo.1; omega⟩
              have hhh : hi ∈ body ∧ hi ≠ 45 := ⟨by rw [← hbody]; simp, by have := hhi.1; omega⟩
              intro y hy
              split at hy
              · simp only [List.mem_singleton] at hy; subst hy
                refine ⟨fun c hc => ?_, by rw [List.length_append]; omega⟩
                rcases List.mem_append.mp hc with h | h
                · exact hnn c h
                · exact hmm c h
              · simp only [List.mem_cons, List.mem_nil_iff, or_false] at hy
                rcases hy with rfl | rfl
                · refine ⟨fun c hc => ?_, hA⟩
                  rcases List.mem_append.mp hc with h | h
                  · exact hnn c h
                  · simp only [List.mem_singleton] at h; subst h; exact hll
                · refine ⟨fun c hc => ?_, by simp; omega⟩
                  rcases List.mem_append.mp hc with h | h
                  · simp only [List.mem_singleton] at h; subst h; exact hhh
                  · exact hmm c h
            have hx3 : (if hi < lo then [negT neg ++ more] else [negT neg ++ [lo], [hi] ++ more]).length ≤ 2 := by split <;> simp
            have hx4 : joinT [45] (if hi < lo then [negT neg ++ more] else [negT neg ++ [lo], [hi] ++ more]) = negT neg ++ brLeft lo hi more := by
              unfold brLeft
              by_cases q : hi < lo
              · rw [if_pos q, if_neg (by omega)]; rfl
              · rw [if_neg q, if_pos (by omega)]; simp [joinT]
            generalize (if hi < lo then [negT neg ++ more] else [negT neg ++ [lo], [hi] ++ more]) = xs at *
            refine Tr.joinGen (f := fun y => y) (B := 2) (cd := 54) (hco.trans (by rfl)) (fun _ => rfl) rfl (by rfl) (by decide) (by decide +kernel) (by decide +kernel) rfl ?_
            refine Tr.nameL (List.Mem.tail _ (List.Mem.tail _ (List.Mem.tail _ (List.Mem.tail _ (List.Mem.tail _ (List.Mem.tail _ (List.Mem.tail _ (List.Mem.tail _ (List.Mem.tail _ (List.Mem.tail _ (List.Mem.head _))))))))))) ?_
            refine ⟨ch, vs, xs, rfl, .tail _ (.head _), hvs, by rw [sizeLine_eq]; omega, fun y hy => ?_, by simp only [List.length_singleton]; omega, ?_, ?_⟩
            · rw [List.map_id'] at hy
              exact (hx2 y hy).2
            · intro cenv A' E' i y u s₂ m₂ hsc' hA hy hn hm
              have hy' := (hx2 y (List.mem_of_getElem? hy)).1
              refine wp_replace (c := 45) (z := [92, 45]) (y := y) (by decide +kernel) (by decide +kernel) (fun q => (hy' _ q).2 rfl) ?_ _ (by rfl)
              refine wp_replace (c := 92) (z := [92, 92]) (y := y) (by decide +kernel) (by decide +kernel) (fun q => absurd (hok _ (hy' _ q).1).1 (by decide)) ?_ _ (by rfl)
              exact ldG hn hm ⟨⟨u, rfl⟩, s₂.heap, s₂.toks, rfl, fun _ _ e => e⟩ (by rw [hsc']) (by rw [hsc']; decide +kernel)
            intro tst
            rw [List.map_id', hx4]
            have hbl1 : (brLeft lo hi more).length ≤ 4 := by unfold brLeft; split <;> simp <;> omega
            have hre : ∀ c ∈ negT neg ++ brLeft lo hi more, reOk c = true := by
              intro c hc
              refine (hok c ?_).1
              rw [← hbody]
              unfold brLeft at hc
              split at hc
              · simp only [List.mem_append, List.mem_cons, List.mem_nil_iff, or_false] at hc ⊢
                rcases hc with h | h | h
                · exact .inl (.inl h)
                · exact .inl (.inr h)
                · exact .inr h
              · simp only [List.mem_append, List.mem_cons, List.mem_nil_iff, or_false, false_or] at hc ⊢
                rcases hc with h | h
                · exact .inl (.inl h)
                · exact .inr h
            refine Tr.storeL (.tail (.tail (.tail (.tail (.tail (.tail (.tail (.tail (.tail .head))))))))) ?_
            refine Then_next ?_
            refine Tr.execs_nil ?_
            refine Then_next ?_
            refine Tr.execs_cons ?_
            refine Tr.assignN ?_
            refine Tr.callM1 (pl := _) ?_ (by rfl)
            refine Tr.nameG (by assumption) (by decide +kernel) Mine.g__twin_re_1 ?_
            refine Tr.methP ?_
            refine Tr.callW kept_builtin ?_
            refine Tr.spl_cons ?_
            refine Tr.lambda50 (cd := 54) (hco.trans (by rfl)) (fun _ => rfl) (by rfl) (by rfl) fun lf fo hfo => ?_
            refine Tr.spl_cons ?_
            refine Tr.nameL (List.Mem.tail _ (List.Mem.tail _ (List.Mem.tail _ (List.Mem.tail _ (List.Mem.tail _ (List.Mem.tail _ (List.Mem.tail _ (List.Mem.tail _ (List.Mem.tail _ (List.Mem.head _)))))))))) ?_
            refine Tr.spl_nil ?_
            refine Tr.sub hre (by simp; omega) (.head _) hfo ?_
            intro _
            refine Tr.storeL (.tail (.tail (.tail (.tail (.tail (.tail (.tail (.tail (.tail .head))))))))) ?_
            refine Then_next ?_
            refine Tr.execs_cons ?_
            refine Tr.assignN ?_
            refine Tr.binop ?_
            refine Tr.nameL (List.Mem.tail _ (List.Mem.tail _ (List.Mem.tail _ (List.Mem.tail _ (List.Mem.tail _ (List.Mem.tail _ (List.Mem.tail _ (List.Mem.tail _ (List.Mem.head _))))))))) ?_
            refine Tr.int ?_
            intro _
            refine Tr.addI ?_
            intro _
            refine Tr.storeL (.tail (.tail (.tail (.tail (.tail .head))))) ?_
            refine Then_next ?_
            refine Tr.execs_cons ?_
            refine Tr.ifS ?_
            refine Tr.isNot ?_
            refine Tr.isVal ?_
            refine Tr.nameL (List.Mem.tail _ (List.Mem.tail _ (List.Mem.tail _ (List.Mem.tail _ (List.Mem.tail _ (List.Mem.tail _ (List.Mem.tail _ (List.Mem.tail _ (List.Mem.tail _ (List.Mem.head _)))))))))) ?_
            refine Tr.truthyStr (by (first | decide | assumption | (simp only [sizeLine_eq, List.length_append, List.length_cons, List.length_nil, List.length_map, List.length_range] at *; omega) | omega)) ?_
            have hend : ((p + 1 + body.length : Nat) : Int) + 1 = ((texts (done ++ [(⟨brText neg lo hi more, ab.filter fun c => ((decide (lo ≤ c) && decide (c ≤ hi)) || decide ([c] = more)) != neg, some (brPart neg lo hi more)⟩ : Item)])).length : Nat) := by
              rw [hdl]
              show _ = ((p + (brText neg lo hi more).length : Nat) : Int)
              rw [htl]; omega
            have htr' : trOf (done ++ [(⟨brText neg lo hi more, ab.filter fun c => ((decide (lo ≤ c) && decide (c ≤ hi)) || decide ([c] = more)) != neg, some (brPart neg lo hi more)⟩ : Item)]) = trOf done ++ [some (brPart neg lo hi more)] := htr
            have hbf : brLeft lo hi more = [] ∨ ∃ x xs, brLeft lo hi more = x :: xs ∧ IsLet x := by
              unfold brLeft
              split
              · exact .inr ⟨_, _, rfl, hlo⟩
              · rcases hm with rfl | ⟨m, h, rfl⟩
                · exact .inl rfl
                · exact .inr ⟨_, _, rfl, h⟩
            cases neg with
            | false =>
              have e0 : negT false ++ brLeft lo hi more = brLeft lo hi more := rfl
              rw [e0]
              rcases hbf with hb0 | ⟨x, xs, hb0, hx⟩
              · have hprt : brPart false lo hi more = [40, 63, 33, 41] := by unfold brPart; rw [hb0]; rfl
                rw [hb0]
                refine tr_iteT ?_
                refine Tr.execs_cons ?_
                refine Tr.exprS ?_ (by assumption)
                refine Tr.callN ?_
                refine Tr.nameL (List.Mem.tail _ (List.Mem.tail _ (List.Mem.tail _ (List.Mem.tail _ (List.Mem.head _))))) ?_
                refine Tr.callBound ?_
                refine Tr.spl_cons ?_
                refine Tr.strT ([40, 63, 33, 41] : List Nat) (by decide +kernel) ?_
                intro _
                refine Tr.spl_nil ?_
                refine ⟨D, _, us, _, rfl, .tail _ (.tail _ (.tail _ (.head _))), .tail (.tail (.tail (.tail .head))), by rw [sizeLine_eq]; omega, rfl, ?_⟩
                refine Then_next ?_
                set_option simprocs false in (conv => arg 4; dsimp only [List.cons_append, List.nil_append, List.map_cons, List.map_nil])
                refine Tr.execs_nil ?_
                refine Then_next ?_
                refine Tr.execs_nil ?_
                refine Then_next ?_
                refine Tr.execs_nil ?_
                refine Then_next ?_
                refine Tr.execs_nil ?_
                refine Then_next ?_
                refine Tr.execs_nil ?_
                refine Then_next ?_
                refine Tr.execs_nil ?_
                refine ⟨rest.length, by omega, done ++ [_], rest, us ++ [.str (tx [40, 63, 33, 41]) _], _, _, _, _, _, _, _, _, _, hits', rfl, ?_, by (repeat (first | exact List.Sublist.refl _ | exact List.sublist_append_right _ _ | apply List.Sublist.cons)), trSt_mk ?_⟩
                · rw [htr', hprt]; exact hus.snocS _ _
                · exact hend
              · have hprt : brPart false lo hi more = [91] ++ (x :: xs) ++ [93] := by unfold brPart; rw [hb0]; rfl
                rw [hb0] at hbl1 ⊢
                refine tr_iteF ?_
                refine Tr.execs_cons ?_
                refine Tr.ifS ?_
                refine Tr.isCmp1 ?_
                refine Tr.nameL (List.Mem.tail _ (List.Mem.tail _ (List.Mem.tail _ (List.Mem.tail _ (List.Mem.tail _ (List.Mem.tail _ (List.Mem.tail _ (List.Mem.tail _ (List.Mem.tail _ (List.Mem.head _)))))))))) ?_
                refine Tr.strT ([33] : List Nat) (by decide +kernel) ?_
                intro _
                refine Mine.Tr.eqS ?_
                refine ⟨_, rfl, ?_⟩
                refine tr_ite (fun h => absurd h (fun e => by have e2 := (List.cons.inj e).1; subst e2; have := hx.1; omega)) (fun _ => ?_)
                refine Tr.execs_cons ?_
                refine Tr.ifS ?_
                refine Tr.isCmp1 ?_
                refine Tr.subscr ?_
                refine Tr.nameL (List.Mem.tail _ (List.Mem.tail _ (List.Mem.tail _ (List.Mem.tail _ (List.Mem.tail _ (List.Mem.tail _ (List.Mem.tail _ (List.Mem.tail _ (List.Mem.tail _ (List.Mem.head _)))))))))) ?_
                refine Tr.int ?_
                intro _
                refine Tr.itemStr (c := x) (by simp; omega) ⟨by omega, by omega⟩ rfl ?_
                intro _
                refine Tr.strT ([33] : List Nat) (by decide +kernel) ?_
                intro _
                refine Mine.Tr.eqS ?_
                refine ⟨_, rfl, ?_⟩
                refine tr_ite (fun h => absurd h (n33 hx)) (fun _ => ?_)
                refine Tr.execs_cons ?_
                refine Tr.ifS ?_
                refine Tr.isCmp1 ?_
                refine Tr.subscr ?_
                refine Tr.nameL (List.Mem.tail _ (List.Mem.tail _ (List.Mem.tail _ (List.Mem.tail _ (List.Mem.tail _ (List.Mem.tail _ (List.Mem.tail _ (List.Mem.tail _ (List.Mem.tail _ (List.Mem.head _)))))))))) ?_
                refine Tr.int ?_
                intro _
                refine Tr.itemStr (c := x) (by simp; omega) ⟨by omega, by omega⟩ rfl ?_
                intro _
                refine Tr.tuple ?_
                refine Tr.spl_cons ?_
                refine Tr.strT ([94] : List Nat) (by decide +kernel) ?_
                intro _
                refine Tr.spl_cons ?_
                refine Tr.strT ([91] : List Nat) (by decide +kernel) ?_
                intro _
                refine Tr.spl_nil ?_
                refine Tr.newTuple (by first | decide | (simp only [List.length_cons, List.length_nil]; decide)) ?_
                intro _
                refine Tr.inTup (xs := [[94], [91]]) (.inl (.head _)) (StrsAre.cons _ _ (StrsAre.cons _ _ .nil)) ?_
                refine ⟨_, rfl, ?_⟩
                refine tr_ite (fun h => absurd h (fun e => ?_)) (fun _ => ?_)
                · have := hx.1
                  simp only [List.mem_cons, List.mem_nil_iff, or_false, List.cons.injEq, and_true] at e
                  have := hx.2
                  omega
                refine Tr.execs_nil ?_
                refine Then_next ?_
                refine Tr.execs_nil ?_
                refine Then_next ?_
                refine Tr.execs_cons ?_
                refine Tr.exprS ?_ (by assumption)
                refine Tr.callN ?_
                refine Tr.nameL (List.Mem.tail _ (List.Mem.tail _ (List.Mem.tail _ (List.Mem.tail _ (List.Mem.head _))))) ?_
                refine Tr.callBound (Tr.spl_cons (Tr.joined ?_))
                refine Tr.jp_cons ?_
                refine Tr.strT ([91] : List Nat) (by decide +kernel) ?_
                intro _
                refine ⟨[91], _, rfl, by rw [sizeLine_eq]; decide, Tr.jp_cons ?_⟩
                refine Tr.fmtPlain ?_
                refine Tr.nameL (List.Mem.tail _ (List.Mem.tail _ (List.Mem.tail _ (List.Mem.tail _ (List.Mem.tail _ (List.Mem.tail _ (List.Mem.tail _ (List.Mem.tail _ (List.Mem.tail _ (List.Mem.head _)))))))))) ?_
                refine Tr.fmtStr (by rw [sizeLine_eq]; simp only [List.length_cons, List.length_append, List.length_nil] at hbl1 ⊢; omega) ?_
                intro tf
                refine ⟨x :: xs, _, rfl, by rw [sizeLine_eq]; simp only [List.length_cons, List.length_append, List.length_nil] at hbl1 ⊢; omega, Tr.jp_cons ?_⟩
                refine Tr.strT ([93] : List Nat) (by decide +kernel) ?_
                intro _
                refine ⟨[93], _, rfl, by rw [sizeLine_eq]; simp only [List.length_cons, List.length_append, List.length_nil] at hbl1 ⊢; omega, Tr.jp_nil (by rw [sizeLine_eq]; simp only [List.length_cons, List.length_append, List.length_nil] at hbl1 ⊢; omega) ?_⟩
                intro tg
                refine Tr.spl_nil ?_
                refine ⟨D, _, us, _, rfl, .tail _ (.tail _ (.tail _ (.tail _ (.head _)))), .tail (.tail (.tail (.tail (.tail .head)))), by rw [sizeLine_eq]; omega, rfl, ?_⟩
                refine Then_next ?_
                set_option simprocs false in (conv => arg 4; dsimp only [List.cons_append, List.nil_append, List.map_cons, List.map_nil])
                refine Tr.execs_nil ?_
                refine Then_next ?_
                refine Tr.execs_nil ?_
                refine Then_next ?_
                refine Tr.execs_nil ?_
                refine Then_next ?_
                refine Tr.execs_nil ?_
                refine Then_next ?_
                refine Tr.execs_nil ?_
                refine Then_next ?_
                refine Tr.execs_nil ?_
                refine Then_next ?_
                refine Tr.execs_nil ?_
                refine ⟨rest.length, by omega, done ++ [_], rest, us ++ [.str (tx _) _], _, _, _, _, _, _, _, _, _, hits', rfl, ?_, by (repeat (first | exact List.Sublist.refl _ | exact List.sublist_append_right _ _ | apply List.Sublist.cons)), trSt_mk ?_⟩
                · rw [htr', hprt]; exact hus.snocS _ _
                · exact hend
            | true =>
              have e0 : negT true ++ brLeft lo hi more = 33 :: brLeft lo hi more := rfl
              rw [e0]
              refine tr_iteF ?_
              refine Tr.execs_cons ?_
              refine Tr.ifS ?_
              refine Tr.isCmp1 ?_
              refine Tr.nameL (List.Mem.tail _ (List.Mem.tail _ (List.Mem.tail _ (List.Mem.tail _ (List.Mem.tail _ (List.Mem.tail _ (List.Mem.tail _ (List.Mem.tail _ (List.Mem.tail _ (List.Mem.head _)))))))))) ?_
              refine Tr.strT ([33] : List Nat) (by decide +kernel) ?_
              intro _
              refine Mine.Tr.eqS ?_
              refine ⟨_, rfl, ?_⟩
              rcases hbf with hb0 | ⟨x, xs, hb0, hx⟩
              · have hprt : brPart true lo hi more = [46] := by unfold brPart; rw [hb0]; rfl
                rw [hb0]
                refine tr_ite (fun _ => ?_) (fun h => absurd rfl h)
                refine Tr.execs_cons ?_
                refine Tr.exprS ?_ (by assumption)
                refine Tr.callN ?_
                refine Tr.nameL (List.Mem.tail _ (List.Mem.tail _ (List.Mem.tail _ (List.Mem.tail _ (List.Mem.head _))))) ?_
                refine Tr.callBound ?_
                refine Tr.spl_cons ?_
                refine Tr.strT ([46] : List Nat) (by decide +kernel) ?_
                intro _
                refine Tr.spl_nil ?_
                refine ⟨D, _, us, _, rfl, .tail _ (.tail _ (.tail _ (.head _))), .tail (.tail (.tail (.tail .head))), by rw [sizeLine_eq]; omega, rfl, ?_⟩
                refine Then_next ?_
                set_option simprocs false in (conv => arg 4; dsimp only [List.cons_append, List.nil_append, List.map_cons, List.map_nil])
                refine Tr.execs_nil ?_
                refine Then_next ?_
                refine Tr.execs_nil ?_
                refine Then_next ?_
                refine Tr.execs_nil ?_
                refine Then_next ?_
                refine Tr.execs_nil ?_
                refine Then_next ?_
                refine Tr.execs_nil ?_
                refine Then_next ?_
                refine Tr.execs_nil ?_
                refine Then_next ?_
                refine Tr.execs_nil ?_
                refine ⟨rest.length, by omega, done ++ [_], rest, us ++ [.str (tx [46]) _], _, _, _, _, _, _, _, _, _, hits', rfl, ?_, by (repeat (first | exact List.Sublist.refl _ | exact List.sublist_append_right _ _ | apply List.Sublist.cons)), trSt_mk ?_⟩
                · rw [htr', hprt]; exact hus.snocS _ _
                · exact hend
              · have hprt : brPart true lo hi more = [91, 94] ++ (x :: xs) ++ [93] := by unfold brPart; rw [hb0]; rfl
                rw [hb0] at hbl1 ⊢
                refine tr_ite (fun h => absurd h (fun e => by cases e)) (fun _ => ?_)
                refine Tr.execs_cons ?_
                refine Tr.ifS ?_
                refine Tr.isCmp1 ?_
                refine Tr.subscr ?_
                refine Tr.nameL (List.Mem.tail _ (List.Mem.tail _ (List.Mem.tail _ (List.Mem.tail _ (List.Mem.tail _ (List.Mem.tail _ (List.Mem.tail _ (List.Mem.tail _ (List.Mem.tail _ (List.Mem.head _)))))))))) ?_
                refine Tr.int ?_
                intro _
                refine Tr.itemStr (c := 33) (by simp; omega) ⟨by omega, by omega⟩ rfl ?_
                intro _
                refine Tr.strT ([33] : List Nat) (by decide +kernel) ?_
                intro _
                refine Mine.Tr.eqS ?_
                refine ⟨_, rfl, ?_⟩
                refine tr_ite (fun _ => ?_) (fun h => absurd rfl h)
                have hct : (cut (some 1) none (33 :: x :: xs)).length ≤ 100 := by rw [cut_tail]; omega
                refine Tr.execs_cons ?_
                refine Tr.assignN ?_
                refine Tr.binop ?_
                refine Tr.strT ([94] : List Nat) (by decide +kernel) ?_
                intro _
                refine Tr.sliceStr ?_
                refine Tr.nameL (List.Mem.tail _ (List.Mem.tail _ (List.Mem.tail _ (List.Mem.tail _ (List.Mem.tail _ (List.Mem.tail _ (List.Mem.tail _ (List.Mem.tail _ (List.Mem.tail _ (List.Mem.head _)))))))))) ?_
                refine Tr.part_some ?_
                refine Tr.int ?_
                intro _
                refine Tr.part_none ?_
                refine ⟨_, _, _, _, rfl, (by first | exact PIs.none | exact PIs.int), (by first | exact PIs.none | exact PIs.int), (by (first | decide | assumption | (simp only [sizeLine_eq, List.length_append, List.length_cons, List.length_nil, List.length_map, List.length_range] at *; omega) | omega)), ?_⟩
                intro _
                refine Mine.Tr.addS (by (first | decide | assumption | (simp only [sizeLine_eq, List.length_append, List.length_cons, List.length_nil, List.length_map, List.length_range] at *; omega) | omega)) ?_
                intro _
                refine Tr.storeL (.tail (.tail (.tail (.tail (.tail (.tail (.tail (.tail (.tail .head))))))))) ?_
                refine Then_next ?_
                set_option simprocs false in (conv => arg 4; dsimp only [List.cons_append, List.nil_append, List.map_cons, List.map_nil])
                refine Tr.execs_nil ?_
                refine Then_next ?_
                refine Tr.execs_cons ?_
                refine Tr.exprS ?_ (by assumption)
                refine Tr.callN ?_
                refine Tr.nameL (List.Mem.tail _ (List.Mem.tail _ (List.Mem.tail _ (List.Mem.tail _ (List.Mem.head _))))) ?_
                rw [cut_tail]
                clear hct
                refine Tr.callBound (Tr.spl_cons (Tr.joined ?_))
                refine Tr.jp_cons ?_
                refine Tr.strT ([91] : List Nat) (by decide +kernel) ?_
                intro _
                refine ⟨[91], _, rfl, by rw [sizeLine_eq]; decide, Tr.jp_cons ?_⟩
                refine Tr.fmtPlain ?_
                refine Tr.nameL (List.Mem.tail _ (List.Mem.tail _ (List.Mem.tail _ (List.Mem.tail _ (List.Mem.tail _ (List.Mem.tail _ (List.Mem.tail _ (List.Mem.tail _ (List.Mem.tail _ (List.Mem.head _)))))))))) ?_
                refine Tr.fmtStr (by rw [sizeLine_eq]; simp only [List.length_cons, List.length_append, List.length_nil] at hbl1 ⊢; omega) ?_
                intro tf
                refine ⟨[94] ++ (x :: xs), _, rfl, by rw [sizeLine_eq]; simp only [List.length_cons, List.length_append, List.length_nil] at hbl1 ⊢; omega, Tr.jp_cons ?_⟩
                refine Tr.strT ([93] : List Nat) (by decide +kernel) ?_
                intro _
                refine ⟨[93], _, rfl, by rw [sizeLine_eq]; simp only [List.length_cons, List.length_append, List.length_nil] at hbl1 ⊢; omega, Tr.jp_nil (by rw [sizeLine_eq]; simp only [List.length_cons, List.length_append, List.length_nil] at hbl1 ⊢; omega) ?_⟩
                intro tg
                refine Tr.spl_nil ?_
                refine ⟨D, _, us, _, rfl, .tail _ (.tail _ (.tail _ (.head _))), .tail (.tail (.tail (.tail .head))), by rw [sizeLine_eq]; omega, rfl, ?_⟩
                refine Then_next ?_
                set_option simprocs false in (conv => arg 4; dsimp only [List.cons_append, List.nil_append, List.map_cons, List.map_nil])
                refine Tr.execs_nil ?_
                refine Then_next ?_
                refine Tr.execs_nil ?_
                refine Then_next ?_
                refine Tr.execs_nil ?_
                refine Then_next ?_
                refine Tr.execs_nil ?_
                refine Then_next ?_
                refine Tr.execs_nil ?_
                refine Then_next ?_
                refine Tr.execs_nil ?_
                refine Then_next ?_
                refine Tr.execs_nil ?_
                refine ⟨rest.length, by omega, done ++ [_], rest, us ++ [.str (tx _) _], _, _, _, _, _, _, _, _, _, hits', rfl, ?_, by (repeat (first | exact List.Sublist.refl _ | exact List.sublist_append_right _ _ | apply List.Sublist.cons)), trSt_mk ?_⟩
                · rw [htr', hprt]; exact hus.snocS _ _
                · exact hend
  · have he : rest = [] := by
      cases rest with
      | nil => rfl
      | cons it r =>
        have := (shape_len (hsh it (by rw [hits]; simp))).1
        rw [hits, texts_app, texts_cons, List.length_append, List.length_append] at hlt
        omega
    subst he
    rw [List.append_nil] at hits
    subst hits
    refine Then_next ?_
    refine Tr.execs_cons ?_
    refine Tr.assert ?_
    refine Tr.isCmp1 ?_
    refine Tr.nameL (List.Mem.tail _ (List.Mem.tail _ (List.Mem.tail _ (List.Mem.tail _ (List.Mem.tail _ (List.Mem.head _)))))) ?_
    refine Tr.nameL (List.Mem.tail _ (List.Mem.tail _ (List.Mem.tail _ (List.Mem.tail _ (List.Mem.tail _ (List.Mem.tail _ (List.Mem.head _))))))) ?_
    refine Mine.Tr.eqI ?_
    refine ⟨_, rfl, ?_⟩
    refine ⟨by simp, ?_⟩
    refine Then_next ?_
    refine Tr.execs_cons ?_
    refine Tr.ret ?_
    refine Tr.nameL (List.Mem.tail _ (List.Mem.tail _ (List.Mem.tail _ (List.Mem.head _)))) ?_
    refine Then_ret ?_
    exact ⟨_, _, rfl, .tail _ (.head _), hus⟩
end Mine
end
section
open PySem PySem.W PySem.Calls PyProof PyProof.Rows PySem.Spec PyProof.V PySem.Builtin.Str
set_option linter.unusedVariables false
namespace Mine
def partMeans (l : List Nat) : List Nat := if l = [46] then ab else if l = [40, 63, 33, 41] then [] else if l.getD 0 0 = 91 then membersOf l else l
def partStep (nm : List Nat) (ps : List Nat) (p : Option (List Nat)) : List Nat := match p with
  | none => stepOf nm ps [] true
  | some l => stepOf nm ps (partMeans l) false
def fallsOf (nm : List Nat) (its : List Item) (many : Nat) : Bool := decide ((trOf (its.take many ++ [itemOf 8])).foldl (partStep nm) [0] = [])
def PartOk (p : Option (List Nat)) : Prop := match p with
  | none => True
  | some l => 1 ≤ l.length ∧ l.length ≤ 20 ∧ (l.getD 0 0 = 91 → 3 ≤ l.length)
theorem shape_part {it : Item} (h : Shape it) : PartOk it.part := by
  cases h with
  | lett c hc => exact ⟨by simp, by simp, fun e => absurd e (by have := hc.2; show ¬ c = 91; have := hc.1; omega)⟩
  | any => exact ⟨by decide, by decide, by decide⟩
  | star => trivial
  | br neg lo hi more hlo hhi hm =>
    have hml : more.length ≤ 1 := by rcases hm with rfl | ⟨m, _, rfl⟩ <;> simp
    have hbl : (brLeft lo hi more).length ≤ 4 := by unfold brLeft; split <;> simp <;> omega
    show 1 ≤ (brPart neg lo hi more).length ∧ (brPart neg lo hi more).length ≤ 20 ∧ ((brPart neg lo hi more).getD 0 0 = 91 → 3 ≤ (brPart neg lo hi more).length)
    unfold brPart
    generalize brLeft lo hi more = bl at *
    cases bl with
    | nil => cases neg <;> simp
    | cons x xs => cases neg <;> simp at hbl ⊢ <;> omega
theorem parts_ok {its : List Item} (h : ∀ it ∈ its, Shape it) : ∀ p ∈ trOf its, PartOk p := by
  have : ∀ (its : List Item) (acc : List (Option (List Nat))), (∀ it ∈ its, Shape it) → (∀ p ∈ acc, PartOk p) → ∀ p ∈ its.foldl trStep1 acc, PartOk p := by
    intro its
    induction its with
    | nil => intro acc _ ha; exact ha
    | cons a r ih =>
      intro acc hs ha
      refine ih _ (fun it hit => hs it (List.mem_cons_of_mem _ hit)) ?_
      have hsa := shape_part (hs a List.mem_cons_self)
      intro p hp
      unfold trStep1 at hp
      split at hp
      · rename_i l e
        rw [e] at hsa
        rcases List.mem_append.mp hp with q | q
        · exact ha p q
        · rw [List.mem_singleton] at q; subst q; exact hsa
      · split at hp
        · exact ha p hp
        · rcases List.mem_append.mp hp with q | q
          · exact ha p q
          · rw [List.mem_singleton] at q; subst q; exact trivial
  exact this its [] h (fun _ hp => nomatch hp)
theorem PlOk.part {nm ps : List Nat} {p : Option (List Nat)} (h : PlOk nm ps) : PlOk nm (partStep nm ps p) := by
  cases p with
  | none => exact h.step
  | some l => exact h.step
theorem Spec.weak {w : World} {muts : List Addr} {d : Nat} {f : Value} {args : List Value} {kw : List (Str × Value)} {R R' : Value → Led → Prop} {s : Shared} (h : Spec w muts d f args kw R s)
    (k : ∀ v new, R v new → ∃ new', new'.Sublist new ∧ R' v new') : Spec w muts d f args kw R' s := fun A h1 h2 h3 => wpAny_mono (h A h1 h2 h3) (fun v s' ⟨new, b, r⟩ => by
      obtain ⟨new', hs, r'⟩ := k v new r
      exact ⟨new', ⟨b.os, b.gens, b.gi, b.keep, fun a c hm => b.made a c (hs.mem hm), (hs.map _).nodup b.nodup⟩, r'⟩) fun _ _ e => e

theorem cut_take {α : Type} (l : List α) (m : Nat) (h : m ≤ l.length) : cut none (some (m : Int)) l = l.take m := by
  unfold cut
  have e : bnd (some (m : Int)) l.length l.length = m := by unfold bnd; dsimp only; omega
  rw [e]
  show (l.drop 0).take (m - 0) = _
  rw [List.drop_zero, Nat.sub_zero]
theorem txs_take : ∀ {vs : List Value} {xs : List (List Nat)}, Txs vs xs → ∀ m, Txs (vs.take m) (xs.take m)
  | [], [], _, m => by rw [List.take_nil, List.take_nil]; exact Txs.nil
  | v :: vs, x :: xs, h, m => by
    cases m with
    | zero => rw [List.take_zero, List.take_zero]; exact Txs.nil
    | succ m =>
      cases h with
      | cons _ u h => exact StrsAre.cons _ _ (txs_take (vs := vs) (xs := xs) h m)
theorem Txs.length {vs : List Value} {xs : List (List Nat)} (h : Txs vs xs) : vs.length = xs.length := by
  have := StrsAre.length h
  simpa using this
theorem joinT_nil : ∀ xs : List (List Nat), joinT [] xs = xs.flatten
  | [] => rfl
  | [x] => by simp [joinT]
  | x :: y :: r => by
    show x ++ [] ++ joinT [] (y :: r) = _
    rw [joinT_nil (y :: r), List.append_nil]; rfl
noncomputable def falls.fd : FuncData := fdAt 100
noncomputable def falls.ln : List Str := lnOf falls.fd
noncomputable def falls.gl : List Str := glOf falls.fd
theorem falls_at : FnAt 100 falls.fd := ⟨fun _ => ⟨_, _, _, rfl⟩, fun _ => rfl, rfl, rfl, rfl, rfl, rfl, rfl⟩
theorem g__translate : ∀ P, nsIn (hd.heap_39 P) mainGlobals (Str.ofString "_translate") = some (some (.ref 55)) := fun _ => rfl
theorem g__law_members : ∀ P, nsIn (hd.heap_39 P) mainGlobals (Str.ofString "_law_members") = some (some (.ref 88)) := fun _ => rfl
theorem falls_spec {w : World} {s : Shared} (asked : Addr) (P : Pre w [asked] s) (h50 : asked ≠ 50 ∧ asked ≠ 50) (vs : List Value) (hask : LstAt s.heap asked vs) (hvl : vs.length ≤ 1000)
    (tl : Addr) (tvs : List Value) (its : List Item) (htl : (hideAll s.heap (50 :: 50 :: [asked])).IsList tl tvs.toArray) (htv : Txs tvs (its.map (·.text))) (hsh : ∀ it ∈ its, Shape it) (hn : its.length ≤ 15)
    (nm : List Nat) (t : Tok) (hz : nm.length ≤ 90) (many : Nat) (tm : Tok) (hmany : many ≤ its.length) :
    Spec w [asked] 4 (.ref 100) [.ref tl, .str (tx nm) t, .ref asked, .int (many : Nat) tm] [] (fun v new => v = .bool (fallsOf nm its many) ∧ ∃ t', new = [(asked, .list (vs ++ [.int (many : Nat) t']))]) s := by
  refine Spec.weak (R := fun v new => v = .bool (fallsOf nm its many) ∧ ∃ t', (asked, Ct.list (vs ++ [.int (many : Nat) t'])) ∈ new) ?_ (fun v new ⟨e, t', h⟩ => ⟨_, List.singleton_sublist.mpr h, e, t', rfl⟩)
  refine Spec.enter (ml := [(asked, .list vs)]) (binds := [(Str.ofString "texts", .ref tl), (Str.ofString "name", .str (tx nm) t), (Str.ofString "asked", .ref asked), (Str.ofString "many", .int (many : Nat) tm)]) (ln := falls.ln) (gl := falls.gl) P rfl ?_ (by simp) falls_at rfl (fun s _ => BindsTo.of_eq rfl) (by simp only [List.map_cons, List.map_nil]; decide +kernel) (by kernel_rfl) (by decide +kernel) (by decide +kernel) (by decide +kernel) (by decide +kernel) (by decide +kernel) ?_
  · intro a c h
    rw [List.mem_singleton] at h
    cases h
    exact ⟨hask, h50⟩
  intro C L hw h0 hd hck G hin hco hq hsc hce
  replace hsc := scopeLit hsc
  have hT : ∀ S, LAt C S tl tvs := fun S => .inr (by rw [h0]; exact htl)
  refine Tr.startN (loc := [(Str.ofString "texts", some (Value.ref tl)), (Str.ofString "name", some (Value.str (tx nm) t)), (Str.ofString "asked", some (Value.ref asked)), (Str.ofString "many", some (Value.int (↑many) tm)), (Str.ofString "star", none), (Str.ofString "places", none), (Str.ofString "part", none)]) (cel := []) (by kernel_rfl) (by kernel_rfl) ?_
  refine Tr.execs_cons ?_
  refine Tr.exprS ?_ (by assumption)
  refine Tr.callM1 (pl := _) ?_ (by rfl)
  refine Tr.nameL (List.Mem.tail _ (List.Mem.tail _ (List.Mem.head _))) ?_
  refine Mine.Tr.methL (List.Mem.head _) PySem.F.slot_list_append PySem.F.plainAttrs_list PySem.F.type_list_append ?_
  refine Tr.callW kept_builtin ?_
  refine Tr.spl_cons ?_
  refine Tr.nameL (List.Mem.tail _ (List.Mem.tail _ (List.Mem.tail _ (List.Mem.head _)))) ?_
  refine Tr.spl_nil ?_
  refine Tr.append .head (by (first | decide | assumption | (simp only [sizeLine_eq, List.length_append, List.length_cons, List.length_nil, List.length_map, List.length_range] at *; omega) | omega)) ?_
  refine ⟨rfl, ?_⟩
  refine Then_next ?_
  refine Tr.execs_cons ?_
  refine Mine.Tr.assignSw (by assumption) ?_
  refine Tr.tuple ?_
  refine Tr.spl_cons ?_
  refine Tr.list ?_
  refine Tr.spl_cons ?_
  refine Tr.strT ([42] : List Nat) (by decide +kernel) ?_
  intro _
  refine Tr.spl_nil ?_
  refine Tr.newList (by first | decide | (simp only [List.length_cons, List.length_nil]; decide)) ?_
  intro _
  refine Tr.spl_cons ?_
  refine Tr.list ?_
  refine Tr.spl_cons ?_
  refine Tr.int ?_
  intro _
  refine Tr.spl_nil ?_
  refine Tr.newList (by first | decide | (simp only [List.length_cons, List.length_nil]; decide)) ?_
  intro _
  refine Tr.spl_nil ?_
  refine Tr.newTuple (by first | decide | (simp only [List.length_cons, List.length_nil]; decide)) ?_
  intro _
  refine ⟨_, _, rfl, .inl (.head _), rfl, ?_⟩
  refine Mine.Tr.aio_cons ?_
  refine Mine.Tr.bindN ?_
  refine Tr.storeL (.tail (.tail (.tail (.tail (.tail .head))))) ?_
  refine Mine.Tr.aio_cons ?_
  refine Mine.Tr.bindN ?_
  refine Tr.storeL (.tail (.tail (.tail (.tail .head)))) ?_
  refine Mine.Tr.aio_nil ?_
  refine Then_next ?_
  refine Tr.execs_cons ?_
  refine Tr.forX ?_
  refine Tr.callN ?_
  refine Tr.nameG (by assumption) (by decide +kernel) Mine.g__translate ?_
  refine Tr.callW (kept_K (fun _ => rfl)) ?_
  refine Tr.spl_cons ?_
  refine Tr.binop ?_
  refine Tr.callM1 (pl := _) ?_ (by rfl)
  refine Tr.strT ([] : List Nat) (by decide +kernel) ?_
  intro _
  refine Tr.methS PySem.F.slot_str_join PySem.F.plainAttrs_str PySem.F.type_str_join ?_
  refine Tr.callW kept_builtin ?_
  refine Tr.spl_cons ?_
  refine Tr.sliceList ?_
  refine Tr.nameL (List.Mem.head _) ?_
  refine Tr.part_none ?_
  refine Tr.part_some ?_
  refine Tr.nameL (List.Mem.tail _ (List.Mem.tail _ (List.Mem.tail _ (List.Mem.head _)))) ?_
  have htl2 : tvs.length = its.length := by rw [htv.length, List.length_map]
  refine ⟨tl, tvs, none, some _, rfl, hT _, .none, .int, by rw [sizeLine_eq]; omega, fun b2 => ?_⟩
  set_option simprocs false in (conv => arg 4; dsimp only [List.cons_append, List.nil_append, List.map_cons, List.map_nil])
  refine Tr.spl_nil ?_
  refine Tr.joinL (xs := (its.take many).map (·.text)) (B := 7) (.inl (.head _)) (by rw [cut_take _ _ (by omega), List.map_take]; exact txs_take htv many) (fun y hy => ?_) (by simp only [List.length_map, List.length_take, List.length_nil]; omega) ?_
  · obtain ⟨it, hit, rfl⟩ := List.mem_map.mp hy
    exact (shape_len (hsh it (List.mem_of_mem_take hit))).2
  rw [joinT_nil]
  have hpl : ((its.take many).map (·.text)).flatten.length ≤ 105 := by
    have := texts_len (its := its.take many) (fun it h => hsh it (List.mem_of_mem_take h))
    unfold texts at this
    rw [List.length_take] at this; omega
  intro _
  refine Tr.strT ([42] : List Nat) (by decide +kernel) ?_
  intro _
  refine Mine.Tr.addS (by (first | decide | assumption | (simp only [sizeLine_eq, List.length_append, List.length_cons, List.length_nil, List.length_map, List.length_range] at *; omega) | omega)) ?_
  intro _
  refine Tr.spl_cons ?_
  refine Tr.nameL (List.Mem.tail _ (List.Mem.tail _ (List.Mem.tail _ (List.Mem.tail _ (List.Mem.head _))))) ?_
  refine Tr.spl_cons ?_
  refine Tr.strT ([46] : List Nat) (by decide +kernel) ?_
  intro _
  refine Tr.spl_nil ?_
  rename_i starA _ pl0 _ _ _ _ _ _
  have hshT : ∀ it ∈ its.take many ++ [itemOf 8], Shape it := fun it h => by
    rcases List.mem_append.mp h with h | h
    · exact hsh it (List.mem_of_mem_take h)
    · rw [List.mem_singleton] at h; subst h; exact shape_of 8
  have htx : ((its.take many).map (·.text)).flatten ++ [42] = texts (its.take many ++ [itemOf 8]) := by
    rw [texts_app, star8]; unfold texts; simp
  rw [htx]
  have hlT : (its.take many ++ [itemOf 8]).length ≤ 16 := by simp only [List.length_append, List.length_take, List.length_singleton]; omega
  generalize hits2 : its.take many ++ [itemOf 8] = its2 at *
  refine Tr.call0 (d := 3) (by rw [hd]; exact Nat.le_refl _) (R := fun v new => ∃ D us, v = .ref D ∧ (D, Ct.list us) ∈ new ∧ TPs starA us (trOf its2)) (fun s' ok' H => ?_) ?_
  · rw [hw]
    exact trans_spec (hw ▸ H.pre0 ok') its2 hshT (by omega) starA _ _
  rintro v new ⟨Dl, dvs, rfl, hDl, hdv⟩
  have hps := parts_ok hshT
  generalize hpq : trOf its2 = ps at *
  refine ⟨ps.length, fun i v => dvs[i]? = some v, fun led => LAtL C led Dl dvs, fun i S => ∃ pl us op led, S = ⟨[(Str.ofString "texts", some (.ref tl)), (Str.ofString "name", some (.str (tx nm) t)), (Str.ofString "asked", some (.ref asked)), (Str.ofString "many", some (.int (many : Nat) tm)), (Str.ofString "star", some (.ref starA)), (Str.ofString "places", some (.ref pl)), (Str.ofString "part", op)], [], led⟩ ∧
    (pl, Ct.list us) ∈ led ∧ (asked, Ct.list (vs ++ [.int (many : Nat) tm])) ∈ led ∧ (Dl, Ct.list dvs) ∈ led ∧ Nums us ((ps.take i).foldl (partStep nm) [0]) ∧ PlOk nm ((ps.take i).foldl (partStep nm) [0]),
    ⟨by rw [← hdv.length]; exact src_list, .inl (List.mem_append_left _ hDl), ⟨pl0, _, _, _, rfl, List.mem_append_right _ (.tail _ (.tail _ (.head _))), List.mem_append_right _ (.tail _ (.tail _ (.tail _ (.tail _ (.head _))))), List.mem_append_left _ hDl, .cons 0 _ .nil, ⟨fun p hp => by simp at hp; omega, by simp⟩⟩, ?_, ?_, ?_⟩⟩
  · rintro i S ⟨pl, us, op, led, rfl, _, _, h, _⟩
    exact .inl h
  · rintro i S it K x hi hx ⟨pl, us, op, led, rfl, hpl2, hask2, hD2, hus, hpo⟩
    have hps' := hps ps[i] (List.getElem_mem hi)
    have efold : (ps.take (i + 1)).foldl (partStep nm) [0] = partStep nm ((ps.take i).foldl (partStep nm) [0]) ps[i] := by
      rw [List.take_succ_eq_append_getElem hi, List.foldl_append]; rfl
    rw [efold]
    have hget := hdv.get (List.getElem?_eq_getElem hi)
    generalize ps[i] = part at *
    generalize (ps.take i).foldl (partStep nm) [0] = pcs at *
    have hn2 := hpo.part (p := part)
    have hul := hus.length
    have hx' : dvs[i]? = some x := hx
    rcases hget with ⟨l, u, rfl, hv⟩ | ⟨rfl, hv⟩
    · rw [hx'] at hv
      cases Option.some.inj hv
      change Tr _ _ _ _
      set_option simprocs false in (conv => arg 4; dsimp only [List.cons_append, List.nil_append, List.map_cons, List.map_nil])
      refine Tr.aName ?_
      refine Tr.storeL (.tail (.tail (.tail (.tail (.tail (.tail .head)))))) ?_
      refine Tr.execs_cons ?_
      refine Tr.ifS ?_
      refine Tr.isCmp1 ?_
      refine Tr.nameL (List.Mem.tail _ (List.Mem.tail _ (List.Mem.tail _ (List.Mem.tail _ (List.Mem.tail _ (List.Mem.tail _ (List.Mem.head _))))))) ?_
      refine Tr.nameL (List.Mem.tail _ (List.Mem.tail _ (List.Mem.tail _ (List.Mem.tail _ (List.Mem.head _))))) ?_
      refine Mine.Tr.isStrRef ?_
      refine ⟨_, rfl, ?_⟩
      refine tr_iteF ?_
      refine Tr.execs_cons ?_
      refine Tr.ifS ?_
      refine Tr.isCmp1 ?_
      refine Tr.nameL (List.Mem.tail _ (List.Mem.tail _ (List.Mem.tail _ (List.Mem.tail _ (List.Mem.tail _ (List.Mem.tail _ (List.Mem.head _))))))) ?_
      refine Tr.list ?_
      refine Tr.spl_cons ?_
      refine Tr.strT ([46] : List Nat) (by decide +kernel) ?_
      intro _
      refine Tr.spl_cons ?_
      refine Tr.strT ([40, 63, 33, 41] : List Nat) (by decide +kernel) ?_
      intro _
      refine Tr.spl_nil ?_
      refine Tr.newList (by first | decide | (simp only [List.length_cons, List.length_nil]; decide)) ?_
      intro _
      have hpm : partStep nm pcs (some l) = stepOf nm pcs (partMeans l) false := rfl
      refine Tr.inL (xs := [[46], [40, 63, 33, 41]]) (.inl (.head _)) (StrsAre.cons _ _ (StrsAre.cons _ _ .nil)) ?_
      refine ⟨_, rfl, tr_ite (fun hin2 => ?_) (fun hin2 => ?_)⟩
      · refine Tr.execs_cons ?_
        refine Tr.assignN ?_
        refine Tr.callN ?_
        refine Tr.nameG (by assumption) (by decide +kernel) Mine.g__law_step ?_
        refine Tr.callW (kept_K (fun _ => rfl)) ?_
        refine Tr.spl_cons ?_
        refine Tr.nameL (List.Mem.tail _ (List.Mem.head _)) ?_
        refine Tr.spl_cons ?_
        refine Tr.nameL (List.Mem.tail _ (List.Mem.tail _ (List.Mem.tail _ (List.Mem.tail _ (List.Mem.tail _ (List.Mem.head _)))))) ?_
        refine Tr.spl_cons ?_
        refine Tr.ifE ?_
        refine Tr.isCmp1 ?_
        refine Tr.nameL (List.Mem.tail _ (List.Mem.tail _ (List.Mem.tail _ (List.Mem.tail _ (List.Mem.tail _ (List.Mem.tail _ (List.Mem.head _))))))) ?_
        refine Tr.strT ([46] : List Nat) (by decide +kernel) ?_
        intro _
        refine Mine.Tr.eqS ?_
        refine ⟨_, rfl, ?_⟩
        refine tr_ite (fun he => ?_) (fun he => ?_)
        · have hm : partMeans l = ab := by unfold partMeans; rw [if_pos he]
          rw [hpm, hm] at hn2 ⊢
          refine Tr.strT ([97, 98, 99, 100] : List Nat) (by decide +kernel) ?_
          intro _
          refine Tr.spl_cons ?_
          refine Tr.boolc ?_
          refine Tr.spl_nil ?_
          refine Tr.call0 (d := 2) (by rw [hd]; omega) (R := fun v new => ∃ D us, v = .ref D ∧ (D, Ct.list us) ∈ new ∧ Nums us (stepOf nm pcs ab false)) (fun s' ok' H => ?_) ?_
          · rw [hw]
            exact step_spec (hw ▸ H.pre0 ok') nm pcs ab false pl us _ t (by omega) hpo.1 (H.lb ok' (.inl (.tail _ (.tail _ hpl2)))) hus (by have := hpo.2; omega) (.inl ⟨_, rfl⟩)
          rintro v new ⟨D, us2, rfl, hD, hu2⟩
          refine Tr.storeL (.tail (.tail (.tail (.tail (.tail .head))))) ?_
          refine Then_next ?_
          refine Tr.execs_nil ?_
          refine Then_next ?_
          refine Tr.execs_nil ?_
          refine Then_next ?_
          refine Tr.execs_nil ?_
          exact ⟨_, Pick.app (.tail .head) new, D, us2, _, _, rfl, List.mem_append_left _ hD, List.mem_append_right _ (.tail _ hask2), List.mem_append_right _ (.tail _ hD2), hu2, hn2⟩
        · have hm : partMeans l = [] := by
            unfold partMeans
            rw [if_neg he]
            rcases List.mem_cons.mp hin2 with h | h
            · exact absurd h he
            · rw [List.mem_singleton] at h; rw [if_pos h]
          rw [hpm, hm] at hn2 ⊢
          refine Tr.strT ([] : List Nat) (by decide +kernel) ?_
          intro _
          refine Tr.spl_cons ?_
          refine Tr.boolc ?_
          refine Tr.spl_nil ?_
          refine Tr.call0 (d := 2) (by rw [hd]; omega) (R := fun v new => ∃ D us, v = .ref D ∧ (D, Ct.list us) ∈ new ∧ Nums us (stepOf nm pcs [] false)) (fun s' ok' H => ?_) ?_
          · rw [hw]
            exact step_spec (hw ▸ H.pre0 ok') nm pcs [] false pl us _ t (by omega) hpo.1 (H.lb ok' (.inl (.tail _ (.tail _ hpl2)))) hus (by have := hpo.2; omega) (.inl ⟨_, rfl⟩)
          rintro v new ⟨D, us2, rfl, hD, hu2⟩
          refine Tr.storeL (.tail (.tail (.tail (.tail (.tail .head))))) ?_
          refine Then_next ?_
          refine Tr.execs_nil ?_
          refine Then_next ?_
          refine Tr.execs_nil ?_
          refine Then_next ?_
          refine Tr.execs_nil ?_
          exact ⟨_, Pick.app (.tail .head) new, D, us2, _, _, rfl, List.mem_append_left _ hD, List.mem_append_right _ (.tail _ hask2), List.mem_append_right _ (.tail _ hD2), hu2, hn2⟩
      · have hne : l ≠ [46] ∧ l ≠ [40, 63, 33, 41] := ⟨fun e => hin2 (by rw [e]; simp), fun e => hin2 (by rw [e]; simp)⟩
        obtain ⟨ho1, ho2, ho3⟩ := hps'
        refine Tr.execs_cons ?_
        refine Tr.assignN ?_
        refine Tr.callN ?_
        refine Tr.nameG (by assumption) (by decide +kernel) Mine.g__law_step ?_
        refine Tr.callW (kept_K (fun _ => rfl)) ?_
        refine Tr.spl_cons ?_
        refine Tr.nameL (List.Mem.tail _ (List.Mem.head _)) ?_
        refine Tr.spl_cons ?_
        refine Tr.nameL (List.Mem.tail _ (List.Mem.tail _ (List.Mem.tail _ (List.Mem.tail _ (List.Mem.tail _ (List.Mem.head _)))))) ?_
        refine Tr.spl_cons ?_
        refine Tr.ifE ?_
        refine Tr.isCmp1 ?_
        refine Tr.subscr ?_
        refine Tr.nameL (List.Mem.tail _ (List.Mem.tail _ (List.Mem.tail _ (List.Mem.tail _ (List.Mem.tail _ (List.Mem.tail _ (List.Mem.head _))))))) ?_
        refine Tr.int ?_
        intro _
        refine Tr.itemStr (c := l.getD 0 0) (by omega) ⟨by omega, by omega⟩ ?_ ?_
        · rw [if_neg (by omega)]
          show l[0]? = _
          rw [List.getD_eq_getElem?_getD, List.getElem?_eq_getElem (by omega)]; rfl
        intro _
        refine Tr.strT ([91] : List Nat) (by decide +kernel) ?_
        intro _
        refine Mine.Tr.eqS ?_
        refine ⟨_, rfl, ?_⟩
        refine tr_ite (fun he => ?_) (fun he => ?_)
        · have he' : l.getD 0 0 = 91 := List.singleton_inj.mp he
          have hm : partMeans l = membersOf l := by unfold partMeans; rw [if_neg hne.1, if_neg hne.2, if_pos he']
          rw [hpm, hm] at hn2 ⊢
          refine Tr.callN ?_
          refine Tr.nameG (by assumption) (by decide +kernel) Mine.g__law_members ?_
          refine Tr.callW (kept_K (fun _ => rfl)) ?_
          refine Tr.spl_cons ?_
          refine Tr.nameL (List.Mem.tail _ (List.Mem.tail _ (List.Mem.tail _ (List.Mem.tail _ (List.Mem.tail _ (List.Mem.tail _ (List.Mem.head _))))))) ?_
          refine Tr.spl_nil ?_
          refine Tr.call0 (d := 3) (by rw [hd]; exact Nat.le_refl _) (R := fun v new => ∃ D us, v = .ref D ∧ (D, Ct.list us) ∈ new ∧ Lts us (membersOf l)) (fun s' ok' H => ?_) ?_
          · rw [hw]
            exact members_spec (hw ▸ H.pre0 ok') l u (ho3 he') ho2
          rintro v new1 ⟨D1, us1, rfl, hD1, hu1⟩
          refine Tr.spl_cons ?_
          refine Tr.boolc ?_
          refine Tr.spl_nil ?_
          refine Tr.call0 (d := 2) (by rw [hd]; omega) (R := fun v new => ∃ D us, v = .ref D ∧ (D, Ct.list us) ∈ new ∧ Nums us (stepOf nm pcs (membersOf l) false)) (fun s' ok' H => ?_) ?_
          · rw [hw]
            exact step_spec (hw ▸ H.pre0 ok') nm pcs (membersOf l) false pl us _ t (by omega) hpo.1 (H.lb ok' (.inl (List.mem_append_right _ (.tail _ (.tail _ hpl2))))) hus (by have := hpo.2; omega) (H.mb ok' (.inr ⟨D1, us1, rfl, .inl (List.mem_append_left _ hD1), hu1⟩))
          rintro v new ⟨D, us2, rfl, hD, hu2⟩
          refine Tr.storeL (.tail (.tail (.tail (.tail (.tail .head))))) ?_
          refine Then_next ?_
          refine Tr.execs_nil ?_
          refine Then_next ?_
          refine Tr.execs_nil ?_
          refine Then_next ?_
          refine Tr.execs_nil ?_
          exact ⟨_, Pick.app (Pick.app (.tail .head) new1) new, D, us2, _, _, rfl, List.mem_append_left _ hD, List.mem_append_right _ (List.mem_append_right _ (.tail _ hask2)), List.mem_append_right _ (List.mem_append_right _ (.tail _ hD2)), hu2, hn2⟩
        · have he' : ¬ l.getD 0 0 = 91 := fun q => he (by rw [q])
          have hm : partMeans l = l := by unfold partMeans; rw [if_neg hne.1, if_neg hne.2, if_neg he']
          rw [hpm, hm] at hn2 ⊢
          refine Tr.nameL (List.Mem.tail _ (List.Mem.tail _ (List.Mem.tail _ (List.Mem.tail _ (List.Mem.tail _ (List.Mem.tail _ (List.Mem.head _))))))) ?_
          refine Tr.spl_cons ?_
          refine Tr.boolc ?_
          refine Tr.spl_nil ?_
          refine Tr.call0 (d := 2) (by rw [hd]; omega) (R := fun v new => ∃ D us, v = .ref D ∧ (D, Ct.list us) ∈ new ∧ Nums us (stepOf nm pcs l false)) (fun s' ok' H => ?_) ?_
          · rw [hw]
            exact step_spec (hw ▸ H.pre0 ok') nm pcs l false pl us _ t (by omega) hpo.1 (H.lb ok' (.inl (.tail _ (.tail _ hpl2)))) hus (by have := hpo.2; omega) (.inl ⟨_, rfl⟩)
          rintro v new ⟨D, us2, rfl, hD, hu2⟩
          refine Tr.storeL (.tail (.tail (.tail (.tail (.tail .head))))) ?_
          refine Then_next ?_
          refine Tr.execs_nil ?_
          refine Then_next ?_
          refine Tr.execs_nil ?_
          refine Then_next ?_
          refine Tr.execs_nil ?_
          exact ⟨_, Pick.app (.tail .head) new, D, us2, _, _, rfl, List.mem_append_left _ hD, List.mem_append_right _ (.tail _ hask2), List.mem_append_right _ (.tail _ hD2), hu2, hn2⟩
    · rw [hx'] at hv
      cases Option.some.inj hv
      change Tr _ _ _ _
      set_option simprocs false in (conv => arg 4; dsimp only [List.cons_append, List.nil_append, List.map_cons, List.map_nil])
      refine Tr.aName ?_
      refine Tr.storeL (.tail (.tail (.tail (.tail (.tail (.tail .head)))))) ?_
      refine Tr.execs_cons ?_
      refine Tr.ifS ?_
      refine Tr.isCmp1 ?_
      refine Tr.nameL (List.Mem.tail _ (List.Mem.tail _ (List.Mem.tail _ (List.Mem.tail _ (List.Mem.tail _ (List.Mem.tail _ (List.Mem.head _))))))) ?_
      refine Tr.nameL (List.Mem.tail _ (List.Mem.tail _ (List.Mem.tail _ (List.Mem.tail _ (List.Mem.head _))))) ?_
      refine Mine.Tr.isRefSelf ?_
      refine ⟨_, rfl, ?_⟩
      refine tr_iteT ?_
      refine Tr.execs_cons ?_
      refine Tr.assignN ?_
      refine Tr.callN ?_
      refine Tr.nameG (by assumption) (by decide +kernel) Mine.g__law_step ?_
      refine Tr.callW (kept_K (fun _ => rfl)) ?_
      refine Tr.spl_cons ?_
      refine Tr.nameL (List.Mem.tail _ (List.Mem.head _)) ?_
      refine Tr.spl_cons ?_
      refine Tr.nameL (List.Mem.tail _ (List.Mem.tail _ (List.Mem.tail _ (List.Mem.tail _ (List.Mem.tail _ (List.Mem.head _)))))) ?_
      refine Tr.spl_cons ?_
      refine Tr.strT ([] : List Nat) (by decide +kernel) ?_
      intro _
      refine Tr.spl_cons ?_
      refine Tr.boolc ?_
      refine Tr.spl_nil ?_
      refine Tr.call0 (d := 2) (by rw [hd]; omega) (R := fun v new => ∃ D us, v = .ref D ∧ (D, Ct.list us) ∈ new ∧ Nums us (stepOf nm pcs [] true)) (fun s' ok' H => ?_) ?_
      · rw [hw]
        exact step_spec (hw ▸ H.pre0 ok') nm pcs [] true pl us _ t (by omega) hpo.1 (H.lb ok' (.inl (.tail _ hpl2))) hus (by have := hpo.2; omega) (.inl ⟨_, rfl⟩)
      rintro v new ⟨D, us2, rfl, hD, hu2⟩
      refine Tr.storeL (.tail (.tail (.tail (.tail (.tail .head))))) ?_
      refine Then_next ?_
      refine Tr.execs_nil ?_
      refine Then_next ?_
      refine Tr.execs_nil ?_
      exact ⟨_, Pick.app .head new, D, us2, _, _, rfl, List.mem_append_left _ hD, List.mem_append_right _ hask2, List.mem_append_right _ hD2, hu2, hn2⟩
  · rintro S ⟨pl, us, op, led, rfl, hpl2, hask2, hD2, hus, hpo⟩
    refine Then_next ?_
    refine Tr.execs_cons ?_
    refine Tr.ret ?_
    refine Tr.cmp1 ?_
    refine Tr.nameL (List.Mem.tail _ (List.Mem.tail _ (List.Mem.tail _ (List.Mem.tail _ (List.Mem.tail _ (List.Mem.head _)))))) ?_
    refine Tr.list ?_
    refine Tr.spl_nil ?_
    refine Tr.newList (by first | decide | (simp only [List.length_cons, List.length_nil]; decide)) ?_
    intro _
    refine Tr.eqNil (.inl (.tail _ hpl2)) (.inl (.head _)) ?_
    have e : decide (us = []) = fallsOf nm its many := by
      unfold fallsOf
      rw [hits2, hpq]
      rw [List.take_length] at hus
      rw [decide_eq_decide]
      constructor
      · rintro rfl; cases hus' : ps.foldl (partStep nm) [0] with
        | nil => rfl
        | cons a r => rw [hus'] at hus; cases hus
      · intro e
        rw [e] at hus
        cases hus; rfl
    exact ⟨by rw [e], _, .tail _ hask2⟩
end Mine
end
section
open PySem PySem.W PySem.Calls PyProof PyProof.Rows PySem.Spec PyProof.V PySem.Builtin.Str
set_option linter.unusedVariables false
namespace Mine
open PySem.SeqAt
theorem Nums.ints {vs : List Value} {ns : List Nat} (h : Nums vs ns) : IntsAre vs (ns.map fun (n : Nat) => (n : Int)) := by
  induction h with
  | nil => exact .nil
  | cons n t _ ih => exact .cons _ t ih
theorem count_cast (ns : List Nat) (k : Nat) : (ns.map fun (n : Nat) => (n : Int)).count (k : Int) = ns.count k := by
  induction ns with
  | nil => rfl
  | cons a r ih =>
    rw [List.map_cons, List.count_cons, List.count_cons, ih]
    congr 1
    by_cases h : a = k
    · subst h; simp
    · have : ¬ (a : Int) = k := fun e => h (by omega)
      simp [h, this]
section
variable {C : Cx} {S : St}
theorem Tr.pow4 {k : Nat} {t u : Tok} {Q : Value → St → Prop} (hk : k < 5) (h : ∀ t, Q (.int ((4 ^ k : Nat) : Int) t) S) : Tr C (binaryOp .Pow (.int 4 t) (.int (k : Nat) u)) Q S := by
  intro ok s H
  have hc : k = 0 ∨ k = 1 ∨ k = 2 ∨ k = 3 ∨ k = 4 := by omega
  rcases hc with rfl | rfl | rfl | rfl | rfl
  · exact AutoIntOps.pow_0 (by decide) (by decide) ⟨S, H.toks _, h _⟩
  all_goals exact AutoIntOps.pow_4 (by decide) (by decide) (by decide) (by decide) (by decide +kernel) ⟨S, H.toks _, h _⟩
theorem Tr.countN {a : Addr} {vs : List Value} {ns : List Nat} {k : Nat} {t : Tok} {Q : Value → St → Prop} (L : LAt C S a vs) (hn : Nums vs ns) (h : ∀ t, Q (.int (ns.count k : Nat) t) S) : Tr C (call (.builtin "list.count") [.ref a, .int (k : Nat) t]) Q S := by
  intro ok s H
  refine count_list_ints (L.is H) hn.ints ?_
  rw [count_cast]
  exact ⟨S, H.toks _, h _⟩
theorem Tr.bitlen {a : Int} {t : Tok} {Q : Value → St → Prop} (h : ∀ t, Q (.int (Builtin.Int.intBits a : Nat) t) S) : Tr C (call (.builtin "int.bit_length") [.int a t]) Q S :=
  fun ok s H => call_int_bit_length ⟨S, H.toks _, h _⟩
theorem Tr.neSame {a b : Addr} {vs ws : List Value} {Q : Value → St → Prop} (La : LAt C S a vs) (Lb : LAt C S b ws) (hl : vs.length = ws.length)
    (he : ∀ s, Holds C S s → C.A.units + 8 * C.d < cLine → ∀ (j : Nat) x y, vs[j]? = some x → ws[j]? = some y → EqAt C.A.in1 s x y true) (h : Q (.bool false) S) : Tr C (compareOp .NotEq (.ref a) (.ref b)) Q S := by
  intro ok s H
  have hu : C.A.units < cLine := by have := ok.units; omega
  refine RcNeAt.lists (e := fun _ => true) (La.is H) (Lb.is H) (by simpa using hl) hu (fun j h1 h2 => he s H ok.units j _ _ (by simpa using h1) (by simpa using h2)) _ _ _ _ ⟨S, H, ?_⟩
  have : ((List.range vs.toArray.size).all fun _ => true) = true := by simp
  rw [this]; exact h
theorem Tr.eqSame {a b : Addr} {vs ws : List Value} {Q : Value → St → Prop} (La : LAt C S a vs) (Lb : LAt C S b ws) (hl : vs.length = ws.length)
    (he : ∀ s, Holds C S s → C.A.units + 8 * C.d < cLine → ∀ (j : Nat) x y, vs[j]? = some x → ws[j]? = some y → EqAt C.A.in1 s x y true) (h : Q (.bool true) S) : Tr C (compareOp .Eq (.ref a) (.ref b)) Q S := by
  intro ok s H
  have hu : C.A.units < cLine := by have := ok.units; omega
  refine RcAt.lists (e := fun _ => true) (La.is H) (Lb.is H) (by simpa using hl) hu (fun j h1 h2 => he s H ok.units j _ _ (by simpa using h1) (by simpa using h2)) _ _ _ _ ⟨S, H, ?_⟩
  have : ((List.range vs.toArray.size).all fun _ => true) = true := by simp
  rw [this]; exact h
/-- two lists of the same things -/
theorem eq_lists {A : Around} {s : Shared} {a b : Addr} {vs ws : List Value} (La : s.heap.IsList a vs.toArray) (Lb : s.heap.IsList b ws.toArray) (hl : vs.length = ws.length) (hu : A.units < cLine)
    (he : ∀ (j : Nat) x y, vs[j]? = some x → ws[j]? = some y → EqAt A.in1 s x y true) : EqAt A s (.ref a) (.ref b) true := by
  by_cases e : a = b
  · subst e; exact EqAt.same _
  · refine EqAt.of_refs e ?_
    have := RcAt.lists (A := A) (e := fun _ => true) La Lb (by simpa using hl) hu (fun j h1 h2 => he j _ _ (by simpa using h1) (by simpa using h2))
    have e2 : ((List.range vs.toArray.size).all fun _ => true) = true := by simp
    rw [e2] at this; exact this
end
end Mine
end
section
open PySem PySem.W PySem.Calls PyProof PyProof.Rows PySem.Spec PyProof.V PySem.Builtin.Str
set_option linter.unusedVariables false
namespace Mine
noncomputable def law.fd : FuncData := fdAt 112
noncomputable def law.ln : List Str := lnOf law.fd
noncomputable def law.gl : List Str := glOf law.fd
noncomputable def law.body : List Stmt := stmtsOf law.fd
theorem law_at : FnAt 112 law.fd := ⟨fun _ => ⟨_, _, _, rfl⟩, fun _ => rfl, rfl, rfl, rfl, rfl, rfl, rfl⟩
theorem g__law_item : ∀ P, nsIn (hd.heap_39 P) mainGlobals (Str.ofString "_law_item") = some (some (.ref 78)) := fun _ => rfl
theorem g__law_met : ∀ P, nsIn (hd.heap_39 P) mainGlobals (Str.ofString "_law_met") = some (some (.ref 107)) := fun _ => rfl
theorem g__law_pressed : ∀ P, nsIn (hd.heap_39 P) mainGlobals (Str.ofString "_law_pressed") = some (some (.ref 83)) := fun _ => rfl
theorem g__law_falls : ∀ P, nsIn (hd.heap_39 P) mainGlobals (Str.ofString "_law_falls") = some (some (.ref 100)) := fun _ => rfl
theorem g_bisect_left : ∀ P, nsIn (hd.heap_39 P) mainGlobals (Str.ofString "bisect_left") = some (some (.ref 73)) := fun _ => rfl
theorem g_bisect_right : ∀ P, nsIn (hd.heap_39 P) mainGlobals (Str.ofString "bisect_right") = some (some (.ref 64)) := fun _ => rfl
def headOf (ns : List Int) : Int := (ns ++ [122]).headD 0
def nameN (h : Int) : Nat := (1 + h.fmod 5).toNat
def nameOf (h : Int) : List Nat := (List.range (nameN h)).map fun k => let4 ((h.fdiv 5).fdiv ((4 ^ k : Nat) : Int))
def itemsOf (ns : List Int) : List Item := (((ns.drop 1).take 6) ++ [8, 42, 167, 2, 9]).map itemOf
/-- the frame of the law -/
structure LawCx (C : Cx) (L : Addr) (w : World) : Prop where
  w : C.w = w
  d : C.d = 7
  ck : C.ck = .cell
  G : Glb C law.gl
  int : interactive C.env = false
  code : C.env.code = law.fd.code
  qual : C.env.qual = law.fd.qualname ++ Str.ofString ".<locals>."
  scope : C.env.scope = law.fd.scope
  cells : C.env.cells = cellsFrom (L + 1) law.fd.scope.names []
def LawQ (fl : Flow) (S' : St) : Prop := (match fl with | .ret v => v | _ => .none) = .bool true ∧ ∃ ps, (109, Ct.obj (tabObj ps)) ∈ S'.led
def lawSt (L : Addr) (script items met first last few texts right name left heads parts head : Option Value) (led : Led) : St :=
  ⟨[(Str.ofString "script", script), (Str.ofString "items", items), (Str.ofString "met", met), (Str.ofString "first", first), (Str.ofString "last", last), (Str.ofString "few", few)],
   [(Str.ofString "texts", L + 1 + 1 + 1 + 1 + 1 + 1 + 1, texts), (Str.ofString "right", L + 1 + 1 + 1 + 1 + 1 + 1, right), (Str.ofString "name", L + 1 + 1 + 1 + 1 + 1, name), (Str.ofString "left", L + 1 + 1 + 1 + 1, left), (Str.ofString "heads", L + 1 + 1 + 1, heads), (Str.ofString "parts", L + 1 + 1, parts), (Str.ofString "head", L + 1, head)], led⟩
def tab0 : Ct := .obj (tabObj #[])
def ItemsAt (led : Led) (its : List Item) (vs : List Value) : Prop := vs.length = its.length ∧ ∀ (i : Nat) (it : Item) (v : Value), its[i]? = some it → vs[i]? = some v → ItemAt led it v
theorem ItemAt.mono {led led' : Led} {it : Item} {v : Value} (h : ∀ x ∈ led, x ∈ led') (x : ItemAt led it v) : ItemAt led' it v := by
  obtain ⟨a, tt, mv, pv, e, h1, h2, h3⟩ := x
  refine ⟨a, tt, mv, pv, e, h _ h1, h2.imp id fun ⟨b, vs, e, hb, l⟩ => ⟨b, vs, e, h _ hb, l⟩, ?_⟩
  revert h3
  unfold PartAt
  split
  · exact id
  · rintro ⟨b, t, e, hb⟩; exact ⟨b, t, e, h _ hb⟩
theorem head_get {svs : List Value} {ns : List Int} (h : IntsAre svs ns) (t : Tok) : ∃ u, (svs ++ [.int 122 t])[0]? = some (.int (headOf ns) u) := by
  cases h with
  | nil => exact ⟨t, rfl⟩
  | cons n u _ => exact ⟨u, rfl⟩
theorem ints_len {vs : List Value} {ns : List Int} (h : IntsAre vs ns) : vs.length = ns.length := by
  induction h with
  | nil => rfl
  | cons n t _ ih => simp [ih]
theorem cut17 {α : Type} (l : List α) : cut (some 1) (some 7) l = (l.drop 1).take 6 := by
  unfold cut bnd
  dsimp only
  by_cases h : l.length ≤ 1
  · have e1 : (l.drop 1).take 6 = [] := by rw [List.drop_of_length_le h]; rfl
    rw [e1]
    refine List.length_eq_zero_iff.mp ?_
    rw [List.length_take, List.length_drop]
    split <;> split <;> omega
  · have e1 : (max 0 (min (if (1 : Int) < 0 then 1 + (l.length : Int) else 1) (l.length : Int))).toNat = 1 := by rw [if_neg (by omega)]; omega
    have e2 : (max 0 (min (if (7 : Int) < 0 then 7 + (l.length : Int) else 7) (l.length : Int))).toNat = min 7 l.length := by rw [if_neg (by omega)]; omega
    rw [e1, e2]
    by_cases h7 : 7 ≤ l.length
    · rw [Nat.min_eq_left h7]
    · rw [Nat.min_eq_right (by omega), List.take_of_length_le (by rw [List.length_drop]; omega), List.take_of_length_le (by rw [List.length_drop]; omega)]
theorem ints_app {vs ws : List Value} {a b : List Int} (h : IntsAre vs a) (h2 : IntsAre ws b) : IntsAre (vs ++ ws) (a ++ b) := by
  induction h with
  | nil => exact h2
  | cons n t _ ih => exact .cons n t ih
theorem ints_drop {vs : List Value} {a : List Int} (h : IntsAre vs a) : ∀ k, IntsAre (vs.drop k) (a.drop k) := by
  induction h with
  | nil => intro k; rw [List.drop_nil, List.drop_nil]; exact .nil
  | cons n t h ih =>
    intro k
    cases k with
    | zero => exact .cons n t h
    | succ k => exact ih k
theorem ints_take {vs : List Value} {a : List Int} (h : IntsAre vs a) : ∀ k, IntsAre (vs.take k) (a.take k) := by
  induction h with
  | nil => intro k; rw [List.take_nil, List.take_nil]; exact .nil
  | cons n t h ih =>
    intro k
    cases k with
    | zero => exact .nil
    | succ k => exact .cons n t (ih k)
theorem ints_get {vs : List Value} {a : List Int} (h : IntsAre vs a) : ∀ {i : Nat} {n : Int}, a[i]? = some n → ∃ t, vs[i]? = some (.int n t) := by
  induction h with
  | nil => intro i n e; simp at e
  | cons m u _ ih =>
    intro i n e
    cases i with
    | zero => simp at e; subst e; exact ⟨u, rfl⟩
    | succ i => exact ih e
theorem ItemsAt.mono {led led' : Led} {its : List Item} {vs : List Value} (h : ∀ x ∈ led, x ∈ led') (x : ItemsAt led its vs) : ItemsAt led' its vs := ⟨x.1, fun i it v h1 h2 => (x.2 i it v h1 h2).mono h⟩
theorem ItemsAt.snoc {led : Led} {its : List Item} {vs : List Value} (x : ItemsAt led its vs) {it : Item} {v : Value} (h : ItemAt led it v) : ItemsAt led (its ++ [it]) (vs ++ [v]) := by
  refine ⟨by simp [x.1], fun i it' v' h1 h2 => ?_⟩
  by_cases hi : i < its.length
  · rw [List.getElem?_append_left hi] at h1
    rw [List.getElem?_append_left (by rw [x.1]; exact hi)] at h2
    exact x.2 i it' v' h1 h2
  · have hi2 : i = its.length := by
      have := (List.getElem?_eq_some_iff.mp h1).1
      rw [List.length_append, List.length_singleton] at this
      omega
    subst hi2
    rw [List.getElem?_append_right (Nat.le_refl _), Nat.sub_self] at h1
    rw [← x.1, List.getElem?_append_right (Nat.le_refl _), Nat.sub_self] at h2
    cases h1; cases h2; exact h
theorem lawA {w : World} {C : Cx} {L : Addr} (K : LawCx C L w) (ns : List Int) (sl : Addr) (svs : List Value) (hS : ∀ S, LAt C S sl svs) (hns : IntsAre svs ns) (hn : ns.length ≤ 63)
    (next : ∀ il ivs tn hv X, (il, Ct.list ivs) ∈ X → ItemsAt X (itemsOf ns) ivs → Tr C (execs (law.body.drop 3) C.env) LawQ (lawSt L (some (.ref sl)) (some (.ref il)) none none none none none none (some (.str (tx (nameOf (headOf ns))) tn)) none none none hv ((109, tab0) :: X))) :
    Tr C (execs law.body C.env) LawQ (lawSt L (some (.ref sl)) none none none none none none none none none none none none [(109, tab0)]) := by
  obtain ⟨hw, hd, hck, G, hin, hco, hq, hsc, hce⟩ := K
  replace hsc := scopeLit hsc
  unfold lawSt
  have hsl := ints_len hns
  refine Tr.execs_cons ?_
  refine Tr.assignN ?_
  refine Tr.subscr ?_
  refine Tr.binop ?_
  refine Tr.nameL (List.Mem.head _) ?_
  refine Tr.list ?_
  refine Tr.spl_cons ?_
  refine Tr.int ?_
  intro _
  refine Tr.spl_nil ?_
  refine Tr.newList (by first | decide | (simp only [List.length_cons, List.length_nil]; decide)) ?_
  intro _
  refine Tr.addL (hS _) (.inl (.head _)) (by rw [sizeLine_eq]; simp; omega) fun D => ?_
  refine Tr.int ?_
  intro _
  rename_i t0 _ _
  obtain ⟨u0, hu0⟩ := head_get hns t0
  refine Tr.item (.inl (.head _)) (by decide) (by decide) hu0 ?_
  refine Tr.storeC (.tail (.tail (.tail (.tail (.tail (.tail .head)))))) (by assumption) ?_
  refine Then_next ?_
  refine Tr.execs_cons ?_
  refine Tr.assignN (Tr.callM1 (pl := _) ?_ (by rfl))
  refine Tr.strT ([] : List Nat) (by decide +kernel) ?_
  intro _
  refine Tr.methS PySem.F.slot_str_join PySem.F.plainAttrs_str PySem.F.type_str_join ?_
  refine Tr.callW kept_builtin (Tr.spl_cons ?_)
  refine Tr.listComp [Str.ofString "k"] hck (by kernel_rfl) ?_
  refine Tr.callN ?_
  refine Tr.nameB (by assumption) (by decide +kernel) (Mine.b_range).1 (Mine.b_range).2.1 (Mine.b_range).2.2 ?_
  refine Tr.callW kept_type ?_
  refine Tr.spl_cons ?_
  refine Tr.binop ?_
  refine Tr.int ?_
  intro _
  refine Tr.binop ?_
  refine Tr.nameC (List.Mem.tail _ (List.Mem.tail _ (List.Mem.tail _ (List.Mem.tail _ (List.Mem.tail _ (List.Mem.tail _ (List.Mem.head _))))))) ?_
  refine Tr.int ?_
  intro _
  refine Tr.modI (by decide) ?_
  intro _
  refine Tr.addI ?_
  intro _
  refine Tr.spl_nil ?_
  refine Tr.range1 fun r => ?_
  have hf0 := Int.fmod_nonneg_of_pos (headOf ns) (b := 5) (by omega)
  have hf1 := Int.fmod_lt_of_pos (headOf ns) (b := 5) (by omega)
  have hN : nameN (headOf ns) ≤ 5 ∧ ((nameN (headOf ns) : Nat) : Int) = 1 + (headOf ns).fmod 5 := by unfold nameN; omega
  refine ⟨nameN (headOf ns), _, _, fun i ys led => (r, Ct.pred (RngO 0 (1 + (headOf ns).fmod 5) 1)) ∈ led ∧ (∃ X, Pick 109 tab0 led X) ∧ Lts ys ((List.range i).map fun k => let4 (((headOf ns).fdiv 5).fdiv ((4 ^ k : Nat) : Int))),
    ⟨src_range (by rw [rangeSize_one]; split <;> omega) (small_one (by omega) (by omega) (by omega) (by omega)), by rw [sizeLine_eq]; omega, by kernel_rfl, .inl ⟨_, _, rfl, by decide⟩, .inl (.head _), ⟨.head _, ⟨_, .tail (.tail (.tail .head))⟩, Txs.nil⟩, fun _ _ _ pre h => .inl (List.mem_append_right _ h.1), ?_⟩, ?_⟩
  · intro C' cx i ys led own v hin' hv hJ hown
    rw [own_nil hown]
    obtain ⟨hr, hpk, hy⟩ := hJ
    obtain ⟨u, rfl⟩ := hv
    have G' := glb_of cx [] (by kernel_rfl)
    rw [show (0 : Int) + (i : Int) * 1 = (i : Int) by omega]
    generalize hcap9 : capOf _ _ = cel9
    have ecap9 := Eq.trans (Eq.symm hcap9) (CapR.eq (.drop (by kernel_rfl) (.drop (by kernel_rfl) (.drop (by kernel_rfl) (.drop (by kernel_rfl) (.drop (by kernel_rfl) (.drop (by kernel_rfl) (.keep (by kernel_rfl) (.nil)))))))))
    clear hcap9
    subst ecap9
    change Tr _ _ _ _
    set_option simprocs false in (conv => arg 4; dsimp only [List.cons_append, List.nil_append, List.map_cons, List.map_nil])
    refine Tr.aName ?_
    set_option simprocs false in (conv => arg 4; dsimp only [List.cons_append, List.nil_append, List.map_cons, List.map_nil])
    refine Tr.storeL .head ?_
    refine Tst_nil ?_
    refine tr_iteT ?_
    refine Tr.subscr ?_
    refine Tr.strT ([97, 98, 99, 100] : List Nat) (by decide +kernel) ?_
    intro _
    refine Tr.binop ?_
    refine Tr.binop ?_
    refine Tr.binop ?_
    refine Tr.nameC (List.Mem.head _) ?_
    refine Tr.int ?_
    intro _
    refine Tr.divI (by decide) (by rfl) ?_
    intro _
    refine Tr.binop ?_
    refine Tr.int ?_
    intro _
    refine Tr.nameL (List.Mem.head _) ?_
    have hi5 : i < 5 := by omega
    refine Tr.pow4 hi5 fun t4 => ?_
    have hp : ∀ a, Builtin.divisionGoesByPylong a ((4 ^ i : Nat) : Int) = false := fun a => by
      have hc : i = 0 ∨ i = 1 ∨ i = 2 ∨ i = 3 ∨ i = 4 := by omega
      rcases hc with rfl | rfl | rfl | rfl | rfl <;> rfl
    refine Tr.divI (by have : 0 < 4 ^ i := Nat.pow_pos (by decide); omega) (hp _) ?_
    intro _
    refine Tr.int ?_
    intro _
    refine Tr.modI (by decide) ?_
    intro _
    refine Tr.abcd fun t5 => ?_
    refine ⟨⟨[], rfl, by kernel_rfl⟩, hr, hpk, ?_⟩
    rw [List.range_succ, List.map_append]
    exact hy.snoc _ _
  rintro D2 ys led ⟨hr, ⟨X, hpk⟩, hy⟩
  set_option simprocs false in (conv => arg 4; dsimp only [List.cons_append, List.nil_append, List.map_cons, List.map_nil])
  refine Tr.spl_nil ?_
  refine Tr.joinL (xs := (nameOf (headOf ns)).map fun c => [c]) (B := 1) (.inl (.head _)) hy (fun y hy' => ?_) (by simp only [List.length_map, nameOf, List.length_range, List.length_nil]; omega) ?_
  · obtain ⟨c, _, rfl⟩ := List.mem_map.mp hy'
    exact Nat.le_refl _
  rw [joinT_nil, show ((nameOf (headOf ns)).map fun c => [c]).flatten = nameOf (headOf ns) by induction nameOf (headOf ns) with | nil => rfl | cons a r ih => simp [ih]]
  intro _
  refine Tr.storeC (.tail (.tail .head)) (by assumption) ?_
  refine Then_next ?_
  refine Tr.execs_cons ?_
  refine Tr.assignComp [Str.ofString "x"] hck (by kernel_rfl) (by rw [swaps_scope (e' := envOf _) hsc]; rfl) ?_
  refine Tr.binop ?_
  refine Tr.sliceList ?_
  refine Tr.nameL (List.Mem.head _) ?_
  refine Tr.part_some ?_
  refine Tr.int ?_
  intro _
  refine Tr.part_some ?_
  refine Tr.int ?_
  intro _
  refine ⟨sl, svs, _, _, rfl, hS _, .int, .int, by rw [sizeLine_eq]; omega, fun b1 => ?_⟩
  rw [cut17]
  have hcl : ((svs.drop 1).take 6).length ≤ 6 := by rw [List.length_take]; omega
  change Tr _ _ _ _
  set_option simprocs false in (conv => arg 4; dsimp only [List.cons_append, List.nil_append, List.map_cons, List.map_nil])
  refine Tr.list ?_
  refine Tr.spl_cons ?_
  refine Tr.int ?_
  intro _
  refine Tr.spl_cons ?_
  refine Tr.int ?_
  intro _
  refine Tr.spl_cons ?_
  refine Tr.int ?_
  intro _
  refine Tr.spl_cons ?_
  refine Tr.int ?_
  intro _
  refine Tr.spl_cons ?_
  refine Tr.int ?_
  intro _
  refine Tr.spl_nil ?_
  refine Tr.newList (by first | decide | (simp only [List.length_cons, List.length_nil]; decide)) ?_
  intro _
  refine Mine.Tr.addL (.inl (List.Mem.tail _ (List.Mem.head _))) (.inl (List.Mem.head _)) (by (first | decide | assumption | (simp only [sizeLine_eq, List.length_append, List.length_cons, List.length_nil, List.length_map, List.length_range] at *; omega) | omega)) ?_
  intro _
  rename_i q1 q2 q3 q4 q5 b2 D3
  have hxs : IntsAre ((svs.drop 1).take 6 ++ [Value.int 8 q1, .int 42 q2, .int 167 q3, .int 2 q4, .int 9 q5]) (((ns.drop 1).take 6) ++ [8, 42, 167, 2, 9]) :=
    ints_app (ints_take (ints_drop hns 1) 6) (.cons _ _ (.cons _ _ (.cons _ _ (.cons _ _ (.cons _ _ .nil)))))
  have hxl := ints_len hxs
  have hil : (itemsOf ns).length = (((ns.drop 1).take 6) ++ [8, 42, 167, 2, 9] : List Int).length := by unfold itemsOf; rw [List.length_map]
  have hil2 : (((ns.drop 1).take 6) ++ [8, 42, 167, 2, 9] : List Int).length ≤ 11 := by simp only [List.length_append, List.length_take, List.length_cons, List.length_nil]; omega
  have hit : itemsOf ns = (((ns.drop 1).take 6) ++ [8, 42, 167, 2, 9] : List Int).map itemOf := rfl
  generalize hxv : (svs.drop 1).take 6 ++ [Value.int 8 q1, .int 42 q2, .int 167 q3, .int 2 q4, .int 9 q5] = xvs at *
  generalize hxn : (((ns.drop 1).take 6) ++ [8, 42, 167, 2, 9] : List Int) = xns at *
  refine ⟨xvs.length, _, _, fun i ys led => (D3, Ct.list xvs) ∈ led ∧ (∃ X, Pick 109 tab0 led X ∧ ItemsAt X ((itemsOf ns).take i) ys),
    ⟨src_list, by rw [sizeLine_eq]; omega, by kernel_rfl, .inl ⟨_, _, rfl, by decide⟩, .inl (.head _), ⟨.head _, ?_⟩, fun _ _ _ pre h => .inl (List.mem_append_right _ h.1), ?_⟩, ?_⟩
  · exact ⟨_, .tail (.tail (.tail (.tail hpk))), rfl, fun i it v h1 => by simp at h1⟩
  · intro C' cx i ys led own v hin' hv hJ hown
    rw [own_nil hown]
    obtain ⟨hr, X, hpk, hy⟩ := hJ
    have hi : i < xns.length := by omega
    obtain ⟨u, hu⟩ := ints_get hxs (List.getElem?_eq_getElem hi)
    have hv' : xvs[i]? = some v := hv
    rw [hv'] at hu
    cases Option.some.inj hu
    have G' := glb_of cx [Str.ofString "_law_item"] (by kernel_rfl)
    generalize hcap9 : capOf _ _ = cel9
    have ecap9 := Eq.trans (Eq.symm hcap9) (CapR.eq (.drop (by kernel_rfl) (.drop (by kernel_rfl) (.drop (by kernel_rfl) (.drop (by kernel_rfl) (.drop (by kernel_rfl) (.drop (by kernel_rfl) (.drop (by kernel_rfl) (.nil)))))))))
    clear hcap9
    subst ecap9
    change Tr _ _ _ _
    set_option simprocs false in (conv => arg 4; dsimp only [List.cons_append, List.nil_append, List.map_cons, List.map_nil])
    refine Tr.aName ?_
    set_option simprocs false in (conv => arg 4; dsimp only [List.cons_append, List.nil_append, List.map_cons, List.map_nil])
    refine Tr.storeL .head ?_
    refine Tst_nil ?_
    refine tr_iteT ?_
    refine Tr.callN ?_
    refine Tr.nameG (by assumption) (by decide +kernel) Mine.g__law_item ?_
    refine Tr.callW (kept_K (fun _ => rfl)) ?_
    refine Tr.spl_cons ?_
    refine Tr.nameL (List.Mem.head _) ?_
    refine Tr.spl_nil ?_
    refine Tr.call0 (d := 2) (by rw [cx.d, hd]; omega) (R := fun v new => ItemAt new (itemOf xns[i]) v) (fun s' ok' H => ?_) ?_
    · have hw' : C'.w = w := by rw [cx.w, hw]
      rw [hw']
      exact item_spec (hw' ▸ H.pre0 ok') _ _
    intro v new hnew
    refine ⟨⟨[], rfl, by kernel_rfl⟩, List.mem_append_right _ hr, _, Pick.app hpk new, ?_⟩
    have e : (itemsOf ns).take (i + 1) = (itemsOf ns).take i ++ [itemOf xns[i]] := by
      rw [List.take_succ_eq_append_getElem (by rw [hil]; exact hi)]
      congr 2
      simp [hit]
    rw [e]
    exact (hy.mono fun x hx => List.mem_append_right _ hx).snoc (hnew.mono fun x hx => List.mem_append_left _ hx)
  · rintro D4 ys led ⟨_, X, hpk, hy⟩
    refine ⟨_, .tail .head, ?_⟩
    refine Tr.perm (Pick.tail hpk).perm ?_
    rw [List.take_of_length_le (by omega)] at hy
    exact next D4 ys _ _ _ (.head _) (hy.mono fun x hx => .tail _ hx)
end Mine
end
section
open PySem PySem.W PySem.Calls PyProof PyProof.Rows PySem.Spec PyProof.V PySem.Builtin.Str
set_option linter.unusedVariables false
namespace Mine
def PartsAt (led : Led) (ps : List (Option (List Nat))) (vs : List Value) : Prop := vs.length = ps.length ∧ ∀ (i : Nat) (p : Option (List Nat)) (v : Value), ps[i]? = some p → vs[i]? = some v → PartAt led p v
theorem PartAt.mono {led led' : Led} {p : Option (List Nat)} {v : Value} (h : ∀ x ∈ led, x ∈ led') (x : PartAt led p v) : PartAt led' p v := by
  revert x
  unfold PartAt
  split
  · exact id
  · rintro ⟨b, t, e, hb⟩; exact ⟨b, t, e, h _ hb⟩
theorem PartsAt.mono {led led' : Led} {ps : List (Option (List Nat))} {vs : List Value} (h : ∀ x ∈ led, x ∈ led') (x : PartsAt led ps vs) : PartsAt led' ps vs := ⟨x.1, fun i p v h1 h2 => (x.2 i p v h1 h2).mono h⟩
theorem PartsAt.snoc {led : Led} {ps : List (Option (List Nat))} {vs : List Value} (x : PartsAt led ps vs) {p : Option (List Nat)} {v : Value} (h : PartAt led p v) : PartsAt led (ps ++ [p]) (vs ++ [v]) := by
  refine ⟨by simp [x.1], fun i it' v' h1 h2 => ?_⟩
  by_cases hi : i < ps.length
  · rw [List.getElem?_append_left hi] at h1
    rw [List.getElem?_append_left (by rw [x.1]; exact hi)] at h2
    exact x.2 i it' v' h1 h2
  · have hi2 : i = ps.length := by
      have := (List.getElem?_eq_some_iff.mp h1).1
      rw [List.length_append, List.length_singleton] at this
      omega
    subst hi2
    rw [List.getElem?_append_right (Nat.le_refl _), Nat.sub_self] at h1
    rw [← x.1, List.getElem?_append_right (Nat.le_refl _), Nat.sub_self] at h2
    cases h1; cases h2; exact h
theorem Txs.snoc {vs : List Value} {xs : List (List Nat)} (h : Txs vs xs) (x : List Nat) (t : Tok) : Txs (vs ++ [.str (tx x) t]) (xs ++ [x]) := by
  unfold Txs at *
  rw [List.map_append]
  exact strsAre_append h (.cons _ _ .nil)
theorem Holds.itemsH {C : Cx} {S : St} {s : Shared} (ok : C.Ok) (H : Holds C S s) {its : List Item} {vs : List Value} (x : ItemsAt S.led its vs) : ItemsH (hideAll s.heap (50 :: 50 :: [])) its vs := by
  refine ⟨x.1, fun i it v h1 h2 => ?_⟩
  obtain ⟨a, tt, mv, pv, e, g1, g2, g3⟩ := x.2 i it v h1 h2
  refine ⟨a, tt, mv, pv, e, H.lb ok (.inl g1), g2.imp id fun ⟨b, vs, e, hb, l⟩ => ⟨b, vs, e, H.lb ok (.inl hb), l⟩, ?_⟩
  revert g3
  cases it.part with
  | some l => exact id
  | none => rintro ⟨b, t, e, hb⟩; exact ⟨b, t, e, H.lb ok (.inl hb)⟩
theorem ItemsAt.ref {led : Led} {its : List Item} {vs : List Value} (x : ItemsAt led its vs) {i : Nat} {v : Value} (h : vs[i]? = some v) : ∃ a, v = .ref a := by
  have hl : i < its.length := by rw [← x.1]; exact (List.getElem?_eq_some_iff.mp h).1
  obtain ⟨a, _, _, _, e, _⟩ := x.2 i its[i] v (List.getElem?_eq_getElem hl) h
  exact ⟨a, e⟩
theorem take_snoc {α β : Type} (f : α → β) (l : List α) (i : Nat) (h : i < l.length) : (l.take (i + 1)).map f = (l.take i).map f ++ [f l[i]] := by
  rw [List.take_succ_eq_append_getElem h, List.map_append]; rfl
theorem perm3 {a b c : Addr} {x y z : Ct} {l l1 l2 l3 : Led} (p1 : Pick a x l l1) (p2 : Pick b y l1 l2) (p3 : Pick c z l2 l3) : l.Perm ((a, x) :: (b, y) :: (c, z) :: l3) :=
  p1.perm.trans ((p2.perm.trans (p3.perm.cons _)).cons _)
theorem lawB {w : World} {C : Cx} {L : Addr} (K : LawCx C L w) (its : List Item) (hN : its.length ≤ 11) (nm : List Nat) (hnm : nm.length ≤ 5) (sv hv : Option Value) (il : Addr) (ivs : List Value) (tn : Tok) (X : Led) (hil : (il, Ct.list ivs) ∈ X) (hits : ItemsAt X its ivs)
    (next : ∀ tl tvs pl pvs rg lft rgt tm mv lv fv Y, (tl, Ct.list tvs) ∈ Y → Txs tvs (its.map (·.text)) → (pl, Ct.list pvs) ∈ Y → PartsAt Y (its.map (·.part)) pvs → (rg, Ct.pred (RngO 0 ((its.length : Int) + 1) 1)) ∈ Y → 
      Tr C (execs (law.body.drop 5) C.env) LawQ (lawSt L sv (some (.ref il)) (some (.int ((metOf nm its).1 : Nat) tm)) mv lv fv (some (.ref tl)) (some (.ref rgt)) (some (.str (tx nm) tn)) (some (.ref lft)) (some (.ref rg)) (some (.ref pl)) hv ((lft, .list []) :: (rgt, .list []) :: (109, tab0) :: Y))) :
    Tr C (execs (law.body.drop 3) C.env) LawQ (lawSt L sv (some (.ref il)) none none none none none none (some (.str (tx nm) tn)) none none none hv ((109, tab0) :: X)) := by
  obtain ⟨hw, hd, hck, G, hin, hco, hq, hsc, hce⟩ := K
  replace hsc := scopeLit hsc
  unfold lawSt
  have hil2 := hits.1
  refine Tr.execs_cons ?_
  refine Mine.Tr.assignT (by assumption) ?_
  refine Tr.tuple ?_
  refine Tr.spl_cons ?_
  refine Tr.listComp [Str.ofString "text", Str.ofString "means", Str.ofString "part"] hck (by kernel_rfl) ?_
  refine Tr.nameL (List.Mem.tail _ (List.Mem.head _)) ?_
  refine ⟨ivs.length, _, _, fun i ys led => led = (109, tab0) :: X ∧ Txs ys ((its.take i).map (·.text)), ⟨src_list, by rw [sizeLine_eq]; omega, by kernel_rfl, .inr ⟨⟨_, _, _, rfl⟩, fun i x hx => ?_, rfl⟩, .inl (.tail _ hil), ⟨rfl, Txs.nil⟩, fun _ _ _ pre h => .inl (List.mem_append_right _ (by rw [h.1]; exact .tail _ hil)), ?_⟩, ?_⟩
  · exact hits.ref hx
  · intro C' cx i ys led own v hin' hv hJ hown
    rw [own_nil hown]
    obtain ⟨rfl, hy⟩ := hJ
    have hi : i < its.length := by omega
    obtain ⟨a, tt, mv, pv, rfl, ha, hmv, hpv⟩ := hits.2 i its[i] v (List.getElem?_eq_getElem hi) hv
    rw [take_snoc (fun it : Item => it.text) its i hi]
    have G' := glb_of cx [] (by kernel_rfl)
    generalize hcap9 : capOf _ _ = cel9
    have ecap9 := Eq.trans (Eq.symm hcap9) (CapR.eq (.drop (by kernel_rfl) (.drop (by kernel_rfl) (.drop (by kernel_rfl) (.drop (by kernel_rfl) (.drop (by kernel_rfl) (.drop (by kernel_rfl) (.drop (by kernel_rfl) (.nil)))))))))
    clear hcap9
    subst ecap9
    refine Tr.aList (vs := [.str (tx its[i].text) tt, mv, pv]) (.inl (.tail _ ha)) ?_
    set_option simprocs false in (conv => arg 4; dsimp only [List.cons_append, List.nil_append, List.map_cons, List.map_nil])
    refine Mine.Tr.aio_cons ?_
    set_option simprocs false in (conv => arg 4; dsimp only [List.cons_append, List.nil_append, List.map_cons, List.map_nil])
    refine Tr.aName ?_
    set_option simprocs false in (conv => arg 4; dsimp only [List.cons_append, List.nil_append, List.map_cons, List.map_nil])
    refine Tr.storeL .head ?_
    set_option simprocs false in (conv => arg 4; dsimp only [List.cons_append, List.nil_append, List.map_cons, List.map_nil])
    refine Mine.Tr.aio_cons ?_
    set_option simprocs false in (conv => arg 4; dsimp only [List.cons_append, List.nil_append, List.map_cons, List.map_nil])
    refine Tr.aName ?_
    set_option simprocs false in (conv => arg 4; dsimp only [List.cons_append, List.nil_append, List.map_cons, List.map_nil])
    refine Tr.storeL (.tail .head) ?_
    set_option simprocs false in (conv => arg 4; dsimp only [List.cons_append, List.nil_append, List.map_cons, List.map_nil])
    refine Mine.Tr.aio_cons ?_
    set_option simprocs false in (conv => arg 4; dsimp only [List.cons_append, List.nil_append, List.map_cons, List.map_nil])
    refine Tr.aName ?_
    set_option simprocs false in (conv => arg 4; dsimp only [List.cons_append, List.nil_append, List.map_cons, List.map_nil])
    refine Tr.storeL (.tail (.tail .head)) ?_
    refine Mine.Tr.aio_nil ?_
    refine Tst_nil ?_
    refine tr_iteT ?_
    refine Tr.nameL (List.Mem.head _) ?_
    exact ⟨⟨[], rfl, by kernel_rfl⟩, rfl, hy.snoc _ _⟩
  rintro D1 ys led ⟨rfl, hy⟩
  rw [List.take_of_length_le (by omega)] at hy
  set_option simprocs false in (conv => arg 4; dsimp only [List.cons_append, List.nil_append, List.map_cons, List.map_nil])
  refine Tr.spl_cons ?_
  refine Tr.listComp [Str.ofString "text", Str.ofString "means", Str.ofString "part"] hck (by kernel_rfl) ?_
  refine Tr.nameL (List.Mem.tail _ (List.Mem.head _)) ?_
  refine ⟨ivs.length, _, _, fun i ys2 led => led = (D1, Ct.list ys) :: (109, tab0) :: X ∧ PartsAt X ((its.take i).map (·.part)) ys2, ⟨src_list, by rw [sizeLine_eq]; omega, by kernel_rfl, .inr ⟨⟨_, _, _, rfl⟩, fun i x hx => hits.ref hx, rfl⟩, .inl (.tail _ (.tail _ hil)), ⟨rfl, rfl, fun i p v h => by simp at h⟩, fun _ _ _ pre h => .inl (List.mem_append_right _ (by rw [h.1]; exact .tail _ (.tail _ hil))), ?_⟩, ?_⟩
  · intro C' cx i ys2 led own v hin' hv hJ hown
    rw [own_nil hown]
    obtain ⟨rfl, hy2⟩ := hJ
    have hi : i < its.length := by omega
    obtain ⟨a, tt, mv, pv, rfl, ha, hmv, hpv⟩ := hits.2 i its[i] v (List.getElem?_eq_getElem hi) hv
    rw [take_snoc (fun it : Item => it.part) its i hi]
    have G' := glb_of cx [] (by kernel_rfl)
    generalize hcap9 : capOf _ _ = cel9
    have ecap9 := Eq.trans (Eq.symm hcap9) (CapR.eq (.drop (by kernel_rfl) (.drop (by kernel_rfl) (.drop (by kernel_rfl) (.drop (by kernel_rfl) (.drop (by kernel_rfl) (.drop (by kernel_rfl) (.drop (by kernel_rfl) (.nil)))))))))
    clear hcap9
    subst ecap9
    refine Tr.aList (vs := [.str (tx its[i].text) tt, mv, pv]) (.inl (.tail _ (.tail _ ha))) ?_
    set_option simprocs false in (conv => arg 4; dsimp only [List.cons_append, List.nil_append, List.map_cons, List.map_nil])
    refine Mine.Tr.aio_cons ?_
    set_option simprocs false in (conv => arg 4; dsimp only [List.cons_append, List.nil_append, List.map_cons, List.map_nil])
    refine Tr.aName ?_
    set_option simprocs false in (conv => arg 4; dsimp only [List.cons_append, List.nil_append, List.map_cons, List.map_nil])
    refine Tr.storeL .head ?_
    set_option simprocs false in (conv => arg 4; dsimp only [List.cons_append, List.nil_append, List.map_cons, List.map_nil])
    refine Mine.Tr.aio_cons ?_
    set_option simprocs false in (conv => arg 4; dsimp only [List.cons_append, List.nil_append, List.map_cons, List.map_nil])
    refine Tr.aName ?_
    set_option simprocs false in (conv => arg 4; dsimp only [List.cons_append, List.nil_append, List.map_cons, List.map_nil])
    refine Tr.storeL (.tail .head) ?_
    set_option simprocs false in (conv => arg 4; dsimp only [List.cons_append, List.nil_append, List.map_cons, List.map_nil])
    refine Mine.Tr.aio_cons ?_
    set_option simprocs false in (conv => arg 4; dsimp only [List.cons_append, List.nil_append, List.map_cons, List.map_nil])
    refine Tr.aName ?_
    set_option simprocs false in (conv => arg 4; dsimp only [List.cons_append, List.nil_append, List.map_cons, List.map_nil])
    refine Tr.storeL (.tail (.tail .head)) ?_
    refine Mine.Tr.aio_nil ?_
    refine Tst_nil ?_
    refine tr_iteT ?_
    refine Tr.nameL (List.Mem.tail _ (List.Mem.tail _ (List.Mem.head _))) ?_
    exact ⟨⟨[], rfl, by kernel_rfl⟩, rfl, hy2.snoc hpv⟩
  rintro D2 ys2 led ⟨rfl, hy2⟩
  rw [List.take_of_length_le (by omega)] at hy2
  set_option simprocs false in (conv => arg 4; dsimp only [List.cons_append, List.nil_append, List.map_cons, List.map_nil])
  refine Tr.spl_nil ?_
  refine Tr.newTuple (by first | decide | (simp only [List.length_cons, List.length_nil]; decide)) ?_
  intro _
  refine Mine.Tr.aTup (.inl (List.Mem.head _)) ?_
  refine Mine.Tr.aio_cons ?_
  refine Tr.aName ?_
  refine Tr.storeC .head (by assumption) ?_
  refine Mine.Tr.aio_cons ?_
  refine Tr.aName ?_
  refine Tr.storeC (.tail (.tail (.tail (.tail (.tail .head))))) (by assumption) ?_
  refine Mine.Tr.aio_nil ?_
  refine Then_next ?_
  refine Tr.execs_cons ?_
  refine Mine.Tr.assignT (by assumption) ?_
  refine Tr.tuple ?_
  refine Tr.spl_cons ?_
  refine Tr.callN ?_
  refine Tr.nameB (by assumption) (by decide +kernel) (Mine.b_range).1 (Mine.b_range).2.1 (Mine.b_range).2.2 ?_
  refine Tr.callW kept_type ?_
  refine Tr.spl_cons ?_
  refine Tr.binop ?_
  refine Tr.callN ?_
  refine Tr.nameB (by assumption) (by decide +kernel) (Mine.b_len).1 (Mine.b_len).2.1 (Mine.b_len).2.2 ?_
  refine Tr.callW kept_builtin ?_
  refine Tr.spl_cons ?_
  refine Tr.nameL (List.Mem.tail _ (List.Mem.head _)) ?_
  refine Tr.spl_nil ?_
  refine Tr.lenList (.inl (.tail _ (.tail _ (.tail _ (.tail _ hil))))) (by omega) ?_
  rw [hil2]
  intro _
  refine Tr.int ?_
  intro _
  refine Tr.addI ?_
  intro _
  refine Tr.spl_nil ?_
  refine Tr.range1 fun rg => ?_
  refine Tr.spl_cons ?_
  refine Tr.list ?_
  refine Tr.spl_nil ?_
  refine Tr.newList (by first | decide | (simp only [List.length_cons, List.length_nil]; decide)) ?_
  intro _
  refine Tr.spl_cons ?_
  refine Tr.list ?_
  refine Tr.spl_nil ?_
  refine Tr.newList (by first | decide | (simp only [List.length_cons, List.length_nil]; decide)) ?_
  intro _
  refine Tr.spl_cons ?_
  refine Tr.callN ?_
  refine Tr.nameG (by assumption) (by decide +kernel) Mine.g__law_met ?_
  refine Tr.callW (kept_K (fun _ => rfl)) ?_
  refine Tr.spl_cons ?_
  refine Tr.nameC (List.Mem.tail _ (List.Mem.tail _ (List.Mem.head _))) ?_
  refine Tr.spl_cons ?_
  refine Tr.nameL (List.Mem.tail _ (List.Mem.head _)) ?_
  refine Tr.spl_nil ?_
  rename_i lft rgt
  refine Tr.call0 (d := 3) (by rw [hd]; omega) (R := fun v new => ∃ t, v = .int ((metOf nm its).1 : Nat) t) (fun s' ok' H => ?_) ?_
  · rw [hw]
    exact met_spec (hw ▸ H.pre0 ok') nm _ il ivs its (by omega) (H.lb ok' (.inl (.tail _ (.tail _ (.tail _ (.tail _ (.tail _ (.tail _ (.tail _ hil))))))))) (H.itemsH ok' (hits.mono fun x hx => .tail _ (.tail _ (.tail _ (.tail _ (.tail _ (.tail _ (.tail _ hx)))))))) (by omega)
  rintro v new ⟨tm, rfl⟩
  refine Tr.spl_nil ?_
  refine Tr.newTuple (by first | decide | (simp only [List.length_cons, List.length_nil]; decide)) ?_
  intro _
  refine Mine.Tr.aTup (.inl (List.Mem.head _)) ?_
  refine Mine.Tr.aio_cons ?_
  refine Tr.aName ?_
  refine Tr.storeC (.tail (.tail (.tail (.tail .head)))) (by assumption) ?_
  refine Mine.Tr.aio_cons ?_
  refine Tr.aName ?_
  refine Tr.storeC (.tail (.tail (.tail .head))) (by assumption) ?_
  refine Mine.Tr.aio_cons ?_
  refine Tr.aName ?_
  refine Tr.storeC (.tail .head) (by assumption) ?_
  refine Mine.Tr.aio_cons ?_
  refine Tr.aName ?_
  refine Tr.storeL (.tail (.tail .head)) ?_
  refine Mine.Tr.aio_nil ?_
  refine Then_next ?_
  refine Tr.perm (perm3 (.tail (Pick.app (.tail .head) new)) (.tail (Pick.app .head new)) (.tail (Pick.app (.tail (.tail (.tail (.tail .head)))) new))) ?_
  refine next D1 ys D2 ys2 rg lft rgt tm none none none _ ?_ hy ?_ ?_ ?_
  · exact .tail _ (List.mem_append_right _ (.tail _ (.tail _ (.tail _ (.head _)))))
  · exact .tail _ (List.mem_append_right _ (.tail _ (.tail _ (.head _))))
  · exact hy2.mono fun x hx => .tail _ (List.mem_append_right _ (.tail _ (.tail _ (.tail _ (.tail _ hx)))))
  · exact .tail _ (List.mem_append_right _ (.head _))
end Mine
end
section
open PySem PySem.W PySem.Calls PyProof PyProof.Rows PySem.Spec PyProof.V PySem.Builtin.Str
set_option linter.unusedVariables false
namespace Mine
open PySem.SeqAt
def pressedOf (ps : List (Option (List Nat))) : List (Option (List Nat)) := ((List.range ps.length).filter (keepAt ps)).map fun k => ps.getD k (some [])
theorem getD_app_left {α : Type} (a b : List α) (k : Nat) (d : α) (h : k < a.length) : (a ++ b).getD k d = a.getD k d := by
  rw [List.getD_eq_getElem?_getD, List.getD_eq_getElem?_getD, List.getElem?_append_left h]
theorem getD_snoc {α : Type} (a : List α) (x d : α) : (a ++ [x]).getD a.length d = x := by
  rw [List.getD_eq_getElem?_getD, List.getElem?_append_right (Nat.le_refl _), Nat.sub_self]; rfl
theorem pressed_snoc (ps : List (Option (List Nat))) (p : Option (List Nat)) : pressedOf (ps ++ [p]) = pressedOf ps ++ (if keepAt (ps ++ [p]) ps.length then [p] else []) := by
  unfold pressedOf
  rw [List.length_append, List.length_singleton, List.range_succ, List.filter_append, List.map_append]
  congr 1
  · have e1 : (List.range ps.length).filter (keepAt (ps ++ [p])) = (List.range ps.length).filter (keepAt ps) := by
      refine List.filter_congr fun k hk => ?_
      have hk := List.mem_range.mp hk
      unfold keepAt
      rw [getD_app_left _ _ _ _ hk, getD_app_left _ _ _ _ (by omega)]
    rw [e1]
    refine List.map_congr_left fun k hk => ?_
    have hk := List.mem_range.mp (List.mem_filter.mp hk).1
    exact getD_app_left _ _ _ _ hk
  · rw [List.filter_cons, List.filter_nil]
    split
    · rw [List.map_singleton, getD_snoc]
    · rfl
theorem keep_snoc (ps : List (Option (List Nat))) (p : Option (List Nat)) : keepAt (ps ++ [p]) ps.length = !(decide (ps.getLast? = some none) && decide (p = none)) := by
  unfold keepAt
  rw [getD_snoc]
  cases hl : ps.length with
  | zero =>
    have : ps = [] := List.length_eq_zero_iff.mp hl
    subst this
    simp
  | succ n =>
    rw [← hl, getD_app_left _ _ _ _ (by omega)]
    have e : ps.getLast? = some (ps.getD (ps.length - 1) (some [])) := by
      rw [List.getLast?_eq_getElem?, List.getD_eq_getElem?_getD, List.getElem?_eq_getElem (by omega)]; rfl
    rw [e]
    have h0 : decide (ps.length = 0) = false := decide_eq_false (by omega)
    rw [h0, Bool.false_or]
    congr 2
    simp
theorem tr_last (its : List Item) : (trOf its).getLast? = (its.map (·.part)).getLast? ∧ trOf its = pressedOf (its.map (·.part)) := by
  have key : ∀ n, ∀ its : List Item, its.length = n → (trOf its).getLast? = (its.map (·.part)).getLast? ∧ trOf its = pressedOf (its.map (·.part)) := by
    intro n
    induction n with
    | zero =>
      intro its h
      have : its = [] := List.length_eq_zero_iff.mp h
      subst this
      exact ⟨rfl, rfl⟩
    | succ n ih =>
      intro its h
      have hne : its ≠ [] := fun e => by subst e; cases h
      obtain ⟨a, b, rfl⟩ : ∃ a b, its = a ++ [b] := ⟨its.dropLast, its.getLast hne, (List.dropLast_concat_getLast hne).symm⟩
      obtain ⟨h1, h2⟩ := ih a (by simpa using h)
      rw [trOf_snoc, List.map_append, List.map_singleton, pressed_snoc, keep_snoc, List.getLast?_concat, ← h1, ← h2]
      unfold trStep1
      cases hp : b.part with
      | some l => simp
      | none =>
        by_cases q : (trOf a).getLast? = some none
        · simp [q]
        · simp [q]
  exact key _ its rfl
theorem TPs.parts {star : Addr} {t : Tok} {led : Led} (hs : (star, Ct.list [.str (tx [42]) t]) ∈ led) {us : List Value} {ps : List (Option (List Nat))} (h : TPs star us ps) : PartsAt led ps us := by
  refine ⟨h.length, fun i p v hp hv => ?_⟩
  rcases h.get hp with ⟨l, u, rfl, e⟩ | ⟨rfl, e⟩
  · rw [hv] at e; cases e; exact ⟨u, rfl⟩
  · rw [hv] at e; cases e; exact ⟨star, t, rfl, hs⟩
theorem PartsAt.pressed {led : Led} {ps : List (Option (List Nat))} {vs : List Value} (h : PartsAt led ps vs) : PartsAt led (pressedOf ps) (((List.range ps.length).filter (keepAt ps)).map fun k => vs.getD k .none) := by
  refine ⟨by unfold pressedOf; simp, fun i p v hp hv => ?_⟩
  unfold pressedOf at hp
  rw [List.getElem?_map] at hp hv
  cases hk : ((List.range ps.length).filter (keepAt ps))[i]? with
  | none => rw [hk] at hp; cases hp
  | some k =>
    rw [hk] at hp hv
    have hk2 := List.mem_range.mp (List.mem_filter.mp (List.mem_of_getElem? hk)).1
    have e1 : ps.getD k (some []) = p := Option.some.inj hp
    have e2 : vs.getD k .none = v := Option.some.inj hv
    refine h.2 k p v ?_ ?_
    · rw [← e1, List.getD_eq_getElem?_getD, List.getElem?_eq_getElem hk2]; rfl
    · rw [← e2, List.getD_eq_getElem?_getD, List.getElem?_eq_getElem (by rw [h.1]; exact hk2)]; rfl
theorem Holds.partsH {C : Cx} {S : St} {s : Shared} (ok : C.Ok) (H : Holds C S s) {ps : List (Option (List Nat))} {vs : List Value} (x : PartsAt S.led ps vs) : PartsH (hideAll s.heap (50 :: 50 :: [])) ps vs := by
  refine ⟨x.1, fun i hi => ?_⟩
  have h := x.2 i (ps.getD i (some [])) (vs.getD i .none) (by rw [List.getD_eq_getElem?_getD, List.getElem?_eq_getElem hi]; rfl) (by rw [List.getD_eq_getElem?_getD, List.getElem?_eq_getElem (by rw [x.1]; exact hi)]; rfl)
  revert h
  generalize ps.getD i (some []) = p
  generalize vs.getD i .none = v
  cases p with
  | some l => exact id
  | none => rintro ⟨b, t, e, hb⟩; exact ⟨b, t, e, H.lb ok (.inl hb)⟩
theorem eq_part {C : Cx} {S : St} {s : Shared} (H : Holds C S s) {A : Around} {p : Option (List Nat)} {v w : Value} (h1 : PartAt S.led p v) (h2 : PartAt S.led p w) (hu : A.units + 1 < cLine) : EqAt A s v w true := by
  cases p with
  | some l =>
    obtain ⟨t, rfl⟩ := h1
    obtain ⟨u, rfl⟩ := h2
    have := EqAt.str_str (A := A) (s := s) (tx l) t (tx l) u
    rwa [show (tx l == tx l) = true by simp] at this
  | none =>
    obtain ⟨a, t, rfl, ha⟩ := h1
    obtain ⟨b, u, rfl, hb⟩ := h2
    refine eq_lists (LAt.is (.inl ha) H) (LAt.is (.inl hb) H) rfl (by omega) fun j x y hx hy => ?_
    cases j with
    | zero =>
      cases hx; cases hy
      have := EqAt.str_str (A := A.in1) (s := s) (tx [42]) t (tx [42]) u
      rwa [show (tx [42] == tx [42]) = true by simp] at this
    | succ j => simp at hx
theorem eq_parts {C : Cx} {S : St} {s : Shared} (H : Holds C S s) {A : Around} {ps : List (Option (List Nat))} {vs ws : List Value} {a b : Addr} (ha : (a, Ct.list vs) ∈ S.led) (hb : (b, Ct.list ws) ∈ S.led) (h1 : PartsAt S.led ps vs) (h2 : PartsAt S.led ps ws) (hu : A.units + 2 < cLine) : EqAt A s (.ref a) (.ref b) true := by
  refine eq_lists (LAt.is (.inl ha) H) (LAt.is (.inl hb) H) (by rw [h1.1, h2.1]) (by omega) fun j x y hx hy => ?_
  have hj : j < ps.length := by rw [← h1.1]; exact (List.getElem?_eq_some_iff.mp hx).1
  exact eq_part H (h1.2 j ps[j] x (List.getElem?_eq_getElem hj) hx) (h2.2 j ps[j] y (List.getElem?_eq_getElem hj) hy) (by show A.units + 1 + 1 < _; omega)
/-- lists of parts -/
def ListsAt (led : Led) (f : Nat → List (Option (List Nat))) (n : Nat) (ys : List Value) : Prop := ys.length = n ∧ ∀ j v, ys[j]? = some v → ∃ D us, v = .ref D ∧ (D, Ct.list us) ∈ led ∧ PartsAt led (f j) us
theorem ListsAt.mono {led led' : Led} {f : Nat → List (Option (List Nat))} {n : Nat} {ys : List Value} (h : ∀ x ∈ led, x ∈ led') (x : ListsAt led f n ys) : ListsAt led' f n ys :=
  ⟨x.1, fun j v e => let ⟨D, us, e1, e2, e3⟩ := x.2 j v e; ⟨D, us, e1, h _ e2, e3.mono h⟩⟩
theorem ListsAt.snoc {led : Led} {f : Nat → List (Option (List Nat))} {n : Nat} {ys : List Value} (x : ListsAt led f n ys) {D : Addr} {us : List Value} (h1 : (D, Ct.list us) ∈ led) (h2 : PartsAt led (f n) us) : ListsAt led f (n + 1) (ys ++ [.ref D]) := by
  refine ⟨by simp [x.1], fun j v e => ?_⟩
  by_cases hj : j < ys.length
  · rw [List.getElem?_append_left hj] at e; exact x.2 j v e
  · have : j = ys.length := by have := (List.getElem?_eq_some_iff.mp e).1; rw [List.length_append, List.length_singleton] at this; omega
    subst this
    rw [List.getElem?_append_right (Nat.le_refl _), Nat.sub_self] at e
    cases e
    exact ⟨D, us, rfl, h1, by rw [x.1]; exact h2⟩
end Mine
end
section
open PySem PySem.W PySem.Calls PyProof PyProof.Rows PySem.Spec PyProof.V PySem.Builtin.Str
set_option linter.unusedVariables false
namespace Mine
def headsOf (its : List Item) (j : Nat) : List (Option (List Nat)) := trOf (its.take j ++ [itemOf 8])
theorem PartsAt.take {led : Led} {ps : List (Option (List Nat))} {vs : List Value} (x : PartsAt led ps vs) (k : Nat) : PartsAt led (ps.take k) (vs.take k) := by
  refine ⟨by simp [x.1], fun i p v h1 h2 => ?_⟩
  rw [List.getElem?_take] at h1 h2
  split at h1
  · rename_i hk
    rw [if_pos hk] at h2
    exact x.2 i p v h1 h2
  · cases h1
theorem lawC {w : World} {C : Cx} {L : Addr} (K : LawCx C L w) (its : List Item) (hsh : ∀ it ∈ its, Shape it) (hN : its.length ≤ 11) (nm : List Nat) (hnm : nm.length ≤ 5) (sv hv mv lv fv : Option Value) (il : Addr) (tn tm : Tok) (met : Int)
    (tl : Addr) (tvs : List Value) (pl : Addr) (pvs : List Value) (rg lft rgt : Addr) (Y : Led) (htl : (tl, Ct.list tvs) ∈ Y) (htv : Txs tvs (its.map (·.text))) (hpl : (pl, Ct.list pvs) ∈ Y) (hpv : PartsAt Y (its.map (·.part)) pvs) (hrg : (rg, Ct.pred (RngO 0 ((its.length : Int) + 1) 1)) ∈ Y)
    (next : Tr C (execs (law.body.drop 6) C.env) LawQ (lawSt L sv (some (.ref il)) (some (.int met tm)) mv lv fv (some (.ref tl)) (some (.ref rgt)) (some (.str (tx nm) tn)) (some (.ref lft)) (some (.ref rg)) (some (.ref pl)) hv ((lft, .list []) :: (rgt, .list []) :: (109, tab0) :: Y))) :
      Tr C (execs (law.body.drop 5) C.env) LawQ (lawSt L sv (some (.ref il)) (some (.int met tm)) mv lv fv (some (.ref tl)) (some (.ref rgt)) (some (.str (tx nm) tn)) (some (.ref lft)) (some (.ref rg)) (some (.ref pl)) hv ((lft, .list []) :: (rgt, .list []) :: (109, tab0) :: Y)) := by
  obtain ⟨hw, hd, hck, G, hin, hco, hq, hsc, hce⟩ := K
  replace hsc := scopeLit hsc
  have hN1 : (((its.length + 1 : Nat)) : Int) = (its.length : Int) + 1 := by push_cast; rfl
  have hsrc : Src C (.ref rg) (its.length + 1) (fun i v => ∃ t, v = .int (0 + i * 1) t) (fun led => RAtL C led rg 0 ((its.length : Int) + 1) 1) := src_range (by rw [rangeSize_one]; split <;> omega) (small_one (by omega) (by omega) (by omega) (by omega))
  have htvl : tvs.length = its.length := by rw [htv.length, List.length_map]
  have hpvl : pvs.length = its.length := by rw [hpv.1, List.length_map]
  generalize hled0 : (lft, Ct.list []) :: (rgt, Ct.list []) :: (109, tab0) :: Y = led0 at *
  have hY : ∀ x ∈ Y, x ∈ led0 := fun x hx => by rw [← hled0]; exact .tail _ (.tail _ (.tail _ hx))
  have hshT : ∀ j, ∀ it ∈ its.take j ++ [itemOf 8], Shape it := fun j it h => by
    rcases List.mem_append.mp h with h | h
    · exact hsh it (List.mem_of_mem_take h)
    · rw [List.mem_singleton] at h; subst h; exact shape_of 8
  unfold lawSt at *
  refine Tr.execs_cons ?_
  refine Tr.ifS ?_
  refine Tr.isCmp1 ?_
  refine Tr.listComp [Str.ofString "many"] hck (by kernel_rfl) ?_
  refine Tr.nameC (List.Mem.tail _ (List.Mem.tail _ (List.Mem.tail _ (List.Mem.tail _ (List.Mem.head _))))) ?_
  refine ⟨its.length + 1, _, _, fun i ys led => ∃ new, led = new ++ led0 ∧ ListsAt led (headsOf its) i ys, ⟨hsrc, by rw [sizeLine_eq]; omega, by kernel_rfl, .inl ⟨_, _, rfl, by decide⟩, .inl (hY _ hrg), ⟨[], rfl, rfl, fun j v e => by simp at e⟩, fun _ _ _ pre h => ?_, ?_⟩, ?_⟩
  · obtain ⟨new, h, _⟩ := h
    exact .inl (by rw [h]; exact List.mem_append_right _ (List.mem_append_right _ (hY _ hrg)))
  · intro C' cx i ys led own v hin' hv hJ hown
    rw [own_nil hown]
    obtain ⟨new, rfl, hy⟩ := hJ
    obtain ⟨u, rfl⟩ := hv
    have G' := glb_of cx [Str.ofString "_translate"] (by kernel_rfl)
    rw [show (0 : Int) + (i : Int) * 1 = (i : Int) by omega]
    have hT : (tl, Ct.list tvs) ∈ new ++ led0 := List.mem_append_right _ (hY _ htl)
    generalize hcap9 : capOf _ _ = cel9
    have ecap9 := Eq.trans (Eq.symm hcap9) (CapR.eq (.keep (by kernel_rfl) (.drop (by kernel_rfl) (.drop (by kernel_rfl) (.drop (by kernel_rfl) (.drop (by kernel_rfl) (.drop (by kernel_rfl) (.drop (by kernel_rfl) (.nil)))))))))
    clear hcap9
    subst ecap9
    change Tr _ _ _ _
    set_option simprocs false in (conv => arg 4; dsimp only [List.cons_append, List.nil_append, List.map_cons, List.map_nil])
    refine Tr.aName ?_
    set_option simprocs false in (conv => arg 4; dsimp only [List.cons_append, List.nil_append, List.map_cons, List.map_nil])
    refine Tr.storeL .head ?_
    refine Tst_nil ?_
    refine tr_iteT ?_
    refine Tr.callN ?_
    refine Tr.nameG (by assumption) (by decide +kernel) Mine.g__translate ?_
    refine Tr.callW (kept_K (fun _ => rfl)) ?_
    refine Tr.spl_cons ?_
    refine Tr.binop ?_
    refine Tr.callM1 (pl := _) ?_ (by rfl)
    refine Tr.strT ([] : List Nat) (by decide +kernel) ?_
    intro _
    refine Tr.methS PySem.F.slot_str_join PySem.F.plainAttrs_str PySem.F.type_str_join ?_
    refine Tr.callW kept_builtin ?_
    refine Tr.spl_cons ?_
    refine Tr.sliceList ?_
    refine Tr.nameC (List.Mem.head _) ?_
    refine Tr.part_none ?_
    refine Tr.part_some ?_
    refine Tr.nameL (List.Mem.head _) ?_
    refine ⟨tl, tvs, none, some _, rfl, .inl hT, .none, .int, by rw [sizeLine_eq]; omega, fun b2 => ?_⟩
    set_option simprocs false in (conv => arg 4; dsimp only [List.cons_append, List.nil_append, List.map_cons, List.map_nil])
    refine Tr.spl_nil ?_
    refine Tr.joinL (xs := (its.take i).map (·.text)) (B := 7) (.inl (.head _)) (by rw [cut_take _ _ (by omega), List.map_take]; exact txs_take htv i) (fun y hy => ?_) (by simp only [List.length_map, List.length_take, List.length_nil]; omega) ?_
    · obtain ⟨it, hit, rfl⟩ := List.mem_map.mp hy
      exact (shape_len (hsh it (List.mem_of_mem_take hit))).2
    rw [joinT_nil]
    have hpl : ((its.take i).map (·.text)).flatten.length ≤ 105 := by
      have := texts_len (its := its.take i) (fun it h => hsh it (List.mem_of_mem_take h))
      unfold texts at this
      rw [List.length_take] at this; omega
    intro _
    refine Tr.strT ([42] : List Nat) (by decide +kernel) ?_
    intro _
    refine Mine.Tr.addS (by (first | decide | assumption | (simp only [sizeLine_eq, List.length_append, List.length_cons, List.length_nil, List.length_map, List.length_range] at *; omega) | omega)) ?_
    intro _
    refine Tr.spl_cons ?_
    refine Tr.list ?_
    refine Tr.spl_cons ?_
    refine Tr.strT ([42] : List Nat) (by decide +kernel) ?_
    intro _
    refine Tr.spl_nil ?_
    refine Tr.newList (by first | decide | (simp only [List.length_cons, List.length_nil]; decide)) ?_
    intro _
    refine Tr.spl_cons ?_
    refine Tr.strT ([46] : List Nat) (by decide +kernel) ?_
    intro _
    refine Tr.spl_nil ?_
    rename_i t42 starA tq2
    have htx : ((its.take i).map (·.text)).flatten ++ [42] = texts (its.take i ++ [itemOf 8]) := by
      rw [texts_app, star8]; unfold texts; simp
    rw [htx]
    have hlT : (its.take i ++ [itemOf 8]).length ≤ 16 := by simp only [List.length_append, List.length_take, List.length_singleton]; omega
    refine Tr.call0 (d := 3) (by rw [cx.d, hd]; omega) (R := fun v new => ∃ D us, v = .ref D ∧ (D, Ct.list us) ∈ new ∧ TPs starA us (trOf (its.take i ++ [itemOf 8]))) (fun s' ok' H => ?_) ?_
    · have hw' : C'.w = w := by rw [cx.w, hw]
      rw [hw']
      exact trans_spec (hw' ▸ H.pre0 ok') _ (hshT i) (by omega) starA _ _
    rintro v new2 ⟨Dl, dvs, rfl, hDl, hdv⟩
    refine ⟨⟨[], rfl, by kernel_rfl⟩, new2 ++ ((starA, Ct.list [.str (tx [42]) t42]) :: (b2, Ct.list (cut none (some (i : Int)) tvs)) :: new), by simp, ?_⟩
    refine (hy.mono fun x hx => List.mem_append_right _ (.tail _ (.tail _ hx))).snoc (List.mem_append_left _ hDl) ?_
    exact TPs.parts (List.mem_append_right _ (.head _)) hdv
  rintro D1 ys1 led ⟨new1, rfl, hy1⟩
  set_option simprocs false in (conv => arg 4; dsimp only [List.cons_append, List.nil_append, List.map_cons, List.map_nil])
  refine Tr.listComp [Str.ofString "many"] hck (by kernel_rfl) ?_
  refine Tr.nameC (List.Mem.tail _ (List.Mem.tail _ (List.Mem.tail _ (List.Mem.tail _ (List.Mem.head _))))) ?_
  refine ⟨its.length + 1, _, _, fun i ys led => ∃ new, led = new ++ ((D1, Ct.list ys1) :: (new1 ++ led0)) ∧ ListsAt led (headsOf its) i ys, ⟨hsrc, by rw [sizeLine_eq]; omega, by kernel_rfl, .inl ⟨_, _, rfl, by decide⟩, .inl (.tail _ (List.mem_append_right _ (hY _ hrg))), ⟨[], rfl, rfl, fun j v e => by simp at e⟩, fun _ _ _ pre h => ?_, ?_⟩, ?_⟩
  · obtain ⟨new, h, _⟩ := h
    exact .inl (by rw [h]; exact List.mem_append_right _ (List.mem_append_right _ (.tail _ (List.mem_append_right _ (hY _ hrg)))))
  · intro C' cx i ys led own v hin' hv hJ hown
    rw [own_nil hown]
    obtain ⟨new, rfl, hy⟩ := hJ
    obtain ⟨u, rfl⟩ := hv
    have G' := glb_of cx [Str.ofString "_law_pressed"] (by kernel_rfl)
    rw [show (0 : Int) + (i : Int) * 1 = (i : Int) by omega]
    have hP : (pl, Ct.list pvs) ∈ new ++ ((D1, Ct.list ys1) :: (new1 ++ led0)) := List.mem_append_right _ (.tail _ (List.mem_append_right _ (hY _ hpl)))
    have hcl : (cut none (some (i : Int)) pvs).length ≤ 11 := by rw [cut_take _ _ (by omega), List.length_take]; omega
    generalize hcap9 : capOf _ _ = cel9
    have ecap9 := Eq.trans (Eq.symm hcap9) (CapR.eq (.drop (by kernel_rfl) (.drop (by kernel_rfl) (.drop (by kernel_rfl) (.drop (by kernel_rfl) (.drop (by kernel_rfl) (.keep (by kernel_rfl) (.drop (by kernel_rfl) (.nil)))))))))
    clear hcap9
    subst ecap9
    change Tr _ _ _ _
    set_option simprocs false in (conv => arg 4; dsimp only [List.cons_append, List.nil_append, List.map_cons, List.map_nil])
    refine Tr.aName ?_
    set_option simprocs false in (conv => arg 4; dsimp only [List.cons_append, List.nil_append, List.map_cons, List.map_nil])
    refine Tr.storeL .head ?_
    refine Tst_nil ?_
    refine tr_iteT ?_
    refine Tr.callN ?_
    refine Tr.nameG (by assumption) (by decide +kernel) Mine.g__law_pressed ?_
    refine Tr.callW (kept_K (fun _ => rfl)) ?_
    refine Tr.spl_cons ?_
    refine Tr.binop ?_
    refine Tr.sliceList ?_
    refine Tr.nameC (List.Mem.head _) ?_
    refine Tr.part_none ?_
    refine Tr.part_some ?_
    refine Tr.nameL (List.Mem.head _) ?_
    refine ⟨pl, pvs, none, some _, rfl, .inl hP, .none, .int, by rw [sizeLine_eq]; omega, fun b2 => ?_⟩
    set_option simprocs false in (conv => arg 4; dsimp only [List.cons_append, List.nil_append, List.map_cons, List.map_nil])
    refine Tr.list ?_
    refine Tr.spl_cons ?_
    refine Tr.list ?_
    refine Tr.spl_cons ?_
    refine Tr.strT ([42] : List Nat) (by decide +kernel) ?_
    intro _
    refine Tr.spl_nil ?_
    refine Tr.newList (by first | decide | (simp only [List.length_cons, List.length_nil]; decide)) ?_
    intro _
    refine Tr.spl_nil ?_
    refine Tr.newList (by first | decide | (simp only [List.length_cons, List.length_nil]; decide)) ?_
    intro _
    refine Mine.Tr.addL (.inl (List.Mem.tail _ (List.Mem.tail _ (List.Mem.head _)))) (.inl (List.Mem.head _)) (by (first | decide | assumption | (simp only [sizeLine_eq, List.length_append, List.length_cons, List.length_nil, List.length_map, List.length_range] at *; omega) | omega)) ?_
    intro _
    refine Tr.spl_nil ?_
    rename_i t42 aS aL D3
    have hps : PartsAt ((D3, Ct.list (cut none (some (i : Int)) pvs ++ [Value.ref aS])) :: (aL, Ct.list [Value.ref aS]) :: (aS, Ct.list [Value.str (tx [42]) t42]) :: (b2, Ct.list (cut none (some (i : Int)) pvs)) :: (new ++ (D1, Ct.list ys1) :: (new1 ++ led0))) ((its.take i ++ [itemOf 8]).map (·.part)) (cut none (some (i : Int)) pvs ++ [Value.ref aS]) := by
      rw [cut_take _ _ (by omega), List.map_append, List.map_take, List.map_singleton, star8]
      refine ((hpv.take i).mono fun x hx => .tail _ (.tail _ (.tail _ (.tail _ (List.mem_append_right _ (.tail _ (List.mem_append_right _ (hY x hx)))))))).snoc ?_
      exact ⟨aS, t42, rfl, .tail _ (.tail _ (.head _))⟩
    refine Tr.call0 (d := 3) (by rw [cx.d, hd]; omega) (R := fun v new => ∃ D, v = .ref D ∧ (D, Ct.list (((List.range ((its.take i ++ [itemOf 8]).map (·.part)).length).filter (keepAt ((its.take i ++ [itemOf 8]).map (·.part)))).map fun k => (cut none (some (i : Int)) pvs ++ [Value.ref aS]).getD k .none)) ∈ new) (fun s' ok' H => ?_) ?_
    · have hw' : C'.w = w := by rw [cx.w, hw]
      rw [hw']
      refine press_spec (hw' ▸ H.pre0 ok') D3 _ _ (H.lb ok' (.inl (.head _))) (H.partsH ok' hps) ?_
      simp only [List.length_map, List.length_append, List.length_take, List.length_singleton]; omega
    rintro v new3 ⟨Dl, rfl, hDl⟩
    refine ⟨⟨[], rfl, by kernel_rfl⟩, new3 ++ ((D3, Ct.list (cut none (some (i : Int)) pvs ++ [Value.ref aS])) :: (aL, Ct.list [Value.ref aS]) :: (aS, Ct.list [Value.str (tx [42]) t42]) :: (b2, Ct.list (cut none (some (i : Int)) pvs)) :: new), by simp, ?_⟩
    refine (hy.mono fun x hx => List.mem_append_right _ (.tail _ (.tail _ (.tail _ (.tail _ hx))))).snoc (List.mem_append_left _ hDl) ?_
    have e : headsOf its i = pressedOf ((its.take i ++ [itemOf 8]).map (·.part)) := (tr_last _).2
    rw [e]
    exact hps.pressed.mono fun x hx => List.mem_append_right _ hx
  rintro D2 ys2 led ⟨new2, rfl, hy2⟩
  set_option simprocs false in (conv => arg 4; dsimp only [List.cons_append, List.nil_append, List.map_cons, List.map_nil])
  refine Tr.neSame (vs := ys1) (ws := ys2) (.inl (.tail _ (List.mem_append_right _ (.head _)))) (.inl (.head _)) (by rw [hy1.1, hy2.1]) (fun s H hu j x y hx hy => ?_) ?_
  · obtain ⟨Da, us, rfl, h1, h2⟩ := hy1.2 j x hx
    obtain ⟨Db, ws, rfl, h3, h4⟩ := hy2.2 j y hy
    refine eq_parts H (.tail _ (List.mem_append_right _ (.tail _ h1))) (.tail _ h3) (h2.mono fun x hx => .tail _ (List.mem_append_right _ (.tail _ hx))) (h4.mono fun x hx => .tail _ hx) ?_
    show C.A.units + 1 + 2 < _
    rw [hd] at hu; omega
  refine ⟨_, rfl, ?_⟩
  refine tr_iteF ?_
  refine Tr.execs_nil ?_
  refine Then_next ?_
  exact Tr.weak (.cons _ ((List.Sublist.cons _ (List.sublist_append_right _ _)).trans (List.sublist_append_right _ _))) next
end Mine
end
section
open PySem PySem.W PySem.Calls PyProof PyProof.Rows PySem.Spec PyProof.V PySem.Builtin.Str
set_option linter.unusedVariables false
namespace Mine
section
variable {C : Cx} {S : St}
theorem Holds.turnX {loc cel} {led led' : Led} {a : Addr} {c c' : Ct} {s : Shared} (H : Holds C ⟨loc, cel, led⟩ s) (P : DPut a c c' led led') {h' : Heap} (hs : Heap.ExtBut a s.heap h') {o' : Obj} (ho : h'.get? a = some o') (hc : c'.Is o') (tk : Nat) :
    Holds C ⟨loc, cel, led'⟩ { s with heap := h', toks := tk } := by
  have hm := P.has
  have oa := H.out a (St.out_led hm)
  have ad : (⟨loc, cel, led'⟩ : St).addrs = (⟨loc, cel, led⟩ : St).addrs := by unfold St.addrs; rw [P.keys]
  refine ⟨?_, H.locs, H.locn, fun b o e => hs b o (fun q => by rw [q, oa.2.1] at e; cases e) (H.keep b o e), fun x k ov hx => ?_, H.cels, fun b k hb => ?_, by rw [ad]; exact H.out, by rw [ad]; exact H.nodup, H.os, H.gens, ?_⟩
  · obtain ⟨m, ⟨o, es, ep, e, r⟩, hml⟩ := H.loc
    exact ⟨m, ⟨o, es, ep, hs _ _ (Ne.symm oa.1) e, r⟩, hml⟩
  · obtain ⟨o, e, hd⟩ := H.cel x k ov hx
    exact ⟨o, hs _ _ (H.ncl hx hm) e, hd⟩
  · rcases P.mem H.nl hb with ⟨rfl, rfl⟩ | ⟨e, hb'⟩
    · exact ⟨o', ho, hc⟩
    · obtain ⟨o, e', i⟩ := H.led b k hb'
      exact ⟨o, hs b o e e', i⟩
  · obtain ⟨⟨p1, e1, t1⟩, ⟨p2, e2, t2⟩⟩ := H.gi
    exact ⟨⟨p1, hs _ _ (Ne.symm oa.2.2.1) e1, t1⟩, ⟨p2, hs _ _ (Ne.symm oa.2.2.2) e2, t2⟩⟩
theorem Holds.note {loc cel} {led : Led} {a : Addr} {c : Ct} {s : Shared} (H : Holds C ⟨loc, cel, led⟩ s) (ha : ∃ o, s.heap.get? a = some o ∧ c.Is o) (hn : a ∉ (⟨loc, cel, led⟩ : St).addrs) (hL : a ≠ C.env.locals) (h0 : C.h₀.get? a = none) (h50 : a ≠ 50) :
    Holds C ⟨loc, cel, (a, c) :: led⟩ s := by
  refine ⟨H.loc, H.locs, H.locn, H.keep, H.cel, H.cels, fun b k hb => ?_, fun b hb => ?_, ?_, H.os, H.gens, H.gi⟩
  · rcases List.mem_cons.mp hb with e | hb
    · cases e; exact ha
    · exact H.led b k hb
  · unfold St.addrs at hb
    rw [List.map_cons] at hb
    rcases List.mem_append.mp hb with h | h
    · exact H.out b (List.mem_append_left _ h)
    · rcases List.mem_cons.mp h with rfl | h
      · exact ⟨hL, h0, h50, h50⟩
      · exact H.out b (List.mem_append_right _ h)
  · have hn' := H.nodup
    unfold St.addrs at hn' hn ⊢
    rw [List.map_cons]
    obtain ⟨n1, n2, n3⟩ := List.nodup_append.mp hn'
    refine List.nodup_append.mpr ⟨n1, List.nodup_cons.mpr ⟨fun q => hn (List.mem_append_right _ q), n2⟩, fun x hx y hy q => ?_⟩
    subst q
    rcases List.mem_cons.mp hy with rfl | hy
    · exact hn (List.mem_append_left _ hx)
    · exact n3 x hx x hy rfl
def CodeO (qual : Str) (o : Obj) : Prop := ∃ vs t, o.data = .fields vs ∧ vs[1]? = some (.str qual t)
/-- a lambda whose code goes into a table of the ledger -/
theorem Tr.lambdaT {params : Arguments} {body : Expr} {scope : Scope} {pos : Pos} {loc cel} {led : Led} {led' : Ct → Led} {T : Addr} {ps : Array Value} {Q : Value → St → Prop} {cd : Addr} {clos : List (Str × Addr)} (hcode : C.env.code = .ref cd) (hhd : ∀ p, codeHdIn (hd.heap_39 p) cd T = true)
    (hdef : defaultsOf params C.env = ([], [])) (hcl : closureFor scope C.env = pure clos) (hTm : mainGlobals ≠ T) (P : ∀ c, DPut T (.obj (tabObj ps)) c led (led' c)) (ht : TriplesOk ps.toList) (hnf : codeAmong pos ps.toList = none)
    (h : ∀ f c' ctv pm, Q (.ref f) ⟨loc, cel, (f, .obj (kla_obj "<lambda>" (C.env.qual ++ "<lambda>") params body scope clos pm c' ctv)) :: (c', .pred (CodeO (C.env.qual ++ "<lambda>"))) :: led' (.obj (tabObj (ps ++ #[rawInt pos.line, rawInt pos.col, .ref c'])))⟩) :
    Tr C (eval (.Lambda params body scope pos) C.env) Q ⟨loc, cel, led⟩ := by
  intro ok s H
  refine kla_eval hdef ?_
  obtain ⟨mg, mb, T1⟩ := ok.gd.top
  have T' := T1.keeps H.keep
  obtain ⟨oT, eT, rfl⟩ := H.led _ _ (P (.obj (tabObj ps))).has
  have hd' : CodeHd s.heap cd T := codeHd_of_K (ok.gd.k.keeps H.keep) (hhd C.w.params)
  have hb : s.heap.BuiltinsAt mg T := T'.at fun bm ob _ e pl => by
    refine ⟨fun q => ?_, fun q => ?_⟩
    · rw [q, eT] at e
      cases e
      cases pl
    · obtain ⟨o, es, ep, e2, hdat⟩ := T'.g
      rw [q, e2] at e
      cases e
      rcases hdat with ⟨h1, h2⟩
      simp_all
  refine kla_makeFunction hcl ok.globals T'.g hcode hd' eT ht hnf hTm hb fun c' ctv h' tk hx hge hlt hrec htb => ?_
  have fresh : s.heap.get? c' = none := by
    cases e : s.heap.get? c' with
    | none => rfl
    | some o' => exact absurd (Heap.lt_size e) (Nat.not_lt.mpr hge)
  have H2 := H.turnX (P (.obj (tabObj (ps ++ #[rawInt pos.line, rawInt pos.col, .ref c'])))) hx htb rfl tk
  obtain ⟨c2, oc, vs, t, ec, hoc, hdat, hv⟩ := hrec
  cases ec
  have some_of : ∀ a ∈ (⟨loc, cel, led⟩ : St).addrs, ∃ o, s.heap.get? a = some o := fun a ha => by
    rcases List.mem_append.mp ha with h | h
    · obtain ⟨⟨x, c, ov⟩, hp, rfl⟩ := List.mem_map.mp h
      obtain ⟨o, e, _⟩ := H.cel x c ov hp
      exact ⟨o, e⟩
    · obtain ⟨⟨a, c⟩, hp, rfl⟩ := List.mem_map.mp h
      obtain ⟨o, e, _⟩ := H.led a c hp
      exact ⟨o, e⟩
  have ad : (⟨loc, cel, led' (.obj (tabObj (ps ++ #[rawInt pos.line, rawInt pos.col, .ref c'])))⟩ : St).addrs = (⟨loc, cel, led⟩ : St).addrs := by unfold St.addrs; rw [(P _).keys]
  have H3 := H2.note (a := c') (c := .pred (CodeO (C.env.qual ++ "<lambda>"))) ⟨oc, hoc, vs, t, hdat, hv⟩ (fun q => by
      rw [ad] at q
      obtain ⟨o, e⟩ := some_of c' q
      rw [fresh] at e; cases e) (fun q => by
      obtain ⟨m, ⟨o, es, ep, e, _⟩, _⟩ := H.loc
      rw [← q, fresh] at e; cases e) (by
      cases q : C.h₀.get? c' with
      | none => rfl
      | some o' => have := H.keep _ _ q; rw [fresh] at this; cases this) (fun q => by
      obtain ⟨p1, e1, _⟩ := H.gi.t1
      rw [← q, fresh] at e1; cases e1)
  exact ⟨_, H3.push ok (o := kla_obj _ _ params body scope clos ((mg "__name__").getD .none) c' ctv) rfl (.obj _) rfl tk, h _ _ _ _⟩
theorem Tr.nameF {x : Str} {c : Addr} {v : Value} {pos : Pos} {Q : Value → St → Prop} (hk : C.env.kindOf x = some .free) (hl : C.env.cells.lookup x = some c) (hc : C.h₀.IsCell c (some v)) (h : Q v S) (hd : (x == ("__debug__" : Str)) = false := by decide) (hcl : (x == ("__classdict__" : Str)) = false := by decide) :
    Tr C (eval (.Name x pos) C.env) Q S := by
  intro ok s H
  exact wpAny_Name (wpAny_loadName_free ok.kind hk hl (hc.keeps H.keep) ⟨S, H, h⟩ hcl) hd
end
theorem look_mem {α : Type} : ∀ {l : List (Str × α)} {x : Str} {v : α}, (l.map (·.1)).Nodup → (x, v) ∈ l → l.lookup x = some v
  | (y, u) :: r, x, v, hn, hm => by
    rw [List.map_cons, List.nodup_cons] at hn
    rw [List.lookup_cons]
    rcases List.mem_cons.mp hm with e | hm
    · cases e
      simp
    · have hne : ¬ x = y := fun e => hn.1 (by rw [← e]; exact List.mem_map.mpr ⟨_, hm, rfl⟩)
      rw [show (x == y) = false by simp [hne]]
      exact look_mem hn.2 hm
/-- entering a lambda -/
theorem Spec.enterLam {w : World} {muts : List Addr} {ml : Led} {s : Shared} {f : Addr} {fo : Obj} {fd : FuncData} {body : Expr} {args : List Value} {binds : List (Str × Value)} {gl : List Str} {d : Nat} {R : Value → Led → Prop}
    (P : Pre w muts s) (hml : muts = ml.map (·.1)) (hmi : ∀ a c, (a, c) ∈ ml → (∃ o, s.heap.get? a = some o ∧ c.Is o) ∧ a ≠ 50 ∧ a ≠ 50) (hmn : muts.Nodup)
    (hf : s.heap.get? f = some fo) (hfd : fo.data = .func fd) (hbody : fd.body = .expr body) (hco : fd.scope.isCoroutine = false) (hgen : fd.scope.isGenerator = false) (hkind : fd.scope.kind = .function) (hgl : fd.globals = mainGlobals) (hbl : fd.builtins = builtinsNs)
    (hcd : s.heap.CodeRec fd.code fd.qualname) (hbind : bindArgs fd ⟨args, []⟩ = pure binds) (hbn : (binds.map (·.1)).Nodup) (hloc : ∀ x ∈ binds, fd.scope.names.lookup x.1 = some .local) (hcell : ∀ x ∈ fd.scope.names, x.2 ≠ .cell) (hglb : (gl.all fun x => fd.scope.names.lookup x == some .globalImplicit) = true)
    (h : ∀ (C : Cx), C.w = w → C.h₀ = hideAll s.heap (50 :: 50 :: muts) → C.d = d → C.ck = .free → Glb C gl → C.env.scope = fd.scope → C.env.cells = fd.closure →
      Tr C (eval body C.env) (fun v S' => R v S'.led) ⟨binds.map fun x => (x.1, some x.2), [], ml⟩) :
    Spec w muts (d + 1) (.ref f) args [] R s := by
  intro A hh hdep hun
  have K : ∀ b o, (hideAll s.heap (50 :: 50 :: muts)).get? b = some o → s.heap.get? b = some o := fun b o e => of_hideAll _ e
  have G := P.gd
  have GS : Gd w s.heap := G.keeps K
  obtain ⟨mg, mb, T⟩ := GS.top
  refine wpAny_call (kla_callFunE (by omega) hf hfd hco hgen hbody hcd ?_)
  rw [hbind, hgl, hbl]
  refine wpAny_pure (wpAny_newFunctionEnv hcell hloc (fun h₁ hns hsb => ?_) hkind)
  refine ⟨T.nolimit.fresh _ hsb, kla_codeExpr ?_⟩
  generalize hev : newEnv fd.scope s.heap.objs.size mainGlobals fd.closure (fd.qualname ++ ".<locals>.") (some f) fd.code none builtinsNs = env
  have hlc : env.locals = s.heap.objs.size := by rw [← hev]; rfl
  have hsc : env.scope = fd.scope := by rw [← hev]; rfl
  have hcells : env.cells = fd.closure := by rw [← hev]; rfl
  have hko : ∀ y, env.kindOf y = fd.scope.names.lookup y := fun y => by unfold Env.kindOf; rw [hsc]
  let C : Cx := { w, A := A.deeper env, h₀ := hideAll s.heap (50 :: 50 :: muts), os := s.os, d, env, ck := .free }
  have fresh : ∀ a, s.heap.objs.size ≤ a → s.heap.get? a = none := fun a ha => by
    cases e : s.heap.get? a with
    | none => rfl
    | some o' => exact absurd (Heap.lt_size e) (Nat.not_lt.mpr ha)
  have fresh0 : ∀ a, s.heap.objs.size ≤ a → (hideAll s.heap (50 :: 50 :: muts)).get? a = none := fun a ha => by
    cases e : (hideAll s.heap (50 :: 50 :: muts)).get? a with
    | none => rfl
    | some o' => have := K _ _ e; rw [fresh a ha] at this; cases this
  have hk₁ : ∀ b o, s.heap.get? b = some o → h₁.get? b = some o := fun b o e => hsb.extBut b o (Nat.ne_of_lt (Heap.lt_size e)) (Heap.get?_push_of_some _ e)
  obtain ⟨⟨p1, e1, t1⟩, ⟨p2, e2, t2⟩⟩ := P.gi
  have ok : C.Ok := {
    gd := G, n1 := hideAll_none _ List.mem_cons_self, n2 := hideAll_none _ (List.mem_cons_of_mem _ List.mem_cons_self), nL := fresh0 _ (by show _ ≤ env.locals; rw [hlc]; exact Nat.le_refl _), hd := hh,
    depth := by show A.depth + 1 + d < _; omega
    units := by show A.units + 3 + 8 * d < _; omega
    kind := by show env.scope.kind = _; rw [hsc]; exact hkind
    globals := by show env.globals = _; rw [← hev]; rfl
    builtins := by show env.builtins = _; rw [← hev]; rfl
    ck := .inr rfl }
  have hGl : Glb C gl := fun y hy => by
    show env.kindOf y = _
    rw [hko]
    exact beq_iff_eq.mp (List.all_eq_true.mp hglb y hy)
  have lk : ∀ x v, (x, v) ∈ binds → binds.reverse.lookup x = some v := fun x v hm => by
    refine look_mem ?_ (List.mem_reverse.mpr hm)
    rw [List.map_reverse]
    exact (List.reverse_perm _).nodup_iff.mpr hbn
  have H : Holds C ⟨binds.map fun x => (x.1, some x.2), [], ml⟩ { s with heap := h₁, toks := s.toks + binds.length } := by
    refine ⟨⟨_, by show h₁.Ns env.locals _; rw [hlc]; exact hns, fun y v hy => ?_⟩, fun y ov hy => ?_, ?_, fun b o e => hk₁ b o (K b o e), fun y c ov hy => (nomatch hy), fun y c ov hy => (nomatch hy), fun a c ha => ?_, fun a ha => ?_, ?_, rfl, P.gens, ?_⟩
    · obtain ⟨⟨z, u⟩, hz, e⟩ := List.mem_map.mp hy
      cases e
      exact lk _ _ hz
    · obtain ⟨⟨z, u⟩, hz, e⟩ := List.mem_map.mp hy
      cases e
      show env.kindOf z = _
      rw [hko]; exact hloc _ hz
    · show ((binds.map fun x => (x.1, some x.2)).map (·.1)).Nodup
      rw [List.map_map]; exact hbn
    · obtain ⟨⟨o, e, i⟩, _⟩ := hmi a c ha
      exact ⟨o, hk₁ _ _ e, i⟩
    · have ha' : a ∈ ml.map (·.1) := by simpa [St.addrs] using ha
      obtain ⟨⟨a, c⟩, hp, rfl⟩ := List.mem_map.mp ha'
      obtain ⟨⟨o, e, i⟩, n1, n2⟩ := hmi a c hp
      refine ⟨?_, hideAll_none _ (List.mem_cons_of_mem _ (List.mem_cons_of_mem _ (by rw [hml]; exact List.mem_map.mpr ⟨_, hp, rfl⟩))), n1, n2⟩
      show a ≠ env.locals
      rw [hlc]; exact Nat.ne_of_lt (Heap.lt_size e)
    · show (([] : List Addr) ++ ml.map (·.1)).Nodup
      rw [List.nil_append, ← hml]; exact hmn
    · exact ⟨⟨p1, hk₁ _ _ e1, t1⟩, ⟨p2, hk₁ _ _ e2, t2⟩⟩
  refine (h C rfl rfl rfl rfl hGl hsc hcells).go ok H fun v s₂ S₂ H₂ q => ?_
  refine ⟨S₂.led, ⟨H₂.os, H₂.gens, H₂.gi, fun b o n1 n2 n3 e => ?_, fun a c ha => ⟨H₂.led a c ha, ?_⟩, H₂.nl⟩, q⟩
  · exact H₂.keep b o (hideAll_get _ e fun q => by
      rcases List.mem_cons.mp q with q | q
      · exact n1 q
      · rcases List.mem_cons.mp q with q | q
        · exact n2 q
        · exact n3 q)
  · have o2 := H₂.out a (St.out_led ha)
    by_cases hm : a ∈ muts
    · exact .inl hm
    · refine .inr ?_
      cases q : s.heap.get? a with
      | none => rfl
      | some o =>
        have := hideAll_get (50 :: 50 :: muts) q fun q => by
          rcases List.mem_cons.mp q with q | q
          · exact o2.2.2.1 q
          · rcases List.mem_cons.mp q with q | q
            · exact o2.2.2.2 q
            · exact hm q
        rw [show (hideAll s.heap (50 :: 50 :: muts)).get? a = none from o2.2.1] at this
        cases this
end Mine
end
section
open PySem PySem.W PySem.Calls PyProof PyProof.Rows PySem.Spec PyProof.V PySem.Builtin.Str
set_option linter.unusedVariables false
namespace Mine
def lamOf (s : Stmt) : Arguments × PySem.Expr × Scope × Pos := match s with
  | .Assign _ (.Call _ _ [kw] _) _ => (match kw.value with
    | .Lambda a b c p => (a, b, c, p)
    | _ => default)
  | _ => default
noncomputable def law.lamP0 : Arguments := (lamOf (law.body.getD 6 default)).1
noncomputable def law.lamB0 : PySem.Expr := (lamOf (law.body.getD 6 default)).2.1
noncomputable def law.lamS0 : Scope := (lamOf (law.body.getD 6 default)).2.2.1
noncomputable def law.lamL0 : Pos := (lamOf (law.body.getD 6 default)).2.2.2
noncomputable def law.lamP1 : Arguments := (lamOf (law.body.getD 7 default)).1
noncomputable def law.lamB1 : PySem.Expr := (lamOf (law.body.getD 7 default)).2.1
noncomputable def law.lamS1 : Scope := (lamOf (law.body.getD 7 default)).2.2.1
noncomputable def law.lamL1 : Pos := (lamOf (law.body.getD 7 default)).2.2.2

def KeyAt (h0 : Heap) (params : Arguments) (body : Expr) (scope : Scope) (k asked tl : Addr) (an : Str) (nm : List Nat) (tvs : List Value) : Prop :=
  ∃ qual clos pm c' ctv ct cn ca tn, h0.get? k = some (kla_obj "<lambda>" qual params body scope clos pm c' ctv) ∧ h0.CodeRec (.ref c') qual ∧
    clos.lookup (Str.ofString "texts") = some ct ∧ clos.lookup (Str.ofString "name") = some cn ∧ clos.lookup an = some ca ∧
    h0.IsCell ct (some (.ref tl)) ∧ h0.IsCell cn (some (.str (tx nm) tn)) ∧ h0.IsCell ca (some (.ref asked)) ∧ h0.IsList tl tvs.toArray ∧ h0.get? 50 = none ∧ h0.get? asked = none
theorem keyL {w : World} {h0 : Heap} {k asked tl : Addr} {nm : List Nat} {tvs : List Value} (X : KeyAt h0 law.lamP0 law.lamB0 law.lamS0 k asked tl (Str.ofString "left") nm tvs) (its : List Item) (htv : Txs tvs (its.map (·.text))) (hsh : ∀ it ∈ its, Shape it) (hn : its.length ≤ 15) (hz : nm.length ≤ 90) (ha : asked ≠ 50) :
    KeySpec w asked k (its.length + 1) 5 (fallsOf nm its) h0 := by
  obtain ⟨qual, clos, pm, c', ctv, ct, cn, ca, tn, hk, hcd, l1, l2, l3, k1, k2, k3, htl, n50, nas⟩ := X
  intro s m vs hm hvl P hsub hask t
  have hs2 : Sub h0 (hideAll s.heap (50 :: 50 :: [asked])) := fun b o e => hideAll_get _ (hsub b o e) fun q => by
    simp only [List.mem_cons, List.mem_nil_iff, or_false] at q
    rcases q with q | q | q
    · rw [q, n50] at e; cases e
    · rw [q, n50] at e; cases e
    · rw [q, nas] at e; cases e
  refine Spec.enterLam (ml := [(asked, .list vs)]) (binds := [(Str.ofString "many", .int (m : Nat) t)]) (gl := [Str.ofString "_law_falls"]) P rfl ?_ (by simp) (hsub _ _ hk) rfl rfl (by rfl) (by rfl) (by rfl) rfl rfl (hcd.keeps hsub) (by rfl) (by simp) ?_ ?_ (by kernel_rfl) ?_
  · intro a c h
    rw [List.mem_singleton] at h
    cases h
    exact ⟨hask, ha, ha⟩
  · intro x hx
    rw [List.mem_singleton] at hx
    subst hx
    show law.lamS0.names.lookup (Str.ofString "many") = _
    decide +kernel
  · show ∀ x ∈ law.lamS0.names, x.2 ≠ .cell
    decide
  intro C hw h0' hd hck G hsc hce
  have hko : ∀ y, C.env.kindOf y = law.lamS0.names.lookup y := fun y => by unfold Env.kindOf; rw [hsc]
  have hs3 : Sub h0 C.h₀ := by rw [h0']; exact hs2
  show Tr C _ _ ⟨[(Str.ofString "many", some (.int (m : Nat) t))], [], [(asked, .list vs)]⟩
  unfold law.lamB0
  refine Tr.callN ?_
  refine Tr.nameG (by assumption) (by decide +kernel) Mine.g__law_falls ?_
  refine Tr.callW (kept_K (fun _ => rfl)) ?_
  refine Tr.spl_cons ?_
  refine Tr.nameF (x := Str.ofString "texts") (by rw [hko]; decide +kernel) (by rw [hce]; exact l1) (k1.keeps hs3) ?_
  refine Tr.spl_cons ?_
  refine Tr.nameF (x := Str.ofString "name") (by rw [hko]; decide +kernel) (by rw [hce]; exact l2) (k2.keeps hs3) ?_
  refine Tr.spl_cons ?_
  refine Tr.nameF (x := Str.ofString "left") (by rw [hko]; decide +kernel) (by rw [hce]; exact l3) (k3.keeps hs3) ?_
  refine Tr.spl_cons ?_
  refine Tr.nameL (List.Mem.head _) ?_
  refine Tr.spl_nil ?_
  refine Tr.callM (pre := [(asked, .list vs)]) (rest := []) (d := 4) (by rw [hd]; exact Nat.le_refl _) (R := fun v new => v = .bool (fallsOf nm its m) ∧ ∃ t', new = [(asked, .list (vs ++ [.int (m : Nat) t']))]) (fun s' ok' H => ?_) ?_
  · have hmu : ∀ a ∈ ([(asked, Ct.list vs)] : Led).map (·.1), a ∈ (⟨[(Str.ofString "many", some (.int (m : Nat) t))], [], [(asked, Ct.list vs)] ++ []⟩ : St).addrs := fun a ha' => by simpa [St.addrs] using ha'
    have hsb : Sub C.h₀ (hideAll s'.heap (50 :: 50 :: [asked])) := H.sub ok' hmu
    have htl' : (hideAll s'.heap (50 :: 50 :: [asked])).IsList tl tvs.toArray := by
      obtain ⟨o, e, r⟩ := htl
      exact ⟨o, hsb _ _ (hs3 _ _ e), r⟩
    rw [hw]
    exact falls_spec asked (hw ▸ H.pre ok' hmu) ⟨ha, ha⟩ vs (H.led _ _ (.head _)) (by omega) tl tvs its htl' htv hsh hn nm _ hz m _ (by omega)
  rintro v new ⟨rfl, t', rfl⟩
  exact ⟨rfl, t', rfl⟩
theorem keyR {w : World} {h0 : Heap} {k asked tl : Addr} {nm : List Nat} {tvs : List Value} (X : KeyAt h0 law.lamP1 law.lamB1 law.lamS1 k asked tl (Str.ofString "right") nm tvs) (its : List Item) (htv : Txs tvs (its.map (·.text))) (hsh : ∀ it ∈ its, Shape it) (hn : its.length ≤ 15) (hz : nm.length ≤ 90) (ha : asked ≠ 50) :
    KeySpec w asked k (its.length + 1) 5 (fallsOf nm its) h0 := by
  obtain ⟨qual, clos, pm, c', ctv, ct, cn, ca, tn, hk, hcd, l1, l2, l3, k1, k2, k3, htl, n50, nas⟩ := X
  intro s m vs hm hvl P hsub hask t
  have hs2 : Sub h0 (hideAll s.heap (50 :: 50 :: [asked])) := fun b o e => hideAll_get _ (hsub b o e) fun q => by
    simp only [List.mem_cons, List.mem_nil_iff, or_false] at q
    rcases q with q | q | q
    · rw [q, n50] at e; cases e
    · rw [q, n50] at e; cases e
    · rw [q, nas] at e; cases e
  refine Spec.enterLam (ml := [(asked, .list vs)]) (binds := [(Str.ofString "many", .int (m : Nat) t)]) (gl := [Str.ofString "_law_falls"]) P rfl ?_ (by simp) (hsub _ _ hk) rfl rfl (by rfl) (by rfl) (by rfl) rfl rfl (hcd.keeps hsub) (by rfl) (by simp) ?_ ?_ (by kernel_rfl) ?_
  · intro a c h
    rw [List.mem_singleton] at h
    cases h
    exact ⟨hask, ha, ha⟩
  · intro x hx
    rw [List.mem_singleton] at hx
    subst hx
    show law.lamS1.names.lookup (Str.ofString "many") = _
    decide +kernel
  · show ∀ x ∈ law.lamS1.names, x.2 ≠ .cell
    decide
  intro C hw h0' hd hck G hsc hce
  have hko : ∀ y, C.env.kindOf y = law.lamS1.names.lookup y := fun y => by unfold Env.kindOf; rw [hsc]
  have hs3 : Sub h0 C.h₀ := by rw [h0']; exact hs2
  show Tr C _ _ ⟨[(Str.ofString "many", some (.int (m : Nat) t))], [], [(asked, .list vs)]⟩
  unfold law.lamB1
  refine Tr.callN ?_
  refine Tr.nameG (by assumption) (by decide +kernel) Mine.g__law_falls ?_
  refine Tr.callW (kept_K (fun _ => rfl)) ?_
  refine Tr.spl_cons ?_
  refine Tr.nameF (x := Str.ofString "texts") (by rw [hko]; decide +kernel) (by rw [hce]; exact l1) (k1.keeps hs3) ?_
  refine Tr.spl_cons ?_
  refine Tr.nameF (x := Str.ofString "name") (by rw [hko]; decide +kernel) (by rw [hce]; exact l2) (k2.keeps hs3) ?_
  refine Tr.spl_cons ?_
  refine Tr.nameF (x := Str.ofString "right") (by rw [hko]; decide +kernel) (by rw [hce]; exact l3) (k3.keeps hs3) ?_
  refine Tr.spl_cons ?_
  refine Tr.nameL (List.Mem.head _) ?_
  refine Tr.spl_nil ?_
  refine Tr.callM (pre := [(asked, .list vs)]) (rest := []) (d := 4) (by rw [hd]; exact Nat.le_refl _) (R := fun v new => v = .bool (fallsOf nm its m) ∧ ∃ t', new = [(asked, .list (vs ++ [.int (m : Nat) t']))]) (fun s' ok' H => ?_) ?_
  · have hmu : ∀ a ∈ ([(asked, Ct.list vs)] : Led).map (·.1), a ∈ (⟨[(Str.ofString "many", some (.int (m : Nat) t))], [], [(asked, Ct.list vs)] ++ []⟩ : St).addrs := fun a ha' => by simpa [St.addrs] using ha'
    have hsb : Sub C.h₀ (hideAll s'.heap (50 :: 50 :: [asked])) := H.sub ok' hmu
    have htl' : (hideAll s'.heap (50 :: 50 :: [asked])).IsList tl tvs.toArray := by
      obtain ⟨o, e, r⟩ := htl
      exact ⟨o, hsb _ _ (hs3 _ _ e), r⟩
    rw [hw]
    exact falls_spec asked (hw ▸ H.pre ok' hmu) ⟨ha, ha⟩ vs (H.led _ _ (.head _)) (by omega) tl tvs its htl' htv hsh hn nm _ hz m _ (by omega)
  rintro v new ⟨rfl, t', rfl⟩
  exact ⟨rfl, t', rfl⟩
end Mine
end
section
open PySem PySem.W PySem.Calls PyProof PyProof.Rows PySem.Spec PyProof.V PySem.Builtin.Str
set_option linter.unusedVariables false
namespace Mine
section
variable {C : Cx}
theorem Holds.ne_head {loc cel} {asked : Addr} {x : Ct} {rest : Led} {s : Shared} (H : Holds C ⟨loc, cel, (asked, x) :: rest⟩ s) {a : Addr} {c : Ct} (hm : (a, c) ∈ rest) : a ≠ asked := fun e => by
  have := H.nl
  rw [List.map_cons, List.nodup_cons] at this
  exact this.1 (List.mem_map.mpr ⟨_, hm, e⟩)
theorem hid_get {h : Heap} {a asked : Addr} {o : Obj} (e : h.get? a = some o) (h1 : a ≠ 50) (h2 : a ≠ asked) : (hideAll h (50 :: 50 :: [asked])).get? a = some o :=
  hideAll_get _ e (by simp [h1, h2])
theorem Holds.hid {loc cel} {asked : Addr} {x : Ct} {rest : Led} {s : Shared} (H : Holds C ⟨loc, cel, (asked, x) :: rest⟩ s) {a : Addr} {c : Ct} (hm : (a, c) ∈ rest) : ∃ o, (hideAll s.heap (50 :: 50 :: [asked])).get? a = some o ∧ c.Is o := by
  obtain ⟨o, e, i⟩ := H.led a c (.tail _ hm)
  exact ⟨o, hid_get e (H.out a (St.out_led (S := ⟨loc, cel, (asked, x) :: rest⟩) (.tail _ hm))).2.2.1 (H.ne_head hm), i⟩
theorem Holds.hidC {loc cel} {asked : Addr} {x : Ct} {rest : Led} {s : Shared} (H : Holds C ⟨loc, cel, (asked, x) :: rest⟩ s) {n : Str} {c : Addr} {ov : Option Value} (hm : (n, c, ov) ∈ cel) : (hideAll s.heap (50 :: 50 :: [asked])).IsCell c ov := by
  obtain ⟨o, e, hd⟩ := H.cel n c ov hm
  exact ⟨o, hid_get e (H.out c (St.out_cel (S := ⟨loc, cel, (asked, x) :: rest⟩) hm)).2.2.1 (H.ncl hm List.mem_cons_self), hd⟩
/-- the free names of a block, by the frame's cells -/
theorem free_pure {scope outer : Scope} {L : Addr} (hce : C.env.cells = cellsFrom (L + 1) outer.names []) (h : (scope.names.all fun p => p.2 != NameKind.free || ((cellsFrom (L + 1) outer.names []).lookup p.1).isSome) = true) :
    ∃ cl, closureFor scope C.env = pure cl ∧ ∀ x c, (x, NameKind.free) ∈ scope.names → (cellsFrom (L + 1) outer.names []).lookup x = some c → cl.lookup x = some c := by
  obtain ⟨cl, h1, h2, h3⟩ := closure_pure (env := C.env) (scope := scope) (fun p hp hk => by
    rw [hce]
    have := List.all_eq_true.mp h p hp
    rw [hk] at this
    simpa using this)
  refine ⟨cl, h1, fun x c hx hl => ?_⟩
  obtain ⟨d, hd⟩ := h2 x hx
  have hd2 := (h3 x d hd).1
  rw [hce, hl] at hd2
  cases hd2
  refine look_of_all hd fun e he => ?_
  have := (h3 x e he).1
  rw [hce, hl] at this
  exact (Option.some.inj this).symm
end
theorem key_of {C : Cx} {loc cel} {asked : Addr} {x : Ct} {rest : Led} {s : Shared} {params : Arguments} {body : Expr} {scope : Scope} {qual : Str} {clos : List (Str × Addr)} {pm : Value} {c' : Addr} {ctv : Value} {k tl ct cn ca : Addr} {an n1 n2 n3 : Str} {nm : List Nat} {tn : Tok} {tvs : List Value}
    (H : Holds C ⟨loc, cel, (asked, x) :: rest⟩ s) (hk : (k, Ct.obj (kla_obj "<lambda>" qual params body scope clos pm c' ctv)) ∈ rest) (hc : (c', Ct.pred (CodeO qual)) ∈ rest)
    (l1 : clos.lookup (Str.ofString "texts") = some ct) (l2 : clos.lookup (Str.ofString "name") = some cn) (l3 : clos.lookup an = some ca)
    (m1 : (n1, ct, some (.ref tl)) ∈ cel) (m2 : (n2, cn, some (.str (tx nm) tn)) ∈ cel) (m3 : (n3, ca, some (.ref asked)) ∈ cel) (htl : (tl, Ct.list tvs) ∈ rest) :
    KeyAt (hideAll s.heap (50 :: 50 :: [asked])) params body scope k asked tl an nm tvs := by
  obtain ⟨o, e, rfl⟩ := H.hid hk
  obtain ⟨oc, ec, vs, t, hv1, hv2⟩ := H.hid hc
  obtain ⟨ol, el, n, rfl⟩ := H.hid htl
  exact ⟨qual, clos, pm, c', ctv, ct, cn, ca, tn, e, ⟨c', oc, vs, t, rfl, ec, hv1, hv2⟩, l1, l2, l3, H.hidC m1, H.hidC m2, H.hidC m3, ⟨_, el, rfl, n, rfl⟩, hideAll_none _ List.mem_cons_self, hideAll_none _ (by simp)⟩
theorem lawD {w : World} {C : Cx} {L : Addr} (K : LawCx C L w) (its : List Item) (hsh : ∀ it ∈ its, Shape it) (hN : its.length ≤ 11) (nm : List Nat) (hnm : nm.length ≤ 5) (sv hv fv iv pv mv lv : Option Value) (tn : Tok) (met : Value)
    (tl : Addr) (tvs : List Value) (rg lft rgt : Addr) (Y : Led) (htl : (tl, Ct.list tvs) ∈ Y) (htv : Txs tvs (its.map (·.text))) (hrg : (rg, Ct.pred (RngO 0 ((its.length : Int) + 1) 1)) ∈ Y)
    (next : ∀ t1 t2 vsL vsR ps, Nums vsL (bis (fallsOf nm its) (its.length + 1) 0 (its.length + 1) []).2 → Nums vsR (bis (fallsOf nm its) (its.length + 1) 0 (its.length + 1) []).2 →
      Tr C (execs (law.body.drop 8) C.env) LawQ (lawSt L sv iv (some met) (some (.int ((bis (fallsOf nm its) (its.length + 1) 0 (its.length + 1) []).1 : Nat) t1)) (some (.int ((bis (fallsOf nm its) (its.length + 1) 0 (its.length + 1) []).1 : Nat) t2)) fv (some (.ref tl)) (some (.ref rgt)) (some (.str (tx nm) tn)) (some (.ref lft)) (some (.ref rg)) pv hv ((rgt, .list vsR) :: (lft, .list vsL) :: (109, .obj (tabObj ps)) :: Y))) :
    Tr C (execs (law.body.drop 6) C.env) LawQ (lawSt L sv iv (some met) mv lv fv (some (.ref tl)) (some (.ref rgt)) (some (.str (tx nm) tn)) (some (.ref lft)) (some (.ref rg)) pv hv ((lft, .list []) :: (rgt, .list []) :: (109, tab0) :: Y)) := by
  obtain ⟨hw, hd, hck, G, hin, hco, hq, hsc, hce⟩ := K
  replace hsc := scopeLit hsc
  have hN1 : (((its.length + 1 : Nat)) : Int) = (its.length : Int) + 1 := by push_cast; rfl
  unfold lawSt at *
  refine Tr.execs_cons ?_
  refine Tr.assignN ?_
  refine Tr.callN ?_
  refine Tr.nameG (by assumption) (by decide +kernel) Mine.g_bisect_left ?_
  refine Tr.callWK (kept_K (fun _ => rfl)) ?_ (by rfl) (by rfl)
  refine Tr.spl_cons ?_
  refine Tr.nameC (List.Mem.tail _ (List.Mem.tail _ (List.Mem.tail _ (List.Mem.tail _ (List.Mem.head _))))) ?_
  refine Tr.spl_cons ?_
  refine Tr.boolc ?_
  refine Tr.spl_nil ?_
  refine Tr.kw_cons ?_
  obtain ⟨cl1, hcl1, hcl2⟩ := free_pure (scope := law.lamS0) hce (by kernel_rfl)
  refine Tr.lambdaT (cd := 111) (T := 109) (ps := #[]) (led' := fun c => (lft, Ct.list []) :: (rgt, Ct.list []) :: (109, c) :: Y) (hco.trans (by rfl)) (fun _ => rfl) (by rfl) hcl1 (by decide) (fun c => .tail (.tail .head)) trivial (by rfl) fun f1 c1 ctv1 pm1 => ?_
  refine Tr.kw_nil ?_
  show Tr C (call (.ref 73) [.ref rg, .bool true] [(Str.ofString "key", .ref f1)]) _ _
  refine Tr.perm (Pick.perm (.tail (.tail .head))) ?_
  generalize hq1 : C.env.qual ++ (Str.ofString "<lambda>") = ql at *
  refine Tr.callM (pre := [(lft, Ct.list [])]) (rest := (f1, Ct.obj (kla_obj "<lambda>" ql law.lamP0 law.lamB0 law.lamS0 cl1 pm1 c1 ctv1)) :: (c1, Ct.pred (CodeO ql)) :: (rgt, Ct.list []) :: (109, Ct.obj (tabObj (#[] ++ #[rawInt law.lamL0.line, rawInt law.lamL0.col, .ref c1]))) :: Y) (d := 6) (by rw [hd]; omega)
    (R := fun v new => ∃ t vs, v = .int (bis (fallsOf nm its) (its.length + 1) 0 (its.length + 1) []).1 t ∧ Nums vs (bis (fallsOf nm its) (its.length + 1) 0 (its.length + 1) []).2 ∧ new = [(lft, .list vs)]) (fun s' ok' H => ?_) ?_
  · have H2 : Holds C ⟨_, _, (lft, Ct.list []) :: ((f1, Ct.obj (kla_obj "<lambda>" ql law.lamP0 law.lamB0 law.lamS0 cl1 pm1 c1 ctv1)) :: (c1, Ct.pred (CodeO ql)) :: (rgt, Ct.list []) :: (109, Ct.obj (tabObj (#[] ++ #[rawInt law.lamL0.line, rawInt law.lamL0.col, .ref c1]))) :: Y)⟩ s' := H
    have h50 : lft ≠ 50 := (H2.out lft (St.out_led (.head _))).2.2.1
    have X := key_of H2 (.head _) (.tail _ (.head _)) (hcl2 (Str.ofString "texts") _ (by decide) (by rfl)) (hcl2 (Str.ofString "name") _ (by decide) (by rfl)) (hcl2 (Str.ofString "left") _ (by decide) (by rfl)) (.head _) (.tail _ (.tail _ (.head _))) (.tail _ (.tail _ (.tail _ (.head _)))) (.tail _ (.tail _ (.tail _ (.tail _ htl))))
    obtain ⟨orr, er, hrr⟩ := H2.hid (.tail _ (.tail _ (.tail _ (.tail _ hrg))))
    obtain ⟨ok2, ek, rfl⟩ := H2.hid (a := f1) (.head _)
    rw [hw]
    exact bisL_spec lft rg f1 (its.length + 1) 5 (fallsOf nm its) (hw ▸ H.pre ok' (fun a ha => by rw [List.mem_singleton] at ha; subst ha; exact St.out_led (S := ⟨_, _, _⟩) (.head _))) ⟨h50, h50⟩ (H2.led _ _ (.head _)) (by omega) ⟨orr, er, by rw [hN1]; exact hrr⟩ ek rfl (keyL X its htv hsh (by omega) (by omega) h50)
  rintro v new ⟨t1, vsL, rfl, hvL, rfl⟩
  refine Tr.storeL (.tail (.tail (.tail .head))) ?_
  refine Then_next ?_
  refine Tr.execs_cons ?_
  refine Tr.assignN ?_
  refine Tr.callN ?_
  refine Tr.nameG (by assumption) (by decide +kernel) Mine.g_bisect_right ?_
  refine Tr.callWK (kept_K (fun _ => rfl)) ?_ (by rfl) (by rfl)
  refine Tr.spl_cons ?_
  refine Tr.nameC (List.Mem.tail _ (List.Mem.tail _ (List.Mem.tail _ (List.Mem.tail _ (List.Mem.head _))))) ?_
  refine Tr.spl_cons ?_
  refine Tr.boolc ?_
  refine Tr.spl_nil ?_
  refine Tr.kw_cons ?_
  refine Tr.weak (l' := (lft, Ct.list vsL) :: (rgt, Ct.list []) :: (109, Ct.obj (tabObj (#[] ++ #[rawInt law.lamL0.line, rawInt law.lamL0.col, .ref c1]))) :: Y) (.cons_cons _ (.cons _ (.cons _ (List.Sublist.refl _)))) ?_
  obtain ⟨cl2, hcl3, hcl4⟩ := free_pure (scope := law.lamS1) hce (by kernel_rfl)
  refine Tr.lambdaT (cd := 111) (T := 109) (ps := #[] ++ #[rawInt law.lamL0.line, rawInt law.lamL0.col, .ref c1]) (led' := fun c => (lft, Ct.list vsL) :: (rgt, Ct.list []) :: (109, c) :: Y) (hco.trans (by rfl)) (fun _ => rfl) (by rfl) hcl3 (by decide) (fun c => .tail (.tail .head)) (by simp [TriplesOk, rawInt]) (by rfl) fun f2 c2 ctv2 pm2 => ?_
  refine Tr.kw_nil ?_
  show Tr C (call (.ref 64) [.ref rg, .bool false] [(Str.ofString "key", .ref f2)]) _ _
  refine Tr.perm (Pick.perm (.tail (.tail (.tail .head)))) ?_
  refine Tr.callM (pre := [(rgt, Ct.list [])]) (rest := (f2, Ct.obj (kla_obj "<lambda>" (C.env.qual ++ Str.ofString "<lambda>") law.lamP1 law.lamB1 law.lamS1 cl2 pm2 c2 ctv2)) :: (c2, Ct.pred (CodeO (C.env.qual ++ Str.ofString "<lambda>"))) :: (lft, Ct.list vsL) :: (109, Ct.obj (tabObj (#[] ++ #[rawInt law.lamL0.line, rawInt law.lamL0.col, .ref c1] ++ #[rawInt law.lamL1.line, rawInt law.lamL1.col, .ref c2]))) :: Y) (d := 6) (by rw [hd]; omega)
    (R := fun v new => ∃ t vs, v = .int (bis (fallsOf nm its) (its.length + 1) 0 (its.length + 1) []).1 t ∧ Nums vs (bis (fallsOf nm its) (its.length + 1) 0 (its.length + 1) []).2 ∧ new = [(rgt, .list vs)]) (fun s' ok' H => ?_) ?_
  · have H2 : Holds C ⟨_, _, (rgt, Ct.list []) :: ((f2, Ct.obj (kla_obj "<lambda>" (C.env.qual ++ Str.ofString "<lambda>") law.lamP1 law.lamB1 law.lamS1 cl2 pm2 c2 ctv2)) :: (c2, Ct.pred (CodeO (C.env.qual ++ Str.ofString "<lambda>"))) :: (lft, Ct.list vsL) :: (109, Ct.obj (tabObj (#[] ++ #[rawInt law.lamL0.line, rawInt law.lamL0.col, .ref c1] ++ #[rawInt law.lamL1.line, rawInt law.lamL1.col, .ref c2]))) :: Y)⟩ s' := H
    have h50 : rgt ≠ 50 := (H2.out rgt (St.out_led (.head _))).2.2.1
    have X := key_of H2 (.head _) (.tail _ (.head _)) (hcl4 (Str.ofString "texts") _ (by decide) (by rfl)) (hcl4 (Str.ofString "name") _ (by decide) (by rfl)) (hcl4 (Str.ofString "right") _ (by decide) (by rfl)) (.head _) (.tail _ (.tail _ (.head _))) (.tail _ (.head _)) (.tail _ (.tail _ (.tail _ (.tail _ htl))))
    obtain ⟨orr, er, hrr⟩ := H2.hid (.tail _ (.tail _ (.tail _ (.tail _ hrg))))
    obtain ⟨ok2, ek, rfl⟩ := H2.hid (a := f2) (.head _)
    rw [hw]
    exact bisR_spec rgt rg f2 (its.length + 1) 5 (fallsOf nm its) (hw ▸ H.pre ok' (fun a ha => by rw [List.mem_singleton] at ha; subst ha; exact St.out_led (S := ⟨_, _, _⟩) (.head _))) ⟨h50, h50⟩ (H2.led _ _ (.head _)) (by omega) ⟨orr, er, by rw [hN1]; exact hrr⟩ ek rfl (keyR X its htv hsh (by omega) (by omega) h50)
  rintro v new ⟨t2, vsR, rfl, hvR, rfl⟩
  refine Tr.storeL (.tail (.tail (.tail (.tail .head)))) ?_
  refine Then_next ?_
  exact Tr.weak (.cons_cons _ (.cons _ (.cons _ (List.Sublist.refl _)))) (next t1 t2 vsL vsR _ hvL hvR)
end Mine
end
section
open PySem PySem.W PySem.Calls PyProof PyProof.Rows PySem.Spec PyProof.V PySem.Builtin.Str
set_option linter.unusedVariables false
namespace Mine
open PySem.SeqAt
theorem own_one {x : Str} : ∀ {own : List (Str × Addr × Option Value)}, own.map (·.1) = [x] → ∃ c ov, own = [(x, c, ov)]
  | [(y, c, ov)], h => by
    have e : y = x := (List.cons.inj h).1
    subst e
    exact ⟨c, ov, rfl⟩
theorem lawE {w : World} {C : Cx} {L : Addr} (K : LawCx C L w) (N : Nat) (hN : N ≤ 11) (sv hv fv iv pv tlv nv : Option Value) (tm t1 t2 : Tok) (met : Nat)
    (pr : List Nat) (hp1 : pr.length ≤ Builtin.Int.intBits ((N : Int) + 1)) (hp0 : pr.length ≤ 20) (hp2 : ∀ k, pr.count k ≤ 1)
    (rg lft rgt : Addr) (vsL vsR : List Value) (hvL : Nums vsL pr) (hvR : Nums vsR pr) (ps : Array Value) (Y : Led) (hrg : (rg, Ct.pred (RngO 0 ((N : Int) + 1) 1)) ∈ Y) :
    Tr C (execs (law.body.drop 8) C.env) LawQ (lawSt L sv iv (some (.int (met : Nat) tm)) (some (.int ((met + 1 : Nat) : Int) t1)) (some (.int ((met + 1 : Nat) : Int) t2)) fv tlv (some (.ref rgt)) nv (some (.ref lft)) (some (.ref rg)) pv hv ((rgt, .list vsR) :: (lft, .list vsL) :: (109, .obj (tabObj ps)) :: Y)) := by
  obtain ⟨hw, hd, hck, G, hin, hco, hq, hsc, hce⟩ := K
  replace hsc := scopeLit hsc
  unfold lawSt at *
  refine Tr.execs_cons ?_
  refine Tr.ifS ?_
  refine Tr.isCmp1 ?_
  refine Tr.list ?_
  refine Tr.spl_cons ?_
  refine Tr.nameL (List.Mem.tail _ (List.Mem.tail _ (List.Mem.tail _ (List.Mem.head _)))) ?_
  refine Tr.spl_cons ?_
  refine Tr.nameL (List.Mem.tail _ (List.Mem.tail _ (List.Mem.tail _ (List.Mem.tail _ (List.Mem.head _))))) ?_
  refine Tr.spl_nil ?_
  refine Tr.newList (by first | decide | (simp only [List.length_cons, List.length_nil]; decide)) ?_
  intro _
  refine Tr.list ?_
  refine Tr.spl_cons ?_
  refine Tr.binop ?_
  refine Tr.nameL (List.Mem.tail _ (List.Mem.tail _ (List.Mem.head _))) ?_
  refine Tr.int ?_
  intro _
  refine Tr.addI ?_
  intro _
  refine Tr.spl_cons ?_
  refine Tr.binop ?_
  refine Tr.nameL (List.Mem.tail _ (List.Mem.tail _ (List.Mem.head _))) ?_
  refine Tr.int ?_
  intro _
  refine Tr.addI ?_
  intro _
  refine Tr.spl_nil ?_
  refine Tr.newList (by first | decide | (simp only [List.length_cons, List.length_nil]; decide)) ?_
  intro _
  refine Tr.neSame (.inl (.tail _ (.head _))) (.inl (.head _)) rfl (fun s H hu j x y hx hy => ?_) ?_
  · have hj : j = 0 ∨ j = 1 := by
      have := (List.getElem?_eq_some_iff.mp hx).1
      simp only [List.length_cons, List.length_nil] at this
      omega
    rcases hj with rfl | rfl
    · cases hx; cases hy
      have := EqAt.int_int (A := C.A.in1) (s := s) ((met + 1 : Nat) : Int) t1 ((met : Int) + 1)
      rw [show ((((met + 1 : Nat) : Int)) == ((met : Int) + 1)) = true by simp] at this
      exact this _
    · cases hx; cases hy
      have := EqAt.int_int (A := C.A.in1) (s := s) ((met + 1 : Nat) : Int) t2 ((met : Int) + 1)
      rw [show ((((met + 1 : Nat) : Int)) == ((met : Int) + 1)) = true by simp] at this
      exact this _
  refine ⟨_, rfl, ?_⟩
  refine tr_iteF ?_
  refine Tr.execs_nil ?_
  refine Then_next ?_
  refine Tr.execs_cons ?_
  refine Tr.assignComp [] hck (by kernel_rfl) (by rw [swaps_scope (e' := envOf _) hsc]; rfl) ?_
  refine Tr.list ?_
  refine Tr.spl_cons ?_
  refine Tr.nameC (List.Mem.tail _ (List.Mem.tail _ (List.Mem.tail _ (List.Mem.head _)))) ?_
  refine Tr.spl_cons ?_
  refine Tr.nameC (List.Mem.tail _ (List.Mem.head _)) ?_
  refine Tr.spl_nil ?_
  refine Tr.newList (by first | decide | (simp only [List.length_cons, List.length_nil]; decide)) ?_
  intro _
  rename_i aL1 aL2 aS
  generalize hl0 : (aS, Ct.list [Value.ref lft, Value.ref rgt]) :: _ = led0 at *
  have hS : (aS, Ct.list [Value.ref lft, Value.ref rgt]) ∈ led0 := by rw [← hl0]; exact .head _
  have hR : (rgt, Ct.list vsR) ∈ led0 := by rw [← hl0]; exact .tail _ (.tail _ (.tail _ (.head _)))
  have hLf : (lft, Ct.list vsL) ∈ led0 := by rw [← hl0]; exact .tail _ (.tail _ (.tail _ (.tail _ (.head _))))
  have hT : (109, Ct.obj (tabObj ps)) ∈ led0 := by rw [← hl0]; exact .tail _ (.tail _ (.tail _ (.tail _ (.tail _ (.head _)))))
  have hG : (rg, Ct.pred (RngO 0 ((N : Int) + 1) 1)) ∈ led0 := by rw [← hl0]; exact .tail _ (.tail _ (.tail _ (.tail _ (.tail _ (.tail _ hrg)))))
  refine ⟨2, _, _, fun i ys led => (∃ new, led = new ++ led0) ∧ ys = List.replicate i (.bool true), ⟨src_list (vs := [Value.ref lft, Value.ref rgt]), by decide, by kernel_rfl, .inl ⟨_, _, rfl, by decide⟩, .inl hS, ⟨⟨[], rfl⟩, rfl⟩, fun _ _ _ pre h => ?_, ?_⟩, ?_⟩
  · obtain ⟨⟨new, h⟩, _⟩ := h
    exact .inl (by rw [h]; exact List.mem_append_right _ (List.mem_append_right _ hS))
  · intro C' cx i ys led own v hin' hv hJ hown
    obtain ⟨c, ov, rfl⟩ := own_one (x := Str.ofString "asked") (by rw [hown]; rfl)
    obtain ⟨⟨new, rfl⟩, rfl⟩ := hJ
    obtain ⟨aa, vs, rfl, haa, hvs⟩ : ∃ aa vs, v = .ref aa ∧ (aa, Ct.list vs) ∈ new ++ led0 ∧ Nums vs pr := by
      have hi : i = 0 ∨ i = 1 := by omega
      rcases hi with rfl | rfl
      · cases hv; exact ⟨lft, vsL, rfl, List.mem_append_right _ hLf, hvL⟩
      · cases hv; exact ⟨rgt, vsR, rfl, List.mem_append_right _ hR, hvR⟩
    have hvl := hvs.length
    have G' := glb_of cx [Str.ofString "len"] (by kernel_rfl)
    have hck' := cx.ck
    have hint' := cx.inter
    generalize hcap9 : capOf _ _ = cel9
    have ecap9 := Eq.trans (Eq.symm hcap9) (CapR.eq (.drop (by kernel_rfl) (.drop (by kernel_rfl) (.drop (by kernel_rfl) (.drop (by kernel_rfl) (.keep (by kernel_rfl) (.drop (by kernel_rfl) (.drop (by kernel_rfl) (.nil)))))))))
    clear hcap9
    subst ecap9
    change Tr _ _ _ _
    set_option simprocs false in (conv => arg 4; dsimp only [List.cons_append, List.nil_append, List.map_cons, List.map_nil])
    refine Tr.aName ?_
    refine Tr.storeC .head (by assumption) ?_
    refine Tst_nil ?_
    refine tr_iteT ?_
    refine Tr.and2 ?_
    refine Tr.cmp1 ?_
    refine Tr.callN ?_
    refine Tr.nameB (by assumption) (by decide +kernel) (Mine.b_len).1 (Mine.b_len).2.1 (Mine.b_len).2.2 ?_
    refine Tr.callW kept_builtin ?_
    refine Tr.spl_cons ?_
    refine Tr.nameC (List.Mem.head _) ?_
    refine Tr.spl_nil ?_
    refine Tr.lenList (.inl haa) (by omega) ?_
    intro _
    refine Tr.callM1 (pl := _) ?_ (by rfl)
    refine Tr.callN ?_
    refine Tr.nameB (by assumption) (by decide +kernel) (Mine.b_len).1 (Mine.b_len).2.1 (Mine.b_len).2.2 ?_
    refine Tr.callW kept_builtin ?_
    refine Tr.spl_cons ?_
    refine Tr.nameC (List.Mem.tail _ (List.Mem.head _)) ?_
    refine Tr.spl_nil ?_
    have hN1 : (((N + 1 : Nat)) : Int) = (N : Int) + 1 := by push_cast; rfl
    refine Tr.lenRange (n := N + 1) (.inl (List.mem_append_right _ hG)) (by rw [rangeSize_one]; split <;> omega) (by omega) ?_
    intro _
    refine Tr.methI PySem.F.slot_int_bit_length PySem.F.plainAttrs_int PySem.F.type_int_bit_length ?_
    refine Tr.callW0 kept_builtin ?_
    refine Tr.bitlen ?_
    intro _
    refine Mine.Tr.leI ?_
    refine Tr.truthyB ?_
    refine tr_ite (fun _ => ?_) (fun h => h.elim (by rw [hN1]; omega))
    refine Tr.cmp1 ?_
    refine Tr.listComp [Str.ofString "many"] hck' (by kernel_rfl) ?_
    refine Tr.nameC (List.Mem.head _) ?_
    refine ⟨vs.length, _, _, fun k zs led => led = new ++ led0 ∧ zs = [], ⟨src_list, by rw [sizeLine_eq]; omega, by kernel_rfl, .inl ⟨_, _, rfl, by decide⟩, .inl haa, ⟨rfl, rfl⟩, fun _ _ _ pre h => .inl (List.mem_append_right _ (by rw [h.1]; exact haa)), ?_⟩, ?_⟩
    · intro C2 cx2 k zs led own v hk hv2 hJ hown2
      rw [own_nil hown2]
      obtain ⟨rfl, rfl⟩ := hJ
      have hkp : k < pr.length := by omega
      obtain ⟨u, hu⟩ := hvs.get (List.getElem?_eq_getElem hkp)
      have hv3 : vs[k]? = some v := hv2
      rw [hv3] at hu
      cases Option.some.inj hu
      have hc1 := hp2 pr[k]
      generalize hcap9 : capOf _ _ = cel9
      have ecap9 := Eq.trans (Eq.symm hcap9) (CapR.eq (.keep (by kernel_rfl) (.drop (by kernel_rfl) (.nil))))
      clear hcap9
      subst ecap9
      change Tr _ _ _ _
      set_option simprocs false in (conv => arg 4; dsimp only [List.cons_append, List.nil_append, List.map_cons, List.map_nil])
      refine Tr.aName ?_
      set_option simprocs false in (conv => arg 4; dsimp only [List.cons_append, List.nil_append, List.map_cons, List.map_nil])
      refine Tr.storeL .head ?_
      refine Tst_one ?_
      refine Tr.isCmp1 ?_
      refine Tr.callM1 (pl := _) ?_ (by rfl)
      refine Tr.nameC (List.Mem.head _) ?_
      refine Tr.methL haa PySem.F.slot_list_count PySem.F.plainAttrs_list PySem.F.type_list_count ?_
      refine Tr.callW kept_builtin ?_
      refine Tr.spl_cons ?_
      refine Tr.nameL (List.Mem.head _) ?_
      refine Tr.spl_nil ?_
      refine Tr.countN (.inl haa) hvs ?_
      intro _
      refine Tr.int ?_
      intro _
      refine Mine.Tr.gtI ?_
      refine ⟨_, rfl, ?_⟩
      refine tr_ite (fun h => absurd h (by omega)) (fun _ => ?_)
      exact ⟨⟨[], rfl, by kernel_rfl⟩, rfl, rfl⟩
    · rintro D2 zs led ⟨rfl, rfl⟩
      set_option simprocs false in (conv => arg 4; dsimp only [List.cons_append, List.nil_append, List.map_cons, List.map_nil])
      refine Tr.list ?_
      refine Tr.spl_nil ?_
      refine Tr.newList (by first | decide | (simp only [List.length_cons, List.length_nil]; decide)) ?_
      intro _
      refine Tr.eqNil (.inl (.tail _ (.head _))) (.inl (.head _)) ?_
      refine ⟨⟨[(Str.ofString "asked", c, some (.ref aa))], rfl, by kernel_rfl⟩, ⟨_, (List.cons_append (as := (_ :: new))).symm⟩, ?_⟩
      rw [List.replicate_succ']; rfl
  rintro D ys led ⟨⟨new, rfl⟩, rfl⟩
  refine ⟨_, .tail (.tail (.tail (.tail (.tail .head)))), ?_⟩
  refine Then_next ?_
  set_option simprocs false in (conv => arg 4; dsimp only [List.cons_append, List.nil_append, List.map_cons, List.map_nil])
  refine Tr.execs_cons ?_
  refine Tr.ret ?_
  refine Tr.cmp1 ?_
  refine Tr.nameL (List.Mem.tail _ (List.Mem.tail _ (List.Mem.tail _ (List.Mem.tail _ (List.Mem.tail _ (List.Mem.head _)))))) ?_
  refine Tr.list ?_
  refine Tr.spl_cons ?_
  refine Tr.boolc ?_
  refine Tr.spl_cons ?_
  refine Tr.boolc ?_
  refine Tr.spl_nil ?_
  refine Tr.newList (by first | decide | (simp only [List.length_cons, List.length_nil]; decide)) ?_
  intro _
  refine Tr.eqSame (.inl (.tail _ (.head _))) (.inl (.head _)) rfl (fun s H hu j x y hx hy => ?_) ?_
  · have hj : j = 0 ∨ j = 1 := by
      have := (List.getElem?_eq_some_iff.mp hy).1
      simp only [List.length_cons, List.length_nil] at this
      omega
    rcases hj with rfl | rfl
    · cases hx; cases hy; exact EqAt.bool_bool true true
    · cases hx; cases hy; exact EqAt.bool_bool true true
  exact ⟨rfl, ps, .tail _ (.tail _ (List.mem_append_right _ hT))⟩
end Mine
end
section
open PySem PySem.W PySem.Calls PyProof PyProof.Rows PySem.Spec PyProof.V PySem.Builtin.Str
set_option linter.unusedVariables false
namespace Mine
theorem br_means : ∀ neg ∈ [true, false], ∀ lo ∈ ab, ∀ hi ∈ ab, ∀ more ∈ ([[], [97], [98], [99], [100]] : List (List Nat)), partMeans (brPart neg lo hi more) = ab.filter fun c => ((decide (lo ≤ c) && decide (c ≤ hi)) || decide ([c] = more)) != neg := by
  decide +kernel
theorem let_ab {c : Nat} (h : IsLet c) : c ∈ ab := by
  obtain ⟨h1, h2⟩ := h
  have : c = 97 ∨ c = 98 ∨ c = 99 ∨ c = 100 := by omega
  rcases this with rfl | rfl | rfl | rfl <;> decide
def plcs (nm ps : List Nat) (it : Item) : List Nat := stepOf nm ps it.means (decide (it.text = [42]))
theorem part_step {nm ps : List Nat} {it : Item} (h : Shape it) : partStep nm ps it.part = plcs nm ps it := by
  cases h with
  | lett c hc =>
    have h1 : ∀ k, (k < 97 ∨ 100 < k) → c ≠ k := fun k hk e => by have := hc.1; have := hc.2; omega
    have e1 : partMeans [c] = [c] := by
      unfold partMeans
      rw [if_neg (fun e => h1 46 (by decide) (List.singleton_inj.mp e)), if_neg (fun e => by cases e)]
      exact if_neg (fun e => h1 91 (by decide) e)
    show stepOf nm ps (partMeans [c]) false = stepOf nm ps [c] (decide ([c] = [42]))
    rw [e1, decide_eq_false (fun e => h1 42 (by decide) (List.singleton_inj.mp e))]
  | any => rfl
  | star => rfl
  | br neg lo hi more hlo hhi hm =>
    have e1 : decide (brText neg lo hi more = [42]) = false := decide_eq_false fun e => by
      have := congrArg List.length e
      rw [brText] at this
      simp at this
    show stepOf nm ps (partMeans (brPart neg lo hi more)) false = stepOf nm ps _ (decide (brText neg lo hi more = [42]))
    rw [e1, br_means neg (by cases neg <;> simp) lo (let_ab hlo) hi (let_ab hhi) more ?_]
    rcases hm with rfl | ⟨m, h, rfl⟩
    · simp
    · obtain ⟨h1, h2⟩ := h
      have : m = 97 ∨ m = 98 ∨ m = 99 ∨ m = 100 := by omega
      rcases this with rfl | rfl | rfl | rfl <;> simp
theorem star_idem (nm ps : List Nat) : stepOf nm (stepOf nm ps [] true) [] true = stepOf nm ps [] true := by
  cases ps with
  | nil => rfl
  | cons p r =>
    show stepOf nm (List.range' p (nm.length + 1 - p)) [] true = List.range' p (nm.length + 1 - p)
    cases h : nm.length + 1 - p with
    | zero => rfl
    | succ n =>
      show List.range' p (nm.length + 1 - p) = _
      rw [h]
theorem fold_parts (nm : List Nat) : ∀ n, ∀ its : List Item, its.length = n → (∀ it ∈ its, Shape it) → (trOf its).foldl (partStep nm) [0] = its.foldl (plcs nm) [0] := by
  intro n
  induction n with
  | zero =>
    intro its h _
    have : its = [] := List.length_eq_zero_iff.mp h
    subst this; rfl
  | succ n ih =>
    intro its h hs
    have hne : its ≠ [] := fun e => by subst e; cases h
    obtain ⟨a, b, rfl⟩ : ∃ a b, its = a ++ [b] := ⟨its.dropLast, its.getLast hne, (List.dropLast_concat_getLast hne).symm⟩
    have h1 := ih a (by simpa using h) (fun it hit => hs it (List.mem_append_left _ hit))
    have hb := part_step (nm := nm) (ps := a.foldl (plcs nm) [0]) (hs b (List.mem_append_right _ (List.mem_singleton.mpr rfl)))
    rw [trOf_snoc, List.foldl_append]
    show (trStep1 (trOf a) b).foldl (partStep nm) [0] = plcs nm (a.foldl (plcs nm) [0]) b
    rw [← hb, ← h1]
    unfold trStep1
    cases hp : b.part with
    | some l =>
      show (trOf a ++ [some l]).foldl (partStep nm) [0] = _
      rw [List.foldl_append]; rfl
    | none =>
      show (if (trOf a).getLast? = some none then trOf a else trOf a ++ [none]).foldl (partStep nm) [0] = _
      by_cases q : (trOf a).getLast? = some none
      · rw [if_pos q]
        have hne2 : trOf a ≠ [] := fun e => by rw [e] at q; cases q
        have e2 : trOf a = (trOf a).dropLast ++ [none] := by
          have := (List.dropLast_concat_getLast hne2).symm
          have e3 : (trOf a).getLast hne2 = none := by
            rw [List.getLast?_eq_some_getLast hne2] at q
            exact Option.some.inj q
          rw [e3] at this; exact this
        rw [e2, List.foldl_append]
        show partStep nm _ none = partStep nm (partStep nm _ none) none
        exact (star_idem nm _).symm
      · rw [if_neg q, List.foldl_append]; rfl
def plAt (nm : List Nat) (its : List Item) (k : Nat) : List Nat := (its.take k).foldl (plcs nm) [0]
theorem plok_at (nm : List Nat) (its : List Item) : PlOk nm (its.foldl (plcs nm) [0]) := by
  have : ∀ (its : List Item) (ps : List Nat), PlOk nm ps → PlOk nm (its.foldl (plcs nm) ps) := by
    intro its
    induction its with
    | nil => intro ps h; exact h
    | cons a r ih => intro ps h; exact ih _ h.step
  exact this its [0] ⟨fun p hp => by simp at hp; omega, by simp⟩
theorem falls_pl (nm : List Nat) (its : List Item) (hsh : ∀ it ∈ its, Shape it) (m : Nat) : fallsOf nm its m = decide (plAt nm its m = []) := by
  have hsT : ∀ it ∈ its.take m ++ [itemOf 8], Shape it := fun it h => by
    rcases List.mem_append.mp h with h | h
    · exact hsh it (List.mem_of_mem_take h)
    · rw [List.mem_singleton] at h; subst h; exact shape_of 8
  unfold fallsOf
  rw [fold_parts nm _ _ rfl hsT, List.foldl_append, star8]
  show decide (stepOf nm (plAt nm its m) [] true = []) = _
  have hok : PlOk nm (plAt nm its m) := plok_at nm _
  cases h : plAt nm its m with
  | nil => rfl
  | cons p r =>
    rw [h] at hok
    have hp := hok.1 p List.mem_cons_self
    have e : stepOf nm (p :: r) [] true = p :: List.range' (p + 1) (nm.length - p) := by
      show List.range' p (nm.length + 1 - p) = _
      rw [show nm.length + 1 - p = (nm.length - p) + 1 by omega, List.range'_succ]
    rw [e]
    simp
theorem pl_stop (nm : List Nat) (it : Item) : plcs nm [] it = [] := by
  unfold plcs stepOf
  split <;> rfl
theorem met_count (nm : List Nat) (its : List Item) : ∀ j, j ≤ its.length → ((its.take j).foldl (metStep nm) (0, [0])).2 = plAt nm its j ∧ ((its.take j).foldl (metStep nm) (0, [0])).1 ≤ j ∧ ∀ m, m ≤ j → (plAt nm its m = [] ↔ ((its.take j).foldl (metStep nm) (0, [0])).1 < m) := by
  intro j
  induction j with
  | zero =>
    intro _
    refine ⟨rfl, Nat.le_refl _, fun m hm => ?_⟩
    have : m = 0 := by omega
    subst this
    exact ⟨fun h => absurd (show ([0] : List Nat) = [] from h) (by decide), fun h => absurd h (Nat.lt_irrefl _)⟩
  | succ j ih =>
    intro hj
    obtain ⟨h1, h2, h3⟩ := ih (by omega)
    have ht : its.take (j + 1) = its.take j ++ [its[j]] := List.take_succ_eq_append_getElem hj
    have hp : plAt nm its (j + 1) = plcs nm (plAt nm its j) its[j] := by unfold plAt; rw [ht, List.foldl_append]; rfl
    rw [ht, List.foldl_append]
    generalize (its.take j).foldl (metStep nm) (0, [0]) = st at *
    have e : [its[j]].foldl (metStep nm) st = (if plAt nm its (j + 1) ≠ [] then st.1 + 1 else st.1, plAt nm its (j + 1)) := by
      show metStep nm st its[j] = _
      unfold metStep
      rw [h1, hp]; rfl
    rw [e]
    refine ⟨rfl, ?_, fun m hm => ?_⟩
    · show (if plAt nm its (j + 1) ≠ [] then st.1 + 1 else st.1) ≤ j + 1
      split <;> omega
    · show plAt nm its m = [] ↔ (if plAt nm its (j + 1) ≠ [] then st.1 + 1 else st.1) < m
      by_cases hq : plAt nm its (j + 1) = []
      · rw [if_neg (fun q => q hq)]
        by_cases hmj : m ≤ j
        · exact h3 m hmj
        · have : m = j + 1 := by omega
          subst this
          exact ⟨fun _ => by omega, fun _ => hq⟩
      · rw [if_pos hq]
        have hpj : plAt nm its j ≠ [] := fun q => hq (by rw [hp, q, pl_stop])
        have hc : ¬ st.1 < j := fun q => hpj ((h3 j (Nat.le_refl _)).mpr q)
        by_cases hmj : m ≤ j
        · constructor
          · intro q
            have := (h3 m hmj).mp q
            omega
          · intro q; omega
        · have : m = j + 1 := by omega
          subst this
          constructor
          · intro q; exact absurd q hq
          · intro q; omega
theorem falls_met (nm : List Nat) (its : List Item) (hsh : ∀ it ∈ its, Shape it) : (metOf nm its).1 ≤ its.length ∧ ∀ m, m ≤ its.length → fallsOf nm its m = decide ((metOf nm its).1 < m) := by
  obtain ⟨_, h2, h3⟩ := met_count nm its its.length (Nat.le_refl _)
  rw [List.take_length] at h2 h3
  refine ⟨h2, fun m hm => ?_⟩
  rw [falls_pl nm its hsh m]
  exact decide_eq_decide.mpr (h3 m hm)
theorem bis_congr (f g : Nat → Bool) : ∀ (n lo hi : Nat) (acc : List Nat), (∀ i, i < hi → f i = g i) → bis f n lo hi acc = bis g n lo hi acc
  | 0, _, _, _, _ => rfl
  | n + 1, lo, hi, acc, h => by
    unfold bis
    by_cases hl : lo < hi
    · rw [if_pos hl, if_pos hl]
      have hm : (lo + hi) / 2 < hi := by omega
      rw [h _ hm, bis_congr f g n lo _ _ (fun i hi' => h i (by omega)), bis_congr f g n _ hi _ h]
    · rw [if_neg hl, if_neg hl]
theorem bis_fin : ∀ M ∈ List.range 13, ∀ met ∈ List.range M, (bis (fun m => decide (met < m)) M 0 M []).1 = met + 1 ∧ (bis (fun m => decide (met < m)) M 0 M []).2.length ≤ Builtin.Int.intBits (M : Nat) ∧
    (bis (fun m => decide (met < m)) M 0 M []).2.length ≤ 20 ∧ ∀ k ∈ (bis (fun m => decide (met < m)) M 0 M []).2, (bis (fun m => decide (met < m)) M 0 M []).2.count k ≤ 1 := by
  decide +kernel
theorem law_math (nm : List Nat) (its : List Item) (hsh : ∀ it ∈ its, Shape it) (hN : its.length ≤ 11) :
    (bis (fallsOf nm its) (its.length + 1) 0 (its.length + 1) []).1 = (metOf nm its).1 + 1 ∧ (bis (fallsOf nm its) (its.length + 1) 0 (its.length + 1) []).2.length ≤ Builtin.Int.intBits ((its.length : Int) + 1) ∧
    (bis (fallsOf nm its) (its.length + 1) 0 (its.length + 1) []).2.length ≤ 20 ∧ ∀ k, (bis (fallsOf nm its) (its.length + 1) 0 (its.length + 1) []).2.count k ≤ 1 := by
  obtain ⟨h1, h2⟩ := falls_met nm its hsh
  have e := bis_congr (fallsOf nm its) (fun m => decide ((metOf nm its).1 < m)) (its.length + 1) 0 (its.length + 1) [] (fun i hi => h2 i (by omega))
  obtain ⟨f1, f2, f3, f4⟩ := bis_fin (its.length + 1) (List.mem_range.mpr (by omega)) (metOf nm its).1 (List.mem_range.mpr (by omega))
  rw [e]
  refine ⟨f1, by rw [show ((its.length : Int) + 1) = ((its.length + 1 : Nat) : Int) by push_cast; rfl]; exact f2, f3, fun k => ?_⟩
  by_cases hk : k ∈ (bis (fun m => decide ((metOf nm its).1 < m)) (its.length + 1) 0 (its.length + 1) []).2
  · exact f4 k hk
  · rw [List.count_eq_zero_of_not_mem hk]; omega
end Mine
end
section
open PySem PySem.W PySem.Calls PyProof PyProof.Rows PySem.Spec PyProof.V PySem.Builtin.Str
set_option linter.unusedVariables false
namespace Mine
theorem items_shape (ns : List Int) : ∀ it ∈ itemsOf ns, Shape it := fun it h => by
  obtain ⟨x, _, rfl⟩ := List.mem_map.mp h
  exact shape_of x
theorem items_len (ns : List Int) : (itemsOf ns).length ≤ 11 := by
  unfold itemsOf
  simp only [List.length_map, List.length_append, List.length_take, List.length_cons, List.length_nil]; omega
theorem name_len (h : Int) : (nameOf h).length ≤ 5 := by
  have h0 := Int.fmod_nonneg_of_pos h (b := 5) (by omega)
  have h1 := Int.fmod_lt_of_pos h (b := 5) (by omega)
  unfold nameOf nameN
  rw [List.length_map, List.length_range]; omega
theorem law_spec {w : World} {s : Shared} (P : Pre w [109] s) (htab : s.heap.get? 109 = some (tabObj #[])) (ns : List Int) (sl : Addr) (svs : List Value) (hsl : (hideAll s.heap (50 :: 50 :: [109])).IsList sl svs.toArray) (hns : IntsAre svs ns) (hn : ns.length ≤ 63) :
    Spec w [109] 8 (.ref 112) [.ref sl] [] (fun v new => v = .bool true ∧ ∃ ps, (109, Ct.obj (tabObj ps)) ∈ new) s := by
  refine Spec.enter (ml := [(109, .obj (tabObj #[]))]) (binds := [(Str.ofString "script", .ref sl)]) (ln := law.ln) (gl := law.gl) P rfl ?_ (by simp) law_at rfl (fun s _ => BindsTo.of_eq rfl) (by simp only [List.map_cons, List.map_nil]; decide +kernel) (by kernel_rfl) (by decide +kernel) (by decide +kernel) (by decide +kernel) (by decide +kernel) (by decide +kernel) ?_
  · intro a c h
    rw [List.mem_singleton] at h
    cases h
    exact ⟨⟨_, htab, rfl⟩, by decide, by decide⟩
  intro C L hw h0 hd hck G hin hco hq hsc hce
  have hS : ∀ S, LAt C S sl svs := fun S => .inr (by rw [h0]; exact hsl)
  have K : LawCx C L w := ⟨hw, hd, hck, G, hin, hco, hq, hsc, hce⟩
  refine Tr.startN (loc := [(Str.ofString "script", some (Value.ref sl)), (Str.ofString "items", none), (Str.ofString "met", none), (Str.ofString "first", none), (Str.ofString "last", none), (Str.ofString "few", none)]) (cel := [(Str.ofString "texts", L + 1 + 1 + 1 + 1 + 1 + 1 + 1, none), (Str.ofString "right", L + 1 + 1 + 1 + 1 + 1 + 1, none), (Str.ofString "name", L + 1 + 1 + 1 + 1 + 1, none), (Str.ofString "left", L + 1 + 1 + 1 + 1, none), (Str.ofString "heads", L + 1 + 1 + 1, none), (Str.ofString "parts", L + 1 + 1, none), (Str.ofString "head", L + 1, none)]) (by kernel_rfl) (by kernel_rfl) ?_
  refine lawA K ns sl svs hS hns hn fun il ivs tn hv X h1 h2 => ?_
  have hsh := items_shape ns
  have hil := items_len ns
  have hnm := name_len (headOf ns)
  obtain ⟨m1, m2, m3, m4⟩ := law_math (nameOf (headOf ns)) (itemsOf ns) hsh hil
  refine lawB K (itemsOf ns) hil (nameOf (headOf ns)) hnm _ _ il ivs tn X h1 h2 fun tl tvs pl pvs rg lft rgt tm mv lv fv Y g1 g2 g3 g4 g5 => ?_
  refine lawC K (itemsOf ns) hsh hil (nameOf (headOf ns)) hnm _ _ _ _ _ il tn tm _ tl tvs pl pvs rg lft rgt Y g1 g2 g3 g4 g5 ?_
  refine lawD K (itemsOf ns) hsh hil (nameOf (headOf ns)) hnm _ _ _ _ _ _ _ tn _ tl tvs rg lft rgt Y g1 g2 g5 fun t1 t2 vsL vsR ps n1 n2 => ?_
  rw [m1]
  exact lawE K (itemsOf ns).length hil _ _ _ _ _ _ _ tm t1 t2 (metOf (nameOf (headOf ns)) (itemsOf ns)).1 _ m2 m3 m4 rg lft rgt vsL vsR n1 n2 ps Y g5
end Mine
end
section
open PySem PySem.W PySem.Calls PyProof PyProof.Rows PySem.Spec PyProof.V PySem.Builtin.Str
set_option linter.unusedVariables false
namespace Mine
theorem ns_hide {h : Heap} {L : Addr} {m : Str → Option Value} (n : h.Ns L m) {l : List Addr} (hl : L ∉ l) : (hideAll h l).Ns L m := by
  obtain ⟨o, es, ep, e, r⟩ := n
  exact ⟨o, es, ep, hideAll_get _ e hl, r⟩
theorem law_ends {w : World} {s : Shared} {mg mb : Str → Option Value} {p : Program} {loose : List Str} {mean : ExcName → Option Value} (T : Top p loose mean mg mb s.heap) (KX : (hd.heap_39 w.params).In s.heap) (h50 : s.heap.get? 50 = some (tabObj #[])) (h109 : s.heap.get? 109 = some (tabObj #[])) (hg : s.gens = #[])
    (ns : List Int) (sl : Addr) (svs : List Value) (hsl : s.heap.IsList sl svs.toArray) (hns : IntsAre svs ns) (hn : ns.length ≤ 63) :
    wpAny (model pg w) callerA (call (.ref 112) [.ref sl]) (fun v s' => v = .bool true ∧ OldK s.heap s'.heap ∧ s'.os = s.os ∧ AllBare s'.gens) (fun _ _ => False) s := by
  have keep : ∀ b o, s.heap.get? b = some o → o ≠ tabObj #[] → (hideAll s.heap (50 :: 50 :: [109])).get? b = some o := fun b o e hne => hideAll_get _ e fun q => by
    simp only [List.mem_cons, List.mem_nil_iff, or_false] at q
    rcases q with rfl | rfl | rfl
    · rw [h50] at e; exact hne (Option.some.inj e).symm
    · rw [h50] at e; exact hne (Option.some.inj e).symm
    · rw [h109] at e; exact hne (Option.some.inj e).symm
  have hide : ∀ L, L ≠ 50 → L ≠ 109 → L ∉ (50 :: 50 :: [109] : List Addr) := fun L a b q => by
    simp only [List.mem_cons, List.mem_nil_iff, or_false] at q
    rcases q with q | q | q
    · exact a q
    · exact a q
    · exact b q
  have TL : TopL mg mb (hideAll s.heap (50 :: 50 :: [109])) := {
    g := ns_hide T.g (hide _ (by decide) (by decide))
    b := ns_hide T.b (hide _ (by decide) (by decide))
    nolimit := by
      obtain ⟨mc, h1, h2⟩ := T.nolimit
      exact ⟨mc, ns_hide h1 (hide _ (by decide) (by decide)), h2⟩
    nodigits := let ⟨mc, h1, h2⟩ := T.nodigits; ⟨mc, ns_hide h1 (hide _ (by decide) (by decide)), h2⟩
    builtins := T.builtins
    bmain := let ⟨bm, ob, h1, h2, h3, h4, h5, h6⟩ := T.bmain; ⟨bm, ob, h1, h2, keep _ _ h3 (fun q => by rw [q] at h4; cases h4), h4, h5, h6⟩ }
  have P : Pre w [109] s := ⟨⟨fun a o e => hideAll_get _ (KX a o e) (hide a (fun q => by
      subst q
      have : (hd.heap_39 w.params).lookup 50 = none := rfl
      rw [this] at e; cases e) (fun q => by
      subst q
      have : (hd.heap_39 w.params).lookup 109 = none := rfl
      rw [this] at e; cases e)), mg, mb, TL⟩, ⟨⟨_, h50, trivial⟩, ⟨_, h50, trivial⟩⟩, .of_eq hg⟩
  have hsl' : (hideAll s.heap (50 :: 50 :: [109])).IsList sl svs.toArray := by
    obtain ⟨o, e, hc, r⟩ := hsl
    exact ⟨o, keep _ _ e (fun q => by rw [q] at hc; cases hc), hc, r⟩
  refine wpAny_mono (law_spec P h109 ns sl svs hsl' hns hn callerA rfl (by decide) (by decide)) (fun v s' ⟨new, B, e, ps, hm⟩ => ⟨e, ?_, B.os, B.gens⟩) fun _ _ e => e
  have t50 : isCodeTable s.heap 50 := ((codeHd_of_K (c := 54) (P := 50) KX (by kernel_rfl)).tab h50).isCodeTable
  have t109 : isCodeTable s.heap 109 := ((codeHd_of_K (c := 111) (P := 109) KX (by kernel_rfl)).tab h109).isCodeTable
  have g50 : ∃ ps, s'.heap.get? 50 = some (tabObj ps) := let ⟨ps, e, _⟩ := B.gi.t1; ⟨ps, e⟩
  have g109 : ∃ ps, s'.heap.get? 109 = some (tabObj ps) := by
    obtain ⟨⟨o, e, i⟩, _⟩ := B.made _ _ hm
    exact ⟨ps, by rw [e, i]⟩
  refine ⟨fun b o e => ?_, fun b o e => ?_⟩
  · by_cases h1 : b = 50
    · subst h1
      rw [h50] at e; cases e
      obtain ⟨ps, hp⟩ := g50
      exact .inr (.inl ⟨t50, rfl, #[], ps, rfl, by rw [Array.empty_append]; exact hp⟩)
    · by_cases h2 : b = 109
      · subst h2
        rw [h109] at e; cases e
        obtain ⟨ps, hp⟩ := g109
        exact .inr (.inl ⟨t109, rfl, #[], ps, rfl, by rw [Array.empty_append]; exact hp⟩)
      · exact .inl (B.keep b o h1 h1 (by simp [h2]) e)
  · by_cases h1 : b = 50
    · subst h1; obtain ⟨ps, hp⟩ := g50; exact ⟨_, hp⟩
    · by_cases h2 : b = 109
      · subst h2; obtain ⟨ps, hp⟩ := g109; exact ⟨_, hp⟩
      · exact ⟨o, B.keep b o h1 h1 (by simp [h2]) e⟩
end Mine
set_option maxHeartbeats 8000000 in
theorem PySem.Challenge.cw_in0018_01_holds : PySem.Challenge.rw_in0018_01.Holds := by
  w_on; o_law
  refine holds_open (q := Mine.view) (loose := Mine.loose) (Xt := fun s => xlAt Mine.view [] s && recOk (RowW.records PySem.Challenge.rw_in0018_01.row.toRowW) s) (XP := XL Mine.view []) (Yf := Hook.obs Mine.Hk) (Ya := Hook.val Mine.Hk) (YP := Hook.says Mine.Hk) (N := 3568) Mine.left (Hook.of Mine.Hk) (Hook.keeps Mine.Hk)
    (fun s e => xl_of s (Bool.and_eq_true_iff.mp e).1) XL.keeps (by rfl) (by rfl) (by rfl) (fun s e => recFacts_of (Bool.and_eq_true_iff.mp e).2) (by rfl) (by first | assumption | decide +kernel) (by decide +kernel) ⟨rfl, rfl, rfl, rfl, rfl, by decide +kernel⟩ ?hw ?hc
  case hw => w_witness2
  case hc =>
    intro w s₀ s₁ mg mb G Y fa o pm cd doc dV kV ho hd hcd hD hmg hg args vals as hpre hlay hrd hwl hlo
    have KX := km_in_of Y
    have hTT := km_tabs_of Y
    refine Ground.open G ?_
    intro T B D TE TW
    have hfa : mg (Str.ofString "law") = some (.ref 112) := mg_of KX (Top.g T) rfl
    have e112 : fa = 112 := by
      have := hmg.symm.trans hfa
      exact Value.ref.inj (Option.some.inj this)
    subst e112
    have t50 := hTT 50 (by simp)
    have t109 := hTT 109 (by simp)
    wrow_args hpre hlay hrd hwl hlo
    rename IntsAre _ _ => hI
    rename Heap.IsList _ _ _ => hL
    rename (¬ ((63 : Nat) : Int) < _) => hc
    refine wpAny_mono (Mine.law_ends T KX t50 t109 hg _ _ _ hL hI (by omega)) (fun v s' hv => ?_) fun _ _ e => e.elim
    obtain ⟨rfl, hk, hos, hgb⟩ := hv
    exact ⟨.inl ⟨.bool true, .bool true, [], rfl, fun _ => rfl, .bool true, by kernel_rfl, fun _ => ⟨List.nodup_nil, fun a h => nomatch h⟩⟩, hk, hos, hgb⟩
end
