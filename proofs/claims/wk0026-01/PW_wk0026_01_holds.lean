import PyProof.Rows.All
import Wide.All
import OpenK.AllK
import Wide.FinOn
import KE.KNestM
import KE.KSuper
import KE.KFromBytes
import KE.BitLaws
import KE.KxIndex
import KE.KIntText
import KE.KSlice
import PySem.Challenge.RW_wk0026_01
set_option Elab.async false
set_option compiler.extract_closed false
section
open PySem PySem.W PyProof.Rows
set_option maxRecDepth 100000
set_option maxHeartbeats 8000000
namespace MineH
def qv : Program := view PySem.Challenge.rw_wk0026_01.row.toRowW.1 [0, 2, 3, 5, 6, 8, 9, 10, 11, 12, 13, 14, 15, 16, 17, 18, 19, 20, 21, 22, 23, 24, 25, 26, 27, 28, 29, 30, 31, 32, 33, 34, 35, 36, 37, 38, 39, 40, 41, 42, 43, 44, 45, 46, 47, 48, 49, 50, 51, 52, 53, 54, 55, 56, 57, 58, 60, 61, 62, 63, 64, 65, 66]
abbrev lo : List Str := [Str.ofString "COMPILER_FLAG_NAMES", Str.ofString "_Accumulator", Str.ofString "EXACT_TOKEN_TYPES"]
theorem boot_e : opening PySem.Challenge.rw_wk0026_01.row.toRowW.1 = plainProg PySem.Challenge.rw_wk0026_01.row.toRowW.1.main.scope.names := by kernel_rfl
theorem boot_f (s : Shared) : fenceModules? PySem.Challenge.rw_wk0026_01.row.toRowW.1 s = some s := by kernel_rfl
theorem said : PySem.Challenge.rw_wk0026_01.wellSaid = true := by
  rw [PySem.W.Fast.te9446332074065402090]
  kernel_rfl
abbrev rr : RowW := PySem.Challenge.rw_wk0026_01.row.toRowW
abbrev pE : Program := PySem.Challenge.rw_wk0026_01.row.toRowW.1
abbrev xt : Shared → Bool := fun s => xlAt qv [] s && recOk (RowW.records rr) s
abbrev an : Option Value := some (.ref 6)
abbrev pos0 : Pos := { line := 0, col := 0, endLine := 0, endCol := 0 }
abbrev pos1 : Pos := { line := 162, col := 0, endLine := 181, endCol := 90 }
def en : Env := { scope := pE.main.scope, locals := mainNs, globals := mainNs, cells := [], code := .ref 13, frame := some 14 }
abbrev cE : Code := .body (behindTheImports pE) en
abbrev fr0 : List Frame := [topFrame pos0]
def ob1 : Obj := { cls := Value.type "tuple", data := Data.seq #[] }
def ob2 : Obj := { cls := Value.none, data := Data.fields #[] }
def ob3 : Obj := { cls := Value.type "code", data := Data.fields #[Value.str (Str.ofString "<module>") 182, Value.str (Str.ofString "<module>") 183, Value.str (Str.ofString "/claim/cut.py") 184, Value.int 1 0, Value.int 0 0, Value.int 0 0, Value.int 0 0, Value.int 0 0, Value.ref 11, Value.bool false, Value.int 181 0, Value.ref 12, Value.none, Value.none, Value.none, Value.none, Value.int 185 0, Value.int 1 0, Value.str (Str.ofString "/claim/cut.py") 186] }
def ob4 : Obj := { cls := Value.type "frame", slots := #[some (Value.ref 13), some (Value.ref 3), some (Value.ref 3), none, some (Value.str (Str.ofString "__main__") 164), none, some (Value.ref 0)] }
noncomputable def la (P : Params) : List Obj := [boot_o_0 P, boot_o_1 P, boot_o_2 P, boot_o_3 P, boot_o_4 P, boot_o_5 P, boot_o_6 P, boot_o_7 P, boot_o_8 P, boot_o_9 P, boot_o_10 P, ob1, ob2, ob3, ob4]
noncomputable def ta (P : Params) : BT := .node (boot_o_0 P)
  (.node (boot_o_1 P) (.node (boot_o_3 P) (.node (boot_o_7 P) .nil .nil) (.node ob1 .nil .nil)) (.node (boot_o_5 P) (.node (boot_o_9 P) .nil .nil) (.node ob3 .nil .nil)))
  (.node (boot_o_2 P) (.node (boot_o_4 P) (.node (boot_o_8 P) .nil .nil) (.node ob2 .nil .nil)) (.node (boot_o_6 P) (.node (boot_o_10 P) .nil .nil) (.node ob4 .nil .nil)))
noncomputable abbrev st0 (w : World) (os : OsState) : Shared := ⟨boot_heap w.params, Array.mk [], boot_drawn, boot_toks, os⟩
noncomputable abbrev sta (w : World) (os : OsState) : Shared := ⟨⟨⟨la w.params⟩, {}⟩, Array.mk [], {}, 187, os⟩
noncomputable abbrev stb (w : World) (os : OsState) : SharedT := ⟨ta w.params, 15, {}, Array.mk [], {}, 187, os⟩
theorem preT (w : World) (os : OsState) : topGo treeTable pE w 11 an 12 (st0 w os) (topStub pE) = some (sta w os, ⟨denote treeTable cE, cE, pos0, fr0⟩) := by kernel_rfl
theorem blockT (w : World) (os : OsState) : segRun treeTable pE w 11 an 1 1 (sta w os) (blockOf (behindTheImports pE) en cE pos0 fr0) = some (.next, (stb w os).abs, cE, pos0) := by kernel_rfl
theorem sizeT (w : World) : ((boot_heap w.params).isNs mainGlobals && (Array.mk [] : Array GenState).size == 0, (boot_heap w.params).objs.size, (boot_heap w.params).nsMap mainGlobals "__annotations__") = (true, 11, an) := by kernel_rfl
def fob (q : Str) : Stmt → Obj
  | .FunctionDef n a b _ _ _ sc _ _ _ => { cls := Value.none, data := Data.func { name := n, qualname := q, params := a, body := FuncBody.stmts b, scope := sc, globals := 0, closure := [], defaults := Value.none, kwdefaults := Value.none } }
  | _ => default
def fname : Stmt → Str
  | .FunctionDef n _ _ _ _ _ _ _ _ _ => n
  | _ => default
def fobs : List Obj := pE.main.body.flatMap fun st => match st with
  | .FunctionDef n _ _ _ _ _ _ _ _ _ => [fob n st]
  | .ClassDef c _ _ b _ _ _ _ _ _ _ => b.filterMap fun x => match x with
    | .FunctionDef n _ _ _ _ _ _ _ _ _ => some (fob ⟨c.cps ++ (Str.ofString ".").cps ++ n.cps⟩ x)
    | _ => none
  | _ => []
/-- the objects of the last heap that the fragment does not bear, but for the defs' -/
noncomputable def tob (P : Params) : List Obj := [
  PySem.W.boot_o_0 P,
  PySem.W.boot_o_1 P,
  PySem.W.boot_o_4 P,
  PySem.W.boot_o_5 P,
  PySem.W.boot_o_6 P,
  PySem.W.boot_o_7 P,
  PySem.W.boot_o_8 P,
  PySem.W.boot_o_9 P,
  PySem.W.boot_o_10 P,
  { cls := Value.type "tuple", data := Data.seq #[] },
  { cls := Value.none, data := Data.fields #[Value.int 1 0, Value.int 0 0, Value.ref 20, Value.int 6 0, Value.int 0 0, Value.ref 28, Value.int 20 0, Value.int 0 0, Value.ref 36, Value.int 107 0, Value.int 0 0, Value.ref 122, Value.int 110 0, Value.int 0 0, Value.ref 129, Value.int 114 0, Value.int 0 0, Value.ref 134, Value.int 119 0, Value.int 0 0, Value.ref 139, Value.int 128 0, Value.int 0 0, Value.ref 146, Value.int 148 0, Value.int 0 0, Value.ref 151, Value.int 155 0, Value.int 0 0, Value.ref 158, Value.int 162 0, Value.int 0 0, Value.ref 163] },
  { cls := Value.type "code", data := Data.fields #[Value.str (Str.ofString "<module>") 182, Value.str (Str.ofString "<module>") 183, Value.str (Str.ofString "/claim/cut.py") 184, Value.int 1 0, Value.int 0 0, Value.int 0 0, Value.int 0 0, Value.int 0 0, Value.ref 11, Value.bool false, Value.int 181 0, Value.ref 12, Value.none, Value.none, Value.none, Value.none, Value.int 185 0, Value.int 1 0, Value.str (Str.ofString "/claim/cut.py") 186] },
  { cls := Value.type "frame", slots := #[some (Value.ref 13), some (Value.ref 3), some (Value.ref 3), none, some (Value.str (Str.ofString "__main__") 164), none, some (Value.ref 0)] },
  { cls := Value.none, data := Data.fields #[] },
  { cls := Value.none, data := Data.fields #[] },
  { cls := Value.type "builtin_function_or_method", data := Data.fields #[Value.builtin "type.__prepare__", Value.type "type"] },
  { cls := Value.type "dict", data := Data.dict #[{ hash := PyData.keyHash P (Str.ofString "__module__"), key := Value.str (Str.ofString "__module__") 248, val := Value.str (Str.ofString "cpy313.email.header") 237 }, { hash := PyData.keyHash P (Str.ofString "__qualname__"), key := Value.str (Str.ofString "__qualname__") 250, val := Value.str (Str.ofString "_Accumulator") 249 }, { hash := PyData.keyHash P (Str.ofString "__firstlineno__"), key := Value.str (Str.ofString "__firstlineno__") 252, val := Value.int 20 251 }, { hash := PyData.keyHash P (Str.ofString "__init__"), key := Value.str (Str.ofString "__init__") 262, val := Value.ref 46 }, { hash := PyData.keyHash P (Str.ofString "push"), key := Value.str (Str.ofString "push") 271, val := Value.ref 53 }, { hash := PyData.keyHash P (Str.ofString "pop_from"), key := Value.str (Str.ofString "pop_from") 281, val := Value.ref 61 }, { hash := PyData.keyHash P (Str.ofString "pop"), key := Value.str (Str.ofString "pop") 289, val := Value.ref 69 }, { hash := PyData.keyHash P (Str.ofString "__len__"), key := Value.str (Str.ofString "__len__") 296, val := Value.ref 76 }, { hash := PyData.keyHash P (Str.ofString "__str__"), key := Value.str (Str.ofString "__str__") 303, val := Value.ref 83 }, { hash := PyData.keyHash P (Str.ofString "reset"), key := Value.str (Str.ofString "reset") 311, val := Value.ref 91 }, { hash := PyData.keyHash P (Str.ofString "is_onlyws"), key := Value.str (Str.ofString "is_onlyws") 318, val := Value.ref 98 }, { hash := PyData.keyHash P (Str.ofString "part_count"), key := Value.str (Str.ofString "part_count") 326, val := Value.ref 106 }, { hash := PyData.keyHash P (Str.ofString "__static_attributes__"), key := Value.str (Str.ofString "__static_attributes__") 328, val := Value.ref 107 }, { hash := PyData.keyHash P (Str.ofString "__classcell__"), key := Value.str (Str.ofString "__classcell__") 329, val := Value.ref 33 }] 14 },
  { cls := Value.type "tuple", data := Data.seq #[] },
  { cls := Value.none, data := Data.fields #[Value.int 22 0, Value.int 4 0, Value.ref 45, Value.int 26 0, Value.int 4 0, Value.ref 52, Value.int 29 0, Value.int 4 0, Value.ref 60, Value.int 34 0, Value.int 4 0, Value.ref 68, Value.int 39 0, Value.int 4 0, Value.ref 75, Value.int 42 0, Value.int 4 0, Value.ref 82, Value.int 45 0, Value.int 4 0, Value.ref 90, Value.int 51 0, Value.int 4 0, Value.ref 97, Value.int 54 0, Value.int 4 0, Value.ref 105] },
  { cls := Value.type "code", data := Data.fields #[Value.str (Str.ofString "_Accumulator") 243, Value.str (Str.ofString "_Accumulator") 244, Value.str (Str.ofString "/claim/cut.py") 245, Value.int 20 0, Value.int 0 0, Value.int 0 0, Value.int 0 0, Value.int 0 0, Value.ref 34, Value.bool false, Value.int 181 0, Value.ref 35, Value.none, Value.none, Value.none, Value.none, Value.int 246 0, Value.int 20 0, Value.str (Str.ofString "/claim/cut.py") 247] },
  { cls := Value.type "frame", slots := #[some (Value.ref 36), some (Value.ref 3), some (Value.ref 32), none, some (Value.str (Str.ofString "cpy313.email.header") 237), none, some (Value.ref 0)] },
  { cls := Value.none, data := Data.fields #[] },
  { cls := Value.none, data := Data.fields #[] },
  { cls := Value.none, data := Data.fields #[] },
  { cls := Value.none, data := Data.fields #[] },
  { cls := Value.none, data := Data.fields #[] },
  { cls := Value.none, data := Data.fields #[] },
  { cls := Value.none, data := Data.fields #[] },
  { cls := Value.none, data := Data.fields #[] },
  { cls := Value.none, data := Data.fields #[] },
  { cls := Value.type "super", data := Data.fields #[Value.ref 109, Value.ref 109, Value.ref 109] },
  { cls := Value.type "builtin_function_or_method", data := Data.fields #[Value.builtin "object.__init_subclass__", Value.ref 109] },
  { cls := Value.type "dict", data := Data.dict #[{ hash := PyData.keyHash P (Str.ofString "->"), key := Value.str (Str.ofString "->") 471, val := Value.int 51 429 }, { hash := PyData.keyHash P (Str.ofString "."), key := Value.str (Str.ofString ".") 473, val := Value.int 23 373 }, { hash := PyData.keyHash P (Str.ofString "..."), key := Value.str (Str.ofString "...") 475, val := Value.int 52 431 }, { hash := PyData.keyHash P (Str.ofString "/"), key := Value.str (Str.ofString "/") 477, val := Value.int 17 361 }, { hash := PyData.keyHash P (Str.ofString "//"), key := Value.str (Str.ofString "//") 479, val := Value.int 47 421 }, { hash := PyData.keyHash P (Str.ofString "//="), key := Value.str (Str.ofString "//=") 481, val := Value.int 48 423 }, { hash := PyData.keyHash P (Str.ofString "/="), key := Value.str (Str.ofString "/=") 483, val := Value.int 39 405 }, { hash := PyData.keyHash P (Str.ofString ":"), key := Value.str (Str.ofString ":") 485, val := Value.int 11 349 }, { hash := PyData.keyHash P (Str.ofString ":="), key := Value.str (Str.ofString ":=") 487, val := Value.int 53 433 }, { hash := PyData.keyHash P (Str.ofString ";"), key := Value.str (Str.ofString ";") 489, val := Value.int 13 353 }, { hash := PyData.keyHash P (Str.ofString "<"), key := Value.str (Str.ofString "<") 491, val := Value.int 20 367 }, { hash := PyData.keyHash P (Str.ofString "<<"), key := Value.str (Str.ofString "<<") 493, val := Value.int 33 393 }, { hash := PyData.keyHash P (Str.ofString "<<="), key := Value.str (Str.ofString "<<=") 495, val := Value.int 44 415 }, { hash := PyData.keyHash P (Str.ofString "<="), key := Value.str (Str.ofString "<=") 497, val := Value.int 29 385 }, { hash := PyData.keyHash P (Str.ofString "="), key := Value.str (Str.ofString "=") 499, val := Value.int 22 371 }, { hash := PyData.keyHash P (Str.ofString "=="), key := Value.str (Str.ofString "==") 501, val := Value.int 27 381 }, { hash := PyData.keyHash P (Str.ofString ">"), key := Value.str (Str.ofString ">") 503, val := Value.int 21 369 }] 17 },
  { cls := Value.type "dict", data := Data.dict #[{ hash := PyData.keyHash P (Str.ofString ">="), key := Value.str (Str.ofString ">=") 505, val := Value.int 30 387 }, { hash := PyData.keyHash P (Str.ofString ">>"), key := Value.str (Str.ofString ">>") 506, val := Value.int 34 395 }, { hash := PyData.keyHash P (Str.ofString ">>="), key := Value.str (Str.ofString ">>=") 507, val := Value.int 45 417 }, { hash := PyData.keyHash P (Str.ofString "@"), key := Value.str (Str.ofString "@") 508, val := Value.int 49 425 }, { hash := PyData.keyHash P (Str.ofString "@="), key := Value.str (Str.ofString "@=") 509, val := Value.int 50 427 }, { hash := PyData.keyHash P (Str.ofString "["), key := Value.str (Str.ofString "[") 510, val := Value.int 9 345 }, { hash := PyData.keyHash P (Str.ofString "]"), key := Value.str (Str.ofString "]") 511, val := Value.int 10 347 }, { hash := PyData.keyHash P (Str.ofString "^"), key := Value.str (Str.ofString "^") 512, val := Value.int 32 391 }, { hash := PyData.keyHash P (Str.ofString "^="), key := Value.str (Str.ofString "^=") 513, val := Value.int 43 413 }, { hash := PyData.keyHash P (Str.ofString "{"), key := Value.str (Str.ofString "{") 514, val := Value.int 25 377 }, { hash := PyData.keyHash P (Str.ofString "|"), key := Value.str (Str.ofString "|") 515, val := Value.int 18 363 }, { hash := PyData.keyHash P (Str.ofString "|="), key := Value.str (Str.ofString "|=") 516, val := Value.int 42 411 }, { hash := PyData.keyHash P (Str.ofString "}"), key := Value.str (Str.ofString "}") 517, val := Value.int 26 379 }, { hash := PyData.keyHash P (Str.ofString "~"), key := Value.str (Str.ofString "~") 518, val := Value.int 31 389 }] 14 },
  { cls := Value.none, data := Data.fields #[] },
  { cls := Value.none, data := Data.fields #[] },
  { cls := Value.none, data := Data.fields #[] },
  { cls := Value.none, data := Data.fields #[] },
  { cls := Value.none, data := Data.fields #[] },
  { cls := Value.none, data := Data.fields #[] },
  { cls := Value.none, data := Data.fields #[] },
  { cls := Value.none, data := Data.fields #[] }]
def fill : Nat → Nat → List (Nat × Obj) → List Nat → List Obj → List Obj → List Obj
  | 0, _, _, _, _, _ => []
  | f + 1, i, ks, as, fs, es => match ks with
    | (a, o) :: ks' => match Nat.beq a i with
      | true => o :: fill f (i + 1) ks' as fs es
      | false => match as with
        | b :: as' => match Nat.beq b i with
          | true => match fs with
            | o :: fs' => o :: fill f (i + 1) ks as' fs' es
            | [] => []
          | false => match es with
            | o :: es' => o :: fill f (i + 1) ks as fs es'
            | [] => []
        | [] => match es with
          | o :: es' => o :: fill f (i + 1) ks [] fs es'
          | [] => []
    | [] => []
def treeOf (l : List Obj) : Nat → Nat → Nat → BT
  | 0, _, _ => .nil
  | f + 1, a, b => match l[b]? with
    | some o => .node o (treeOf l f (2 * a) (a + b)) (treeOf l f (2 * a) (2 * a + b))
    | none => .nil
noncomputable def obs1 (K : Params → Frag) (P : Params) : List Obj := fill 165 0 (K P) [19, 27, 44, 51, 59, 67, 74, 81, 89, 96, 104, 121, 128, 133, 138, 145, 150, 157, 162] fobs (tob P)
noncomputable def tf (K : Params → Frag) (P : Params) : BT := treeOf (obs1 K P) 9 1 0
noncomputable def hf (K : Params → Frag) (P : Params) : Heap := ⟨⟨obs1 K P⟩, {}⟩
noncomputable abbrev stf (K : Params → Frag) (w : World) (os : OsState) : SharedT := ⟨tf K w.params, 165, {}, Array.mk [], {}, 605, os⟩
noncomputable abbrev st1 (K : Params → Frag) (w : World) (os : OsState) : Shared := ⟨hf K w.params, Array.mk [], {}, 605, os⟩
def Run (K : Params → Frag) (w : World) : Prop := ∀ os : OsState, segRunT treeTable pE w 11 an 1 2413 (stb w os) (piecesOf (behindTheImports pE) en cE pos0 fr0) = some (.next, stf K w os, cE, pos1)
def RunL (K : Params → Frag) (b : Bool) : Prop := ∀ w : World, Run K (w.withFollow "special-get-raises" b)
def FinL (K : Params → Frag) : Prop := ∀ (w : World) (os : OsState), topRun treeTable pE w 11 an 2 (stf K w os).abs ⟨doneF .next, cE, pos1, fr0⟩ = some (st1 K w os)
def LookA (K : Params → Frag) (as : List Addr) (e : ∀ P, as = (K P).map (·.1)) : Prop := ∀ (w : World) (os : OsState),
  ((staticsOk (importedModules pE.main.body) (boot_heap w.params) (hf K w.params) && namesBound pE (hf K w.params) && gensDone (st1 K w os) && laidKept (boot_heap w.params) (hf K w.params)),
    (openSeen qv lo (importedModules pE.main.body) xt true (st1 K w os)).1, (openSeen qv lo (importedModules pE.main.body) xt true (st1 K w os)).2.1, (openSeen qv lo (importedModules pE.main.body) xt true (st1 K w os)).2.2.2, (kmHook K as e [71]).obs (st1 K w os))
  = (true, (openGood qv lo).1, (openGood qv lo).2.1, (openGood qv lo).2.2.2, (kmHook K as e [71]).val w)
def LookB (K : Params → Frag) : Prop := ∀ (w : World) (os : OsState), (openSeen qv lo (importedModules pE.main.body) xt true (st1 K w os)).2.2.1 = true
theorem left_run {K : Params → Frag} {as : List Addr} {e : ∀ P, as = (K P).map (·.1)} (h0 : RunL K false) (h1 : RunL K true) (h2 : FinL K) (h3 : LookA K as e) (h4 : LookB K) :
    LeftO pE qv lo xt (kmHook K as e [71]).obs (kmHook K as e [71]).val 4938 := by
  refine LeftO.of_pieces (H₀ := boot_heap) (H₁ := hf K) (gs₁ := Array.mk []) (d₁ := {}) (k₁ := 605) (m₀ := 11) (ann := an) (M := 12 + (1 + (2413 + 2))) (boot_open boot_e (by decide) boot_f) sizeT (fun w os => ?_) (by decide) (fun w => funext fun os => ?_)
  · refine go_top (preT w os) (piece_block (blockT w os) ?_)
    have h := piece_app (rest := []) (segRun_of (byRow2 "special-get-raises" (P := Run K) h0 h1 w os)) (piece_nil (h2 w os))
    rw [List.append_nil] at h
    exact h
  · have l := h3 w os
    obtain ⟨l1, l⟩ := Prod.mk.inj l
    obtain ⟨l3, l⟩ := Prod.mk.inj l
    obtain ⟨l4, l⟩ := Prod.mk.inj l
    obtain ⟨l5, l6⟩ := Prod.mk.inj l
    exact Prod.ext l1 (Prod.ext (Prod.ext l3 (Prod.ext l4 (Prod.ext (h4 w os) l5))) l6)
theorem head_all (K : Params → Frag) (as : List Addr) (e : ∀ P, as = (K P).map (·.1)) {d : DefRec} {kwd : List (Str × PySem.Expr)}
    (hdef : defOf qv PySem.Challenge.rw_wk0026_01.row.name = some (d, kwd)) (hp : PySem.Challenge.rw_wk0026_01.row.prog.theDef PySem.Challenge.rw_wk0026_01.row.name = some (d.params, d.body, d.scope)) (hk : kwWritten? d.params.kwonlyargs d.params.kw_defaults = some kwd)
    (hw : rr.promised)
    (h : RunL K false ∧ RunL K true ∧ FinL K ∧ LookA K as e ∧ LookB K ∧ WalkO qv lo (XL qv []) (kmHook K as e [71]).says PySem.Challenge.rw_wk0026_01.row.toRowW d kwd fun f vs => PySem.call f vs) : PySem.Challenge.rw_wk0026_01.row.Holds :=
  holds_open (q := qv) (loose := lo) (Xt := xt) (XP := XL qv []) (Yf := Hook.obs (kmHook K as e [71])) (Ya := Hook.val (kmHook K as e [71])) (YP := Hook.says (kmHook K as e [71])) (N := 4938)
    (left_run h.1 h.2.1 h.2.2.1 h.2.2.2.1 h.2.2.2.2.1)
    (Hook.of (kmHook K as e [71])) (Hook.keeps (kmHook K as e [71])) (fun s e => xl_of s (Bool.and_eq_true_iff.mp e).1) XL.keeps hdef hp hk (fun s e => recFacts_of (Bool.and_eq_true_iff.mp e).2) (by rfl) (row_said said) (by decide +kernel) ⟨rfl, rfl, rfl, rfl, rfl, by decide +kernel⟩ hw h.2.2.2.2.2
end MineH
local macro_rules | `(tactic| o_law) => `(tactic| refine holds_law MineH.said fun _ => ?_)
local macro_rules | `(tactic| o_head ($f:term $k:term $a:term $e:term)) => `(tactic| refine MineH.head_all $k $a $e (by rfl) (by rfl) (by rfl) ?hw ?hc)
namespace MineH
open_top hd for PySem.Challenge.rw_wk0026_01
theorem run_false : RunL hd.heap_1 false := by
  unfold RunL Run
  intro w os
  rw [PySem.W.Fast.te10110043849684766642, PySem.W.Fast.te14364793385576792824]
  kernel_rfl
theorem run_true : RunL hd.heap_1 true := by
  unfold RunL Run
  intro w os
  rw [PySem.W.Fast.te10110043849684766642, PySem.W.Fast.te14364793385576792824]
  kernel_rfl
theorem fin_all : FinL hd.heap_1 := by
  unfold FinL
  intro w os
  kernel_rfl
theorem look_a : LookA hd.heap_1 [2, 3, 15, 17, 18, 20, 21, 22, 23, 25, 26, 28, 29, 30, 33, 38, 39, 40, 42, 43, 45, 46, 47, 49, 50, 52, 53, 54, 55, 57, 58, 60, 61, 62, 63, 65, 66, 68, 69, 70, 72, 73, 75, 76, 77, 79, 80, 82, 83, 84, 85, 87, 88, 90, 91, 92, 94, 95, 97, 98, 99, 100, 102, 103, 105, 106, 107, 108, 109, 110, 111, 114, 117, 119, 120, 122, 123, 124, 126, 127, 129, 130, 131, 134, 135, 136, 139, 140, 141, 143, 144, 146, 147, 148, 151, 152, 153, 155, 156, 158, 159, 160, 163, 164] (fun _ => by kernel_rfl) := by
  unfold LookA
  intro w os
  rw [PySem.W.Fast.te4187177175401517315, PySem.W.Fast.te5923862056798008813]
  kernel_rfl
theorem look_b : LookB hd.heap_1 := by
  unfold LookB
  intro w os
  rw [PySem.W.Fast.te4187177175401517315, PySem.W.Fast.te5923862056798008813]
  kernel_rfl
end MineH
end
section
set_option maxRecDepth 100000
set_option maxHeartbeats 8000000
open PySem PySem.W PyProof.Rows PySem.Calls
namespace Mine
noncomputable abbrev KK (w : World) : Frag := MineH.hd.heap_1 w.params
abbrev accO (dx : Addr) (xs : Array Value) (n : Nat := 0) : Obj := { cls := .ref 109, dict := some dx, data := .seq xs n }

theorem fi_init (w : World) : findIn (KK w) (.ref 109) "__init__" = some (some (.ref 46)) := by kernel_rfl
theorem fi_append (w : World) : findIn (KK w) (.ref 109) "append" = some (some (.builtin "list.append")) := by kernel_rfl
theorem fi_getitem (w : World) : findIn (KK w) (.ref 109) "__getitem__" = some (some (.builtin "list.__getitem__")) := by kernel_rfl
theorem fi_setitem (w : World) : findIn (KK w) (.ref 109) "__setitem__" = some (some (.builtin "list.__setitem__")) := by kernel_rfl
theorem fi_iter (w : World) : findIn (KK w) (.ref 109) "__iter__" = some (some (.builtin "list.__iter__")) := by kernel_rfl
theorem fi_ga (w : World) : findIn (KK w) (.ref 109) "__getattribute__" = some (some (.builtin "list.__getattribute__")) := by kernel_rfl
theorem fi_sa (w : World) : findIn (KK w) (.ref 109) "__setattr__" = some (some (.builtin "object.__setattr__")) := by kernel_rfl
theorem fi_gat (w : World) : findIn (KK w) (.ref 109) "__getattr__" = some none := by kernel_rfl
theorem fi_index (w : World) : findIn (KK w) (.ref 109) "__index__" = some none := by kernel_rfl

structure MakesL (M : Model) (h : Heap) : Prop where
  obj : ∃ oc od cd sl, h.get? 109 = some ⟨oc, od, .cls cd, sl⟩ ∧ cd.abstract = false ∧ cd.hasDel = false ∧ cd.mro.isEmpty = false
  made : Looks M h (Bind.madeBy (.ref 109)) (some "list.__new__")
  base : Looks M h (Bind.staticBase (.ref 109)) (.ref 109)
  self : Looks M h (isSubtype (.ref 109) (.ref 109)) true
  list : Looks M h (isSubtype (.ref 109) (.type "list")) true
  isT : Looks M h (isType (.ref 109)) true
  call : Looks M h (specialOf (.ref 109) "__call__") (some (.builtin "type.__call__"))
  typ : Looks M h (isInstance (.ref 109) (.type "type")) true

def accCd : ClassData := { name := "_Accumulator", bases := [.type "list"], mro := [.ref 109, .type "list", .type "object"], ns := 108, qualname := "_Accumulator" }
theorem cls_acc (w : World) : clsIn (KK w) 109 = some accCd := by kernel_rfl
theorem obj_acc (w : World) : (KK w).lookup 109 = some ⟨.type "type", none, .cls accCd, #[some (.ref 30), none, some (.str "_Accumulator" 241), some (.str "_Accumulator" 249), some (.builtin "list.__new__"), some (.bool true)]⟩ := by kernel_rfl
theorem sub_list (w : World) : mroIn (KK w) 109 (.type "list") = some true := by kernel_rfl
theorem sub_self (w : World) : mroIn (KK w) 109 (.ref 109) = some true := by kernel_rfl
theorem sub_obj (w : World) : mroIn (KK w) 109 (.type "object") = some true := by kernel_rfl
theorem sp_call (w : World) : specialIn (KK w) (.ref 109) "__call__" = some (some (.builtin "type.__call__")) := by kernel_rfl
theorem in_type (w : World) : instIn (KK w) (.ref 109) (.type "type") = some true := by kernel_rfl

theorem makesL {w : World} {M : Model} {h : Heap} (X : (KK w).In h) : MakesL M h := by
  have hc := cls_acc w
  have ho := obj_acc w
  have hm : Looks M h (mroOf (.ref 109)) accCd.mro := (looks_clsIn X hc).andThen .now
  have made : Looks M h (Bind.madeBy (.ref 109)) (some "list.__new__") := by
    intro A Q E s k q
    unfold Bind.madeBy
    refine wpAny_bind (hm A _ E s k ?_)
    show wpAny _ _ (forIn [_, _, _] _ _ >>= _) _ _ _
    rw [List.forIn_cons]
    refine wpAny_bind (wpAny_bind (wpAny_bind (wpAny_bind (wpAny_loadPart (k _ _ (X _ _ ho)) (wpAny_pure ?_)))))
    exact wpAny_pure (wpAny_pure (wpAny_pure q))
  refine ⟨⟨_, _, accCd, _, X _ _ ho, rfl, rfl, rfl⟩, made, ?_, looks_mroIn X (sub_self w), looks_mroIn X (sub_list w), ?_, looks_specialIn X (sp_call w), looks_instIn X (in_type w)⟩
  · intro A Q E s k q
    unfold Bind.staticBase
    refine wpAny_bind (hm A _ E s k ?_)
    show wpAny _ _ (forIn [_, _, _] _ _ >>= _) _ _ _
    rw [List.forIn_cons]
    exact wpAny_bind (wpAny_bind (wpAny_bind (made A _ E s k (wpAny_pure (wpAny_pure (wpAny_pure q))))))
  · exact (Looks.ld (X _ _ ho)).andThen .now

section
variable {prog : Program} {w : World} {A : Around} {R : Result → Shared → Prop} {h : Heap} {g : Array GenState} {d : Drawn} {t : Nat} {os : OsState}
theorem acc_new {rest : List Value} (X : (KK w).In h)
    (hq : R (.ok (.ret (.ref (h.objs.size + 1)))) ⟨(h.push emptyDict).push (accO h.objs.size #[]), g, d, t, os⟩) :
    codeAny (model prog w) A (.call (.builtin "list.__new__") ⟨.ref 109 :: rest, []⟩) R ⟨h, g, d, t, os⟩ := by
  obtain ⟨⟨oc, od, cd, sl, hC, e1, e2, e4⟩, made, base, self, list, isT, call, typ⟩ := makesL (M := model prog w) X
  refine codeAny_call_builtin_code (Code.quiet_builtin _ (by decide +kernel)) ?_
  have hk : builtinKind "list.__new__" = some .builtinFn := by decide +kernel
  have hs : splitId "list.__new__" = some ("list", "__new__") := by decide +kernel
  simp only [checkBuiltinCall, hk, hs]
  repeat (first | simp only [bne_self_eq_false, Bool.false_eq_true, if_false] | lk)
  refine codeAny_builtin_stack PySem.F.entry_list_new rfl fun p st => ?_
  have hown := owner_list_new
  simp only [hown]
  repeat lk
  refine nd_load (Heap.get?_push_of_some _ (Heap.get?_push_of_some _ (X _ _ (obj_acc w)))) ?_
  repeat lk
  rw [Heap.size_push]
  exact hq

theorem acc_make {rest : List Value} (X : (KK w).In h)
    (hq : codeAny (model prog w) (A.under (.builtin "type.__call__" ⟨.ref 109 :: rest, []⟩)) (.call (.ref 46) ⟨.ref (h.objs.size + 1) :: rest, []⟩) (InitBack (h.objs.size + 1) R) ⟨(h.push emptyDict).push (accO h.objs.size #[]), g, d, t, os⟩) :
    codeAny (model prog w) A (.call (.ref 109) ⟨rest, []⟩) R ⟨h, g, d, t, os⟩ := by
  obtain ⟨⟨oc, od, cd, sl, hC, e1, e2, e4⟩, made, base, self, list, isT, call, typ⟩ := makesL (M := model prog w) X
  refine codeAny_of_tree ?_
  show wpAny _ _ (callAny (.ref 109) _) _ _ _
  refine nd_load hC ?_
  show wpAny _ _ (callAny.viaDunder (.ref 109) _) _ _ _
  unfold callAny.viaDunder
  refine wpAny_bind (call.at ?_)
  dsimp only
  rw [tc_bind]
  refine wpAny_bind (wpAny_pure (wpAny_bind (wpAny_pure ?_)))
  refine wpAny_pure (a := Fin.again (.call (.builtin "type.__call__") ⟨.ref 109 :: rest, []⟩)) (And.intro rfl ?_)
  refine codeAny_call_builtin_at (Code.quiet_builtin _ (by decide +kernel)) entry_typeCall (check_slot tc_kind tc_split typ (tc_args _ _ _) ?_)
  unfold Builtin.«type.__call__»
  have hm : Looks (model prog w) h (mroOf (.ref 109)) cd.mro := ((Looks.ld (part := none) hC).andThen .now).andThen .now
  repeat (first | simp only [e4, Bool.false_eq_true, if_false] | with_reducible refine wpAny_call ?_ | lk)
  refine acc_new X ?_
  have k : ∀ b o, h.get? b = some o → ((h.push emptyDict).push (accO h.objs.size #[])).get? b = some o := fun b o e => Heap.get?_push_of_some _ (Heap.get?_push_of_some _ e)
  have hx : ((h.push emptyDict).push (accO h.objs.size #[])).get? (h.objs.size + 1) = some (accO h.objs.size #[]) := by heap_get
  have t1 : Looks (model prog w) ((h.push emptyDict).push (accO h.objs.size #[])) (typeOf (.ref (h.objs.size + 1))) (.ref 109) := (Looks.ld hx).andThen .now
  have s1 := self.keeps k
  have hi : Looks (model prog w) h (typeLookup (.ref 109) "__init__") (some (.ref 46)) := looks_findIn X (fi_init w)
  have i1 := hi.keeps k
  have b1 := (bind_fn (M := model prog w) X (.ref (h.objs.size + 1)) (f := 46) (by kernel_rfl)).keeps k
  unfold isInstance callSpecial? specialOf
  repeat (first | with_reducible refine wpAny_call ?_ | lk)
  refine codeAny_mono hq fun r s' z => ?_
  rcases r with e | (v | _ | _ | _) <;> first | exact z | exact z.elim | skip
  obtain ⟨rfl, z⟩ := z
  exact wpAny_pure (wpAny_pure z)
end
end Mine
end
section
set_option maxRecDepth 100000
set_option maxHeartbeats 8000000
open PySem PySem.W PyProof.Rows PySem.Calls PySem.Builtin PySem.Builtin.ObjectAttr PySem.Builtin.Getset_descriptor
namespace Mine
theorem acc_refuse (self : Value) : refuseLoop self "__setattr__" accCd.mro = pure () := by
  show refuseLoop self "__setattr__" [.ref 109, .type "list", .type "object"] = _
  rw [refuseLoop_ref]
  kernel_rfl
theorem acc_taker (w : World) : takerIn (KK w) 109 "_initial_size" = some none := by kernel_rfl
section
variable {prog : Program} {w : World} {A : Around} {x : Addr} {s : Shared} {h₀ : Heap} {L : Addr} {m : Str → Option Value} {news : List (Addr × Obj)} {R : Result → Shared → Prop}
theorem acc_osa_open {ox : Obj} {od : Option Obj} {name : Str} {tk : Tok} {v : Value} {r : Option Value} (X : (KK w).In s.heap) (I : InstAt s.heap x ox 109 od) (ht : takerIn (KK w) 109 name = some r)
    (h : ∀ b, wpAny (model prog w) A.in1 (match r with | some a => setByDescriptor a (.ref x) v | none => storeInOwnDict (.ref x) (.ref 109) (.str name tk) name v b)
      (fun fin s' => match fin with | .done f => R (.ok f) s' | .again c' => c'.quiet = true ∧ codeAny (model prog w) A c' R s') (fun e s' => R (.error e) s') s) :
    codeAny (model prog w) A (.call (.builtin "object.__setattr__") ⟨[.ref x, .str name tk, v], []⟩) R s := by
  have SF := PySem.F.store_object
  have hc := cls_acc w
  have sub : Looks (model prog w) s.heap (isInstance (.ref x) (.type "object")) true := I.type.andThen (looks_mroIn X (sub_obj w))
  refine codeAny_call_builtin SF.slot.plain SF.entry (@check_slot (model prog w) _ _ s "object.__setattr__" "object" "__setattr__" (.ref x) [.str name tk, v] [] _ SF.kind SF.split sub (SF.args (.ref x) (.str name tk) v) ?_)
  obtain ⟨attr, ha, hr⟩ := Option.bind_eq_some_iff.mp ht
  have hm : Looks (model prog w) s.heap (mroOf (.ref 109)) accCd.mro := (looks_clsIn X hc).andThen .now
  have L3 : Looks (model prog w) s.heap (storeTaker? attr) r := by
    cases attr with
    | none => cases hr; exact .now
    | some a =>
      obtain ⟨b, hb, rfl⟩ := Option.map_eq_some_iff.mp hr
      refine (looks_takesIn X hb).andThen ?_
      cases b <;> exact .now
  rw [osa_eq, refuse_eq]
  refine wpAny_bind (wpAny_bind (I.type.here (wpAny_bind (hm.here ?_))))
  rw [acc_refuse]
  refine wpAny_pure (wpAny_bind (I.type.here (wpAny_bind ((looks_findIn X ha).here (wpAny_bind (L3.here ?_))))))
  exact h _

theorem acc_osa {ox od od' : Obj} {dx : Addr} {name : Str} {tk : Tok} {v : Value} {pre post : List (Addr × Obj)} {es : List DictEntry} {n : Nat} (F : Fr h₀ L s.heap m) (N : News h₀ L s.heap (pre ++ (dx, od) :: post)) (X : (KK w).In s.heap)
    (I : InstAt s.heap x ox 109 (some od)) (hd : ox.dict = some dx) (ht : takerIn (KK w) 109 name = some none)
    (hl : (lookIn name od).isSome = true) (h1 : ∀ p ∈ pre, p.1 ≠ dx) (h2 : ∀ p ∈ post, p.1 ≠ dx)
    (e : Obj.putName name (PyData.keyHash w.params name) (.str name s.toks) v od = od') (e' : od'.data = .dict es.toArray n) (hz : es.length ≤ 1000)
    (h : ∀ h', Fr h₀ L h' m → News h₀ L h' (pre ++ (dx, od') :: post) → R (.ok (.ret .none)) { s with heap := h', toks := s.toks + 1 }) :
    codeAny (model prog w) A (.call (.builtin "object.__setattr__") ⟨[.ref x, .str name tk, v], []⟩) R s := by
  refine acc_osa_open X I ht fun b => ?_
  have hc := cls_acc w
  obtain ⟨U1, U2⟩ := news_upd (f := Obj.putName name (PyData.keyHash w.params name) (.str name s.toks) v) F N h1 h2 e (by obtain ⟨_, _, dd, _⟩ := od'; cases e'; rfl)
  have D := (N (dx, od) (by simp)).1
  have D' := (U2 (dx, od') (by simp)).1
  obtain ⟨hx, hcl, hn, -⟩ := I
  obtain ⟨oc, odi, oda, osl⟩ := ox
  dsimp only at hcl hd
  subst hcl hd
  refine wpAny_bind (wpAny_pure (wpAny_bind (wpAny_bind (wpAny_loadPart hx (wpAny_bind ((looks_clsIn X hc).here ?_))))))
  refine wpAny_pure (a := some dx) (wpAny_bind (wpAny_pure (wpAny_bind ?_)))
  unfold nsSet
  refine wpAny_bind (wpAny_bind (wpAny_askSetting (wpAny_pure (wpAny_bind (wpAny_mkText (wpAny_bind (wpAny_loadPart D ?_)))))))
  unfold lookIn at hl
  split at hl
  · rename_i es₀ n₀ q
    rw [q]
    dsimp only
    have c : (!es₀.any (·.key.isStr name) && es₀.any (·.refKey)) = false := by
      rw [← Array.any_toList, ← Array.any_toList]
      split at hl
      · rename_i en he
        rw [List.any_eq_true.mpr ⟨en, List.mem_of_find?_eq_some he, List.find?_some he⟩]; rfl
      · split at hl
        · cases hl
        · rename_i z; rw [Bool.not_eq_true] at z; rw [z, Bool.and_false]
    rw [aRefKeyMayBeTheName_at, c]
    refine wpAny_updatePart D ?_
    refine wpAny_bind (wpAny_lookBehind D' (by rw [e']; exact pastItsLine_dict (by rw [List.size_toArray, sizeLine_eq]; omega)) ?_)
    exact wpAny_pure (h _ U1 U2)
  · cases hl
end

abbrev dictI (w : World) (tk : Nat) (k : Int) (t : Tok) : Obj := { cls := .type "dict", data := .dict #[⟨PyData.keyHash w.params "_initial_size", .str "_initial_size" tk, .int k t⟩] 1 }
theorem put_first (w : World) (tk : Nat) (k : Int) (t : Tok) : Obj.putName "_initial_size" (PyData.keyHash w.params "_initial_size") (.str "_initial_size" tk) (.int k t) emptyDict = dictI w tk k t := by rfl
theorem put_again (w : World) (tk tk' : Nat) (k k' : Int) (t t' : Tok) : Obj.putName "_initial_size" (PyData.keyHash w.params "_initial_size") (.str "_initial_size" tk') (.int k' t') (dictI w tk k t) = dictI w tk k' t' := by rfl

section
variable {prog : Program} {w : World} {A : Around} {x : Addr} {s : Shared} {h₀ : Heap} {L : Addr} {m : Str → Option Value} {E : Value → Shared → Prop}
theorem acc_set_first {ox : Obj} {dx : Addr} {k : Int} {t : Tok} {pre post : List (Addr × Obj)} {Q : Unit → Shared → Prop} (F : Fr h₀ L s.heap m) (X : (KK w).In s.heap) (N : News h₀ L s.heap (pre ++ (dx, emptyDict) :: post))
    (I : InstAt s.heap x ox 109 (some emptyDict)) (hd : ox.dict = some dx) (h1 : ∀ p ∈ pre, p.1 ≠ dx) (h2 : ∀ p ∈ post, p.1 ≠ dx)
    (h : ∀ h' tk, Fr h₀ L h' m → News h₀ L h' (pre ++ (dx, dictI w tk k t) :: post) → Q () { s with heap := h', toks := s.toks + 2 }) :
    wpAny (model prog w) A (setAttr (.ref x) "_initial_size" (.int k t)) Q E s := by
  refine set_plain X I (fi_sa w) ?_
  exact acc_osa (s := { s with toks := s.toks + 1 }) F N X I hd (acc_taker w) (by rfl) h1 h2 (put_first w _ k t) rfl (Nat.le_of_ble_eq_true rfl) fun h' F' N' => h h' _ F' N'
theorem acc_set_again {ox : Obj} {dx : Addr} {k k' : Int} {t t' : Tok} {tk : Nat} {pre post : List (Addr × Obj)} {Q : Unit → Shared → Prop} (F : Fr h₀ L s.heap m) (X : (KK w).In s.heap) (N : News h₀ L s.heap (pre ++ (dx, dictI w tk k' t') :: post))
    (I : InstAt s.heap x ox 109 (some (dictI w tk k' t'))) (hd : ox.dict = some dx) (h1 : ∀ p ∈ pre, p.1 ≠ dx) (h2 : ∀ p ∈ post, p.1 ≠ dx)
    (h : ∀ h', Fr h₀ L h' m → News h₀ L h' (pre ++ (dx, dictI w tk k t) :: post) → Q () { s with heap := h', toks := s.toks + 2 }) :
    wpAny (model prog w) A (setAttr (.ref x) "_initial_size" (.int k t)) Q E s := by
  refine set_plain X I (fi_sa w) ?_
  exact acc_osa (s := { s with toks := s.toks + 1 }) F N X I hd (acc_taker w) (by rfl) h1 h2 (put_again w _ _ _ k _ t) rfl (Nat.le_of_ble_eq_true rfl) fun h' F' N' => h h' F' N'
theorem acc_setU {ox : Obj} {dx : Addr} {k k' : Int} {t t' : Tok} {tk : Nat} {news news' : List (Addr × Obj)} {Q : Unit → Shared → Prop} (F : Fr h₀ L s.heap m) (X₀ : (KK w).In h₀) (N : News h₀ L s.heap news)
    (I : InstAt s.heap x ox 109 (some (dictI w tk k' t'))) (hd : ox.dict = some dx) (U : Upd dx (dictI w tk k' t') (dictI w tk k t) news news')
    (h : ∀ h', Fr h₀ L h' m → News h₀ L h' news' → Q () { s with heap := h', toks := s.toks + 2 }) :
    wpAny (model prog w) A (setAttr (.ref x) "_initial_size" (.int k t)) Q E s := by
  obtain ⟨pre, post, rfl, rfl, a, b⟩ := U.split
  exact acc_set_again F (X₀.keeps F.keep) N I hd a b h
theorem acc_setU0 {ox : Obj} {dx : Addr} {k : Int} {t : Tok} {news : List (Addr × Obj)} {news' : Nat → List (Addr × Obj)} {Q : Unit → Shared → Prop} (F : Fr h₀ L s.heap m) (X₀ : (KK w).In h₀) (N : News h₀ L s.heap news)
    (I : InstAt s.heap x ox 109 (some emptyDict)) (hd : ox.dict = some dx) (U : ∀ tk, Upd dx emptyDict (dictI w tk k t) news (news' tk))
    (h : ∀ h' tk, Fr h₀ L h' m → News h₀ L h' (news' tk) → Q () { s with heap := h', toks := s.toks + 2 }) :
    wpAny (model prog w) A (setAttr (.ref x) "_initial_size" (.int k t)) Q E s := by
  refine set_plain (X₀.keeps F.keep) I (fi_sa w) ?_
  obtain ⟨pre, post, e1, e2, a, b⟩ := (U (s.toks + 1)).split
  subst e1
  exact acc_osa (s := { s with toks := s.toks + 1 }) F N (X₀.keeps F.keep) I hd (acc_taker w) (by rfl) a b (put_first w _ k t) rfl (Nat.le_of_ble_eq_true rfl) fun h' F' N' => h h' _ F' (e2 ▸ N')
end
end Mine
end
section
set_option maxRecDepth 100000
set_option maxHeartbeats 8000000
open PySem PySem.W PyProof.Rows PySem.Calls PySem.Builtin PySem.Builtin.ObjectAttr PySem.Builtin.Getset_descriptor
namespace Mine
theorem no_third (w : World) : nsIn (KK w) cStatics "thirdparty.any" = some none := by kernel_rfl
abbrev supO (x : Addr) : Obj := ks_superObj 109 x 109
abbrev boundO (ty i : String) (x : Addr) : Obj := { cls := .type ty, data := .fields #[.builtin i, .ref x] }
section
variable {prog : Program} {w : World} {A : Around} {x so : Addr} {E : Value → Shared → Prop} {h : Heap} {g : Array GenState} {d : Drawn} {t : Nat} {os : OsState}

theorem slot_wd : Slot "wrapper_descriptor" "__get__" "wrapper_descriptor.__get__" := .of (owner := "wrapper_descriptor") (n := "__get__") (by rw [typeLookup_type, builtinLookup_eq_fast]; kernel_rfl) (by decide +kernel) (by decide +kernel) (by decide +kernel)
  (by first | exact .inl (by decide +kernel) | exact .inr (by decide +kernel)) (by rw [isSubtype_type]; kernel_rfl)
theorem slot_md : Slot "method_descriptor" "__get__" "method_descriptor.__get__" := .of (owner := "method_descriptor") (n := "__get__") (by rw [typeLookup_type, builtinLookup_eq_fast]; kernel_rfl) (by decide +kernel) (by decide +kernel) (by decide +kernel)
  (by first | exact .inl (by decide +kernel) | exact .inr (by decide +kernel)) (by rw [isSubtype_type]; kernel_rfl)
theorem entry_wd : entryFor table "wrapper_descriptor.__get__" = some Builtin.«wrapper_descriptor.__get__» := entryFor_of_tree (by kernel_rfl)
theorem entry_md : entryFor table "method_descriptor.__get__" = some Builtin.«method_descriptor.__get__» := entryFor_of_tree (by kernel_rfl)
theorem args_wd (a b c : Value) : argsOk "wrapper_descriptor.__get__" ⟨[a, b, c], []⟩ := by unfold argsOk; kernel_rfl
theorem args_md (a b c : Value) : argsOk "method_descriptor.__get__" ⟨[a, b, c], []⟩ := by unfold argsOk; kernel_rfl


theorem ow_init : (kfb_private% "ownerAndName") "list.__init__" = ("list", "__init__") := by decide +kernel
theorem ow_len : (kfb_private% "ownerAndName") "list.__len__" = ("list", "__len__") := by decide +kernel
theorem ow_pop : (kfb_private% "ownerAndName") "list.pop" = ("list", "pop") := by decide +kernel
theorem nc_of {i o n : String} (e : (kfb_private% "ownerAndName") i = (o, n)) : (kfb_private% "nameAndClass") (.builtin i) = (pure (PySem.Str.ofString n, Value.type o) : Sem (PySem.Str × Value)) := by
  show ((match (kfb_private% "ownerAndName") i with | (owner, name) => pure (PySem.Str.ofString name, Value.type owner)) : Sem (PySem.Str × Value)) = _
  rw [e]
theorem told_pop : Manifest.toldItsClass.contains "list.pop" = false := by decide +kernel

theorem chk_inst {i : String} {nm : String} {Q : Unit → Shared → Prop} (X : (KK w).In h) {xs : Array Value} {n : Nat} {dx : Addr} (hx : h.get? x = some (accO dx xs n)) (hn : (kfb_private% "ownerAndName") i = ("list", nm)) (hq : Q () ⟨h, g, d, t, os⟩) :
    wpAny (model prog w) A ((kfb_private% "checkInstance") (.builtin i) (.ref x)) Q E ⟨h, g, d, t, os⟩ := by
  have L2 : Looks (model prog w) h (typeOf (.ref x)) (.ref 109) := (Looks.ld hx).andThen .now
  have L3 : Looks (model prog w) h (isInstance (.ref x) (.type "list")) true := L2.andThen (looks_mroIn X (sub_list w))
  refine wpAny_bind (wpAny_of_eq (nc_of hn) ?_)
  refine wpAny_bind (L3.at ?_)
  exact KFB.if_not rfl (wpAny_pure hq)

theorem get_wd {i : String} {nm : String} {Q : Value → Shared → Prop} (X : (KK w).In h) {xs : Array Value} {n : Nat} {dx : Addr} (hx : h.get? x = some (accO dx xs n)) (hn : (kfb_private% "ownerAndName") i = ("list", nm))
    (hty : typeOf (.builtin i) = pure (.type "wrapper_descriptor"))
    (hq : Q (.ref h.objs.size) ⟨h.push (boundO "method-wrapper" i x), g, d, t, os⟩) :
    wpAny (model prog w) A (call (.builtin "wrapper_descriptor.__get__") [.builtin i, .ref x, .ref 109]) Q E ⟨h, g, d, t, os⟩ := by
  refine wpAny_call_entry slot_wd hty entry_wd ?_ (args_wd _ _ _)
  unfold Builtin.«wrapper_descriptor.__get__»
  refine wpAny_bind (wpAny_of_eq (a := (.builtin i, some (.ref x), some (.ref 109))) (by first | rfl | kernel_rfl) ?_)
  refine wpAny_bind (chk_inst X hx hn ?_)
  exact wpAny_bind (wpAny_newObj_type (wpAny_pure ⟨_, rfl, hq⟩))

theorem get_md {Q : Value → Shared → Prop} (X : (KK w).In h) {xs : Array Value} {n : Nat} {dx : Addr} (hx : h.get? x = some (accO dx xs n))
    (hty : typeOf (.builtin "list.pop") = pure (.type "method_descriptor"))
    (hq : Q (.ref h.objs.size) ⟨h.push (boundO "builtin_function_or_method" "list.pop" x), g, d, t, os⟩) :
    wpAny (model prog w) A (call (.builtin "method_descriptor.__get__") [.builtin "list.pop", .ref x, .ref 109]) Q E ⟨h, g, d, t, os⟩ := by
  refine wpAny_call_entry slot_md hty entry_md ?_ (args_md _ _ _)
  unfold Builtin.«method_descriptor.__get__»
  refine wpAny_bind (wpAny_of_eq (a := (.builtin "list.pop", some (.ref x), some (.ref 109))) (by first | rfl | kernel_rfl) ?_)
  simp only [told_pop]
  refine KFB.if_not rfl ?_
  refine wpAny_bind (chk_inst X hx ow_pop ?_)
  exact wpAny_bind (wpAny_newObj_type (wpAny_pure ⟨_, rfl, hq⟩))

theorem ty_init : typeOf (.builtin "list.__init__") = pure (.type "wrapper_descriptor") := by show builtinType _ = _; rw [builtinType_eq_fast]; kernel_rfl
theorem ty_len : typeOf (.builtin "list.__len__") = pure (.type "wrapper_descriptor") := by show builtinType _ = _; rw [builtinType_eq_fast]; kernel_rfl
theorem ty_pop : typeOf (.builtin "list.pop") = pure (.type "method_descriptor") := by show builtinType _ = _; rw [builtinType_eq_fast]; kernel_rfl
theorem own_init : builtinOwn "list" "__init__" = some (.builtin "list.__init__") := by kernel_rfl
theorem own_len : builtinOwn "list" "__len__" = some (.builtin "list.__len__") := by kernel_rfl
theorem own_pop : builtinOwn "list" "pop" = some (.builtin "list.pop") := by kernel_rfl

theorem sup_ga {i ty gid bt : String} {name : Str} {tk : Tok} {Q : Fin → Shared → Prop} (X : (KK w).In h) (hso : h.get? so = some (supO x))
    (hown : builtinOwn "list" name = some (.builtin i)) (hty : typeOf (.builtin i) = pure (.type ty)) (hsl : Slot ty "__get__" gid) (hn : (name == ("__class__" : Str)) = false) (hx109 : x ≠ 109)
    (hget : ∀ (Q : Value → Shared → Prop), Q (.ref h.objs.size) ⟨h.push (boundO bt i x), g, d, t, os⟩ → wpAny (model prog w) A (call (.builtin gid) [.builtin i, .ref x, .ref 109]) Q E ⟨h, g, d, t, os⟩)
    (hq : Q (.done (.ret (.ref h.objs.size))) ⟨h.push (boundO bt i x), g, d, t, os⟩) :
    wpAny (model prog w) A (Builtin.«super.__getattribute__» ⟨[.ref so, .str name tk], []⟩) Q E ⟨h, g, d, t, os⟩ := by
  have hlk := hsl.lookup
  have hne : (Value.ref x == Value.ref 109) = false := by simp [hx109]
  have hno : Looks (model prog w) h (opaqueClassAbove (.ref 109)) none := looks_opaque X (no_third w)
  have hC : Looks (model prog w) h (mroOf (.ref 109)) accCd.mro := (looks_clsIn X (cls_acc w)).andThen .now
  have hdt : (supO x).data = .fields #[.ref 109, .ref x, .ref 109] := rfl
  have f0 : (#[.ref 109, .ref x, .ref 109] : Array Value)[0]? = some (.ref 109) := rfl
  have f1 : (#[.ref 109, .ref x, .ref 109] : Array Value)[1]? = some (.ref x) := rfl
  have f2 : (#[.ref 109, .ref x, .ref 109] : Array Value)[2]? = some (.ref 109) := rfl
  unfold Builtin.«super.__getattribute__»
  refine wpAny_bind (wpAny_of_eq (a := some name) rfl (wpAny_bind (wpAny_of_eq (a := some name) rfl ?_)))
  dsimp only
  refine wpAny_bind (wpAny_field hso hdt f0 (wpAny_bind (wpAny_field hso hdt f1 (wpAny_bind (wpAny_field hso hdt f2 ?_)))))
  rw [hn]
  refine KFB.if_not rfl ?_
  refine wpAny_bind (ks_wpAny_notOpaque hno ?_)
  refine KFB.if_not rfl ?_
  refine wpAny_bind (hC.at ?_)
  show wpAny _ _ (forIn [Value.type "list", Value.type "object"] _ _ >>= _) _ _ _
  rw [List.forIn_cons]
  refine wpAny_bind (wpAny_bind (wpAny_bind (wpAny_of_eq (a := some (.builtin i)) (by show pure (builtinOwn "list" name) = _; rw [hown]) ?_)))
  dsimp only
  refine wpAny_bind (wpAny_of_eq hty (wpAny_bind (wpAny_of_eq hlk ?_)))
  dsimp only
  rw [hne]
  refine wpAny_bind (wpAny_holding (hget _ ?_))
  exact wpAny_bind (wpAny_pure (wpAny_pure (wpAny_pure (wpAny_pure hq))))

theorem sup_getMethod {i ty gid bt : String} {name : Str} {pl : Sem Bool} {Q : Value × List Value → Shared → Prop} (X : (KK w).In h) (hso : h.get? so = some (supO x))
    (hown : builtinOwn "list" name = some (.builtin i)) (hty : typeOf (.builtin i) = pure (.type ty)) (hsl : Slot ty "__get__" gid) (hn : (name == ("__class__" : Str)) = false) (hx109 : x ≠ 109)
    (hget : ∀ A t E (Q : Value → Shared → Prop), Q (.ref h.objs.size) ⟨h.push (boundO bt i x), g, d, t, os⟩ → wpAny (model prog w) A (call (.builtin gid) [.builtin i, .ref x, .ref 109]) Q E ⟨h, g, d, t, os⟩)
    (hq : Q (.ref h.objs.size, []) ⟨h.push (boundO bt i x), g, d, t + 1, os⟩) :
    wpAny (model prog w) A (getMethod (.ref so) name pl) Q E ⟨h, g, d, t, os⟩ := by
  have hlk := F.ks_slot_super_ga.lookup
  have hcan := F.ks_canon_super_ga
  have hT : ∀ t', (⟨h, g, d, t', os⟩ : Shared).TypeIs (.ref so) "super" := fun _ => ⟨_, hso, rfl⟩
  unfold getMethod
  refine wpAny_bind (wpAny_specialOf (hT _) hlk ?_)
  show wpAny _ _ (if (Manifest.canonical "super.__getattribute__" != "object.__getattribute__") = true then _ else _) _ _ _
  rw [if_pos hcan]
  unfold getAttr getAttrBy
  refine wpAny_bind (wpAny_bind (wpAny_mkText (wpAny_holding (wpAny_bind (wpAny_typeOf (hT _) (wpAny_bind (wpAny_of_eq hlk ?_)))))))
  show wpAny _ _ (getAttrByItsOwn (.ref so) (.str name t) (.type "super") (.builtin "super.__getattribute__") true false) _ _ _
  unfold getAttrByItsOwn hookBefore callGetattribute boundAndCalled
  refine wpAny_bind (wpAny_of_eq (show (if onTheHeap (.type "super") then typeLookup (.type "super") "__getattr__" else pure none) = pure none from rfl) ?_)
  refine wpAny_bind (wpAny_attempt (wpAny_holding ?_))
  show wpAny _ _ (bindSpecial (.builtin "super.__getattribute__") (.ref so) >>= _) _ _ _
  refine wpAny_bind (wpAny_of_eq (F.ks_slot_super_ga.bind _) ?_)
  refine wpAny_mono (Q := fun v s' => v = .ref h.objs.size ∧ s' = ⟨h.push (boundO bt i x), g, d, t + 1, os⟩) (E := fun _ _ => False)
    (wpAny_call_entry F.ks_slot_super_ga (hT _) F.ks_entry_super_ga (sup_ga X hso hown hty hsl hn hx109 (fun Q => hget _ _ _ Q) ⟨_, rfl, rfl, rfl⟩) (F.ks_gaArgs_super _ _)) (fun v s' hv => ?_) fun _ _ z => z.elim
  obtain ⟨rfl, rfl⟩ := hv
  exact wpAny_pure (wpAny_pure hq)
end
section
variable {prog : Program} {w : World} {A : Around} {x so dx : Addr} {E : Value → Shared → Prop} {s : Shared} {h₀ : Heap} {L : Addr} {m : Str → Option Value} {news : List (Addr × Obj)}
theorem acc_ne {w : World} {h : Heap} {xs : Array Value} {n : Nat} (X : (KK w).In h) (hx : h.get? x = some (accO dx xs n)) : x ≠ 109 := by
  rintro rfl
  have := X _ _ (obj_acc w)
  rw [hx] at this
  cases this
theorem m_init {xs : Array Value} {n : Nat} {pl : Sem Bool} {Q : Value × List Value → Shared → Prop} (F : Fr h₀ L s.heap m) (X₀ : (KK w).In h₀) (N : News h₀ L s.heap news) (hso : (so, supO x) ∈ news) (hx : (x, accO dx xs n) ∈ news)
    (h : ∀ q h', Fr h₀ L h' m → News h₀ L h' ((q, boundO "method-wrapper" "list.__init__" x) :: news) → (∀ p ∈ news, p.1 < q) → Q (.ref q, []) { s with heap := h', toks := s.toks + 1 }) :
    wpAny (model prog w) A (getMethod (.ref so) "__init__" pl) Q E s := by
  have X : (KK w).In s.heap := X₀.keeps F.keep
  obtain ⟨hh, g, d, t, os⟩ := s
  refine sup_getMethod X (N _ hso).1 own_init ty_init slot_wd (by decide +kernel) (acc_ne X (N _ hx).1) (fun A t E Q hq => get_wd X (N _ hx).1 ow_init ty_init hq) ?_
  exact h _ _ (F.push _) (N.push F _) (fun p hp => Heap.lt_size (N p hp).1)
theorem m_len {xs : Array Value} {n : Nat} {pl : Sem Bool} {Q : Value × List Value → Shared → Prop} (F : Fr h₀ L s.heap m) (X₀ : (KK w).In h₀) (N : News h₀ L s.heap news) (hso : (so, supO x) ∈ news) (hx : (x, accO dx xs n) ∈ news)
    (h : ∀ q h', Fr h₀ L h' m → News h₀ L h' ((q, boundO "method-wrapper" "list.__len__" x) :: news) → (∀ p ∈ news, p.1 < q) → Q (.ref q, []) { s with heap := h', toks := s.toks + 1 }) :
    wpAny (model prog w) A (getMethod (.ref so) "__len__" pl) Q E s := by
  have X : (KK w).In s.heap := X₀.keeps F.keep
  obtain ⟨hh, g, d, t, os⟩ := s
  refine sup_getMethod X (N _ hso).1 own_len ty_len slot_wd (by decide +kernel) (acc_ne X (N _ hx).1) (fun A t E Q hq => get_wd X (N _ hx).1 ow_len ty_len hq) ?_
  exact h _ _ (F.push _) (N.push F _) (fun p hp => Heap.lt_size (N p hp).1)
theorem m_pop {xs : Array Value} {n : Nat} {pl : Sem Bool} {Q : Value × List Value → Shared → Prop} (F : Fr h₀ L s.heap m) (X₀ : (KK w).In h₀) (N : News h₀ L s.heap news) (hso : (so, supO x) ∈ news) (hx : (x, accO dx xs n) ∈ news)
    (h : ∀ q h', Fr h₀ L h' m → News h₀ L h' ((q, boundO "builtin_function_or_method" "list.pop" x) :: news) → (∀ p ∈ news, p.1 < q) → Q (.ref q, []) { s with heap := h', toks := s.toks + 1 }) :
    wpAny (model prog w) A (getMethod (.ref so) "pop" pl) Q E s := by
  have X : (KK w).In s.heap := X₀.keeps F.keep
  obtain ⟨hh, g, d, t, os⟩ := s
  refine sup_getMethod X (N _ hso).1 own_pop ty_pop slot_md (by decide +kernel) (acc_ne X (N _ hx).1) (fun A t E Q hq => get_md X (N _ hx).1 ty_pop hq) ?_
  exact h _ _ (F.push _) (N.push F _) (fun p hp => Heap.lt_size (N p hp).1)
end
end Mine
end
section
set_option maxRecDepth 100000
set_option maxHeartbeats 8000000
open PySem PySem.W PyProof.Rows PySem.Calls PySem.Builtin PySem.Builtin.ObjectAttr PySem.Builtin.Getset_descriptor
namespace Mine
theorem upd_F {h₀ h : Heap} {L D : Addr} {m : Str → Option Value} {news news' : List (Addr × Obj)} {o o' : Obj} {f : Obj → Obj} (F : Fr h₀ L h m) (N : News h₀ L h news) (U : Upd D o o' news news') (e : f o = o') (hf : o'.isFreed = false) :
    Fr h₀ L (h.update D f) m ∧ News h₀ L (h.update D f) news' := by
  obtain ⟨pre, post, rfl, rfl, a, b⟩ := U.split
  exact news_upd F N a b e hf
theorem upd_mem {D : Addr} {o o' : Obj} {news news' : List (Addr × Obj)} (U : Upd D o o' news news') : (D, o) ∈ news := by
  obtain ⟨pre, post, rfl, rfl, a, b⟩ := U.split
  simp

theorem check_meth {M : Model} {A : Around} {E : Value → Shared → Prop} {s : Shared} {i owner n : String} {self : Value} {rest : List Value} {kw : List (Str × Value)} {Q : Unit → Shared → Prop}
    (hk : builtinKind i = some .method) (hs : splitId i = some (owner, n)) (hi : Looks M s.heap (isInstance self (.type owner)) true) (ha : argsOk i ⟨self :: rest, kw⟩) (q : Q () s) :
    wpAny M A (checkBuiltinCall i ⟨self :: rest, kw⟩) Q E s := by
  simp only [checkBuiltinCall, hk, hs]
  refine wpAny_bind (hi.here ?_)
  simp only [Bool.not_true, Bool.false_eq_true, if_false]
  cases hsig : Manifest.signature? i with
  | none => exact wpAny_pure q
  | some sig =>
    simp only [argsOk, hsig] at ha
    have h2 : Bind.checkArgs i sig ⟨self :: rest, kw⟩ = pure () := ha
    show wpAny M A (Bind.checkArgs i sig ⟨self :: rest, kw⟩) Q E s
    rw [h2]; exact wpAny_pure q

section
variable {prog : Program} {w : World} {A : Around} {x dx : Addr} {E : Value → Shared → Prop} {s : Shared} {h₀ : Heap} {L : Addr} {m : Str → Option Value} {news news' : List (Addr × Obj)}
theorem acc_isList {xs : Array Value} {n : Nat} {h : Heap} (X : (KK w).In h) (hx : h.get? x = some (accO dx xs n)) : Looks (model prog w) h (isInstance (.ref x) (.type "list")) true :=
  ((Looks.ld hx).andThen .now : Looks (model prog w) h (typeOf (.ref x)) (.ref 109)).andThen (looks_mroIn X (sub_list w))

theorem op_append {its : Array Value} {n : Nat} {v : Value} {Q : Value → Shared → Prop} (F : Fr h₀ L s.heap m) (X₀ : (KK w).In h₀) (N : News h₀ L s.heap news) (U : Upd x (accO dx its n) (accO dx (its.push v) (n + 1)) news news')
    (h : ∀ h', Fr h₀ L h' m → News h₀ L h' news' → Q .none { s with heap := h' }) (hsz : its.size ≤ sizeLine) :
    wpAny (model prog w) A (call (.builtin "list.append") [.ref x, v]) Q E s := by
  have X : (KK w).In s.heap := X₀.keeps F.keep
  have hx := (N _ (upd_mem U)).1
  have SF := PySem.F.slot_list_append
  have hL := acc_isList (prog := prog) X hx
  refine wpAny_call (codeAny_call_builtin SF.plain PySem.F.entry_list_append (@check_meth (model prog w) _ _ s "list.append" "list" "append" (.ref x) [v] [] _ (by decide +kernel) (by decide +kernel) hL (by unfold argsOk; kernel_rfl) ?_))
  unfold Builtin.«list.append»
  refine wpAny_bind (wpAny_of_eq (a := (.ref x, v)) rfl ?_)
  obtain ⟨U1, U2⟩ := upd_F (f := Obj.mapSeq (·.push v)) F N U (by simp [Obj.mapSeq]) rfl
  refine wpAny_bind (wpAny_updateSeq (hz := hsz) (_hz' := by simp only [Array.size_push]; omega) hx rfl ?_)
  exact wpAny_pure (h _ U1 U2)

theorem op_len {its : Array Value} {n : Nat} {q : Addr} {Q : Value → Shared → Prop} (N : News h₀ L s.heap news) (hq : (q, boundO "method-wrapper" "list.__len__" x) ∈ news) (hx : (x, accO dx its n) ∈ news)
    (h : Q (.int its.size s.toks) { s with toks := s.toks + 1 }) :
    wpAny (model prog w) A (call (.ref q) [] []) Q E s := by
  have hq1 := (N _ hq).1
  have hx1 := (N _ hx).1
  refine wpAny_call (codeAny_of_tree ?_)
  show wpAny _ _ (callAny (.ref q) _) _ _ _
  refine nd_load hq1 ?_
  show wpAny _ _ (checkBoundCall "list.__len__" ⟨[.ref x], []⟩ >>= fun _ => again (.builtin "list.__len__" ⟨[.ref x], []⟩)) _ _ _
  refine wpAny_bind (wpAny_of_eq (a := ()) (by kernel_rfl) ?_)
  refine wpAny_pure (And.intro (Code.quiet_builtin _ (by decide +kernel)) (codeAny_builtin (PySem.F.entry_list_len) ?_))
  unfold Builtin.«list.__len__»
  refine wpAny_bind (wpAny_of_eq (a := (.ref x, [])) rfl ?_)
  refine wpAny_bind ?_
  unfold seqSize
  refine wpAny_bind (wpAny_loadPart hx1 (wpAny_pure ?_))
  exact wpAny_bind (wpAny_mkInt (wpAny_pure h))

theorem op_pop {its : Array Value} {v : Value} {n : Nat} {q : Addr} {Q : Value → Shared → Prop} (F : Fr h₀ L s.heap m) (N : News h₀ L s.heap news) (hq : (q, boundO "builtin_function_or_method" "list.pop" x) ∈ news)
    (X₀ : (KK w).In h₀) (U : Upd x (accO dx (its.push v) n) (accO dx its (n + 1)) news news') (hsz : its.size < sizeLine)
    (h : ∀ h', Fr h₀ L h' m → News h₀ L h' news' → Q v { s with heap := h' }) :
    wpAny (model prog w) A (call (.ref q) [] []) Q E s := by
  have X : (KK w).In s.heap := X₀.keeps F.keep
  have hq1 := (N _ hq).1
  have hx1 := (N _ (upd_mem U)).1
  refine wpAny_call (codeAny_of_tree ?_)
  show wpAny _ _ (callAny (.ref q) _) _ _ _
  refine nd_load hq1 ?_
  show wpAny _ _ (checkBoundCall "list.pop" ⟨[.ref x], []⟩ >>= fun _ => again (.builtin "list.pop" ⟨[.ref x], []⟩)) _ _ _
  have T0 : Looks (model prog w) s.heap (typeOf (.ref x)) (.ref 109) := (Looks.ld hx1).andThen .now
  have T1 : Looks (model prog w) s.heap (isInstance (.ref x) (.type "module")) false := T0.andThen (looks_mroIn X (by kernel_rfl))
  have T2 : Looks (model prog w) s.heap (isType (.ref x)) false := (Looks.ld hx1).andThen .now
  have T3 := looks_clsIn (M := model prog w) X (cls_acc w)
  have T4 : Looks (model prog w) s.heap (typeOf (.ref 109)) (.type "type") := looks_typeIn X (by kernel_rfl)
  refine wpAny_bind (m := checkBoundCall "list.pop" ⟨[.ref x], []⟩) ?_
  have hk : builtinKind "list.pop" = some .method := by decide +kernel
  unfold checkBoundCall
  have hv : Manifest.varargsMethods.contains "list.pop" = false := by decide +kernel
  have hsg : ∃ sig, Manifest.signature? "list.pop" = some sig ∧ Bind.checkArgs "list.pop" { sig with full := s!"{accCd.qualname.toString}.{Bind.lastOf "list.pop"}" } ⟨[.ref x], []⟩ = pure () := ⟨_, rfl, by kernel_rfl⟩
  obtain ⟨sig, hs1, hs2⟩ := hsg
  simp only [hs1, hk, hv]
  refine KFB.if_not (by decide) ?_
  refine wpAny_bind (T1.here ?_)
  refine KFB.if_not rfl ?_
  refine wpAny_bind (T2.here (KFB.if_not rfl (wpAny_bind (T0.here ?_))))
  refine wpAny_bind (T3.here ?_)
  refine wpAny_bind (T4.here ?_)
  refine KFB.if_so rfl ?_
  refine wpAny_of_eq (a := ()) hs2 ?_
  refine wpAny_pure (And.intro (Code.quiet_builtin _ (by decide +kernel)) (codeAny_builtin (PySem.F.entry_list_pop) ?_))
  unfold Builtin.«list.pop»
  refine wpAny_bind (wpAny_of_eq (a := (.ref x, [])) rfl ?_)
  refine wpAny_bind (wpAny_of_eq (a := -1) rfl ?_)
  refine KFB.if_not (by decide) ?_
  refine wpAny_bind (wpAny_bind (wpAny_seqItems hx1 rfl (wpAny_pure ?_)))
  have he : (its.push v).isEmpty = false := by simp
  have hb : ((seqIndex? (-1) (its.push v).size).bind fun k => (its.push v)[k]?.map (k, ·)) = some (its.size, v) := by
    have h1 : seqIndex? (-1) (its.push v).size = some its.size := by
      unfold seqIndex?
      simp
      omega
    rw [h1]; simp
  dsimp only
  refine KFB.if_not he ?_
  rw [hb]
  obtain ⟨U1, U2⟩ := upd_F (f := Obj.mapSeq (·.eraseIdxIfInBounds its.size)) F N U (by
    have h2 : (its.push v).eraseIdxIfInBounds its.size = its := by
      unfold Array.eraseIdxIfInBounds
      rw [dif_pos (by simp)]
      apply Array.ext'
      simp [List.eraseIdx_append_of_length_le]
    simp [Obj.mapSeq, h2]) rfl
  refine wpAny_bind (wpAny_updateSeq (hz := by simp only [Array.size_push]; omega) (_hz' := by
    have : ((its.push v).eraseIdxIfInBounds its.size).size ≤ (its.push v).size := by
      unfold Array.eraseIdxIfInBounds; split
      · simp
      · exact Nat.le_refl _
    simp only [Array.size_push] at this; omega) hx1 rfl ?_)
  exact wpAny_pure (h _ U1 U2)

theorem op_init {n : Nat} {q : Addr} {Q : Value → Shared → Prop} (F : Fr h₀ L s.heap m) (N : News h₀ L s.heap news) (hq : (q, boundO "method-wrapper" "list.__init__" x) ∈ news)
    (U : Upd x (accO dx #[] n) (accO dx #[] n) news news')
    (h : ∀ h', Fr h₀ L h' m → News h₀ L h' news' → Q .none { s with heap := h' }) :
    wpAny (model prog w) A (call (.ref q) [] []) Q E s := by
  have hq1 := (N _ hq).1
  have hx1 := (N _ (upd_mem U)).1
  refine wpAny_call (codeAny_of_tree ?_)
  show wpAny _ _ (callAny (.ref q) _) _ _ _
  refine nd_load hq1 ?_
  show wpAny _ _ (checkBoundCall "list.__init__" ⟨[.ref x], []⟩ >>= fun _ => again (.builtin "list.__init__" ⟨[.ref x], []⟩)) _ _ _
  refine wpAny_bind (wpAny_of_eq (a := ()) (by kernel_rfl) ?_)
  refine wpAny_pure (And.intro (Code.quiet_builtin _ (by decide +kernel)) (codeAny_builtin (PySem.F.entry_list_init) ?_))
  unfold Builtin.«list.__init__»
  obtain ⟨U1, U2⟩ := upd_F (f := Obj.mapSeq (fun _ => #[])) F N U (by simp [Obj.mapSeq]) rfl
  dsimp only
  refine KFB.if_not rfl ?_
  rw [if_neg (by decide)]
  refine wpAny_bind (wpAny_bind (wpAny_seqItems hx1 rfl (wpAny_pure ?_)))
  refine wpAny_bind (wpAny_updateSeq (hz := by decide) (_hz' := by decide) hx1 rfl ?_)
  refine wpAny_bind (wpAny_letGo ?_)
  exact wpAny_pure (h _ U1 U2)
end
end Mine
end
section
set_option maxRecDepth 100000
set_option maxHeartbeats 8000000
open PySem PySem.W PyProof.Rows PySem.Calls PySem.Builtin PySem.Builtin.ObjectAttr PySem.Builtin.Getset_descriptor
namespace Mine
theorem acc_noSeq (w : World) : noSeq (KK w) 109 = true := by kernel_rfl
section
variable {prog : Program} {w : World} {A : Around} {x dx sl : Addr} {E : Value → Shared → Prop} {s : Shared} {h₀ : Heap} {L : Addr} {m : Str → Option Value} {news news' : List (Addr × Obj)}
theorem acc_seqKey {its : Array Value} {n : Nat} {k : Value} {name : Str} {Q : Value → Shared → Prop} (X : (KK w).In s.heap) (hx : s.heap.get? x = some (accO dx its n)) (h : Q k s) :
    wpAny (model prog w) A (sequenceKey (.ref x) k name) Q E s := by
  have T0 : Looks (model prog w) s.heap (typeOf (.ref x)) (.ref 109) := (Looks.ld hx).andThen .now
  unfold sequenceKey
  refine wpAny_bind (T0.here ?_)
  dsimp only
  refine wpAny_bind ?_
  have hl : Looks (model prog w) s.heap (seqItemTypes.anyM fun n => isSubtype (.ref 109) (.type n)) false := by
    have := acc_noSeq w
    unfold noSeq at this
    generalize seqItemTypes = l at this
    induction l with
    | nil => exact .now
    | cons a r ih =>
      rw [List.all_cons, Bool.and_eq_true] at this
      rw [List.anyM_cons]
      refine (looks_subIn X (beq_iff_eq.mp this.1)).andThen ?_
      exact ih this.2
  refine hl.here ?_
  exact KFB.if_so rfl (wpAny_pure h)

theorem op_slice {its : Array Value} {n : Nat} {vl vu : Value} {lo hi : Option Int} {Q : Value → Shared → Prop} (X : (KK w).In s.heap) (hx : s.heap.get? x = some (accO dx its n))
    (hs : s.heap.IsSliceOf sl vl vu .none) (pl : IsPart vl lo) (pu : IsPart vu hi)
    (h : Q (.ref s.heap.objs.size) { s with heap := s.heap.push { cls := .type "list", data := .seq (slicePick its lo hi none) } }) (hsz : its.size ≤ sizeLine) :
    wpAny (model prog w) A (getItem (.ref x) (.ref sl)) Q E s := by
  obtain ⟨os, hos, hcs, hds⟩ := id hs
  have hTs : s.TypeIs (.ref sl) "slice" := ⟨os, hos, hcs⟩
  have T0 : Looks (model prog w) s.heap (typeOf (.ref x)) (.ref 109) := (Looks.ld hx).andThen .now
  have SF := PySem.slot_list_getitem
  have hL := acc_isList (prog := prog) X hx
  unfold getItem callSpecial? specialOf
  refine wpAny_holding (wpAny_bind (acc_seqKey X hx (wpAny_bind (wpAny_bind (wpAny_bind (T0.here ((looks_findIn X (fi_getitem w)).here (wpAny_holding ?_))))))))
  rw [SF.bind]
  refine wpAny_bind (wpAny_pure (wpAny_bind (wpAny_call (codeAny_call_builtin SF.plain entry_list_getitem (@check_meth (model prog w) _ _ s "list.__getitem__" "list" "__getitem__" (.ref x) [.ref sl] [] _ (by decide +kernel) (by decide +kernel) hL (args_list_getitem _ _) ?_)))))
  show wpAny _ _ (Builtin.List.listSubscript? (.ref sl) >>= _) _ _ s
  refine wpAny_bind ?_
  unfold Builtin.List.listSubscript?
  refine wpAny_bind (wpAny_specialOf hTs slice_no_index ?_)
  simp only [Option.isNone_none, if_true]
  refine wpAny_pure ?_
  show wpAny _ _ (typeOf (.ref sl) >>= _) _ _ s
  refine wpAny_bind (wpAny_typeOf hTs ?_)
  rw [if_neg (by decide)]
  rw [listSliceParts_eq]
  refine wpAny_bind (wpAny_bind (wpAny_field hos hds (x := .none) rfl (wpAny_bind (wpAny_listPart .none ?_))))
  rw [if_neg (by exact Bool.false_ne_true)]
  refine wpAny_bind (wpAny_field hos hds (x := vl) rfl (wpAny_bind (wpAny_listPart pl ?_)))
  refine wpAny_bind (wpAny_field hos hds (x := vu) rfl (wpAny_bind (wpAny_listPart pu (wpAny_pure ?_))))
  refine wpAny_bind (m := Builtin.List.listItems (.ref x)) ?_
  unfold Builtin.List.listItems
  refine wpAny_bind (wpAny_seqItems hx rfl (wpAny_pure ?_))
  refine wpAny_bind (wpAny_of_eq (sliceIndices_raw lo hi none its.size (by simp)) ?_)
  refine wpAny_bind (wpAny_newObj_type (wpAny_pure (wpAny_pure (wpAny_pure h))) (Nat.le_trans (slicePick_size_le its lo hi none) hsz))

theorem op_setslice {its ys : Array Value} {n : Nat} {v : Addr} {vl vu : Value} {lo hi : Option Int} {a b : Nat} {Q : Unit → Shared → Prop} (F : Fr h₀ L s.heap m) (X₀ : (KK w).In h₀) (N : News h₀ L s.heap news)
    (hs : s.heap.IsSliceOf sl vl vu .none) (hv : s.heap.IsList v ys) (pl : IsPart vl lo) (pu : IsPart vu hi)
    (hb : sliceBounds lo hi none its.size = ((a : Int), (b : Int), 1)) (hab : a ≤ b) {n' : Nat}
    (hn : n' = if (its.extract 0 a ++ ys ++ its.extract b its.size).size == its.size then n else n + 1)
    (U : Upd x (accO dx its n) (accO dx (its.extract 0 a ++ ys ++ its.extract b its.size) n') news news')
    (hsz : its.size + ys.size ≤ sizeLine) (hxv : x ≠ v)
    (h : ∀ h', Fr h₀ L h' m → News h₀ L h' news' → Q () { s with heap := h' }) :
    wpAny (model prog w) A (setItem (.ref x) (.ref sl) (.ref v)) Q E s := by
  have X : (KK w).In s.heap := X₀.keeps F.keep
  have hx := (N _ (upd_mem U)).1
  obtain ⟨os, hos, hcs, hds⟩ := id hs
  have hTs : s.TypeIs (.ref sl) "slice" := ⟨os, hos, hcs⟩
  have T0 : Looks (model prog w) s.heap (typeOf (.ref x)) (.ref 109) := (Looks.ld hx).andThen .now
  have SF := PySem.slot_list_setitem
  have hL := acc_isList (prog := prog) X hx
  unfold setItem callSpecial? specialOf
  refine wpAny_holding (wpAny_bind (acc_seqKey X hx (wpAny_bind (wpAny_bind (wpAny_bind (T0.here ((looks_findIn X (fi_setitem w)).here (wpAny_holding ?_))))))))
  rw [SF.bind]
  refine wpAny_bind (wpAny_pure (wpAny_bind (wpAny_call (codeAny_call_builtin SF.plain entry_list_setitem (@check_slot (model prog w) _ _ s "list.__setitem__" "list" "__setitem__" (.ref x) [.ref sl, .ref v] [] _ (by decide +kernel) (by decide +kernel) hL (args_list_setitem _ _ _) ?_)))))
  unfold Builtin.«list.__setitem__»
  refine wpAny_bind (wpAny_of_eq (a := (.ref x, [.ref sl, .ref v])) rfl ?_)
  dsimp only
  refine wpAny_bind ?_
  unfold Builtin.List.listSubscript?
  refine wpAny_bind (wpAny_specialOf hTs slice_no_index ?_)
  simp only [Option.isNone_none, if_true]
  refine wpAny_pure ?_
  dsimp only
  refine wpAny_bind (wpAny_typeOf hTs ?_)
  rw [if_neg (by decide)]
  rw [listSliceParts_eq]
  refine wpAny_bind (wpAny_bind (wpAny_field hos hds (x := .none) rfl (wpAny_bind (wpAny_listPart .none ?_))))
  rw [if_neg (by exact Bool.false_ne_true)]
  refine wpAny_bind (wpAny_field hos hds (x := vl) rfl (wpAny_bind (wpAny_listPart pl ?_)))
  refine wpAny_bind (wpAny_field hos hds (x := vu) rfl (wpAny_bind (wpAny_listPart pu (wpAny_pure ?_))))
  have hsame : Builtin.List.listSameRef (.ref x) (.ref v) = false := by simp [Builtin.List.listSameRef, hxv]
  obtain ⟨ov, hov, hvc, nv, hvd⟩ := id hv
  dsimp only
  rw [hsame]
  refine KFB.if_not rfl ?_
  refine wpAny_bind (m := Builtin.List.listAllItems (.ref v) "must assign iterable to extended slice") ?_
  unfold Builtin.List.listAllItems
  refine wpAny_bind (wpAny_typeOf (T := "list") ⟨ov, hov, hvc⟩ ?_)
  refine KFB.if_so (by decide) ?_
  unfold Builtin.List.listItems
  refine wpAny_bind (wpAny_seqItems hov hvd (wpAny_pure ?_))
  refine wpAny_bind (m := Builtin.List.listItems (.ref x)) ?_
  unfold Builtin.List.listItems
  refine wpAny_bind (wpAny_seqItems hx rfl (wpAny_pure ?_))
  refine wpAny_bind (wpAny_of_eq (sliceIndices_raw lo hi none its.size (by simp)) ?_)
  rw [hb]
  dsimp only
  refine KFB.if_so rfl ?_
  refine wpAny_bind (wpAny_rule ?_)
  have hlong : Builtin.List.listTooLong (its.size + ys.size) = false := by
    unfold Builtin.List.listTooLong
    simpa using hsz
  refine KFB.if_not hlong ?_
  have hmax : (max (a : Int) (b : Int)).toNat = b := by omega
  have hA : ((a : Int)).toNat = a := by omega
  rw [hmax, hA]
  obtain ⟨U1, U2⟩ := upd_F (f := Obj.mapSeq (fun xs => xs.extract 0 a ++ ys ++ xs.extract b xs.size)) F N U (by
    rw [hn]; simp only [Obj.mapSeq, accO]) rfl
  refine wpAny_bind (wpAny_updateSeq (hz := by omega) (_hz' := by
    have : (its.extract 0 a ++ ys ++ its.extract b its.size).size ≤ its.size + ys.size := by
      simp only [Array.size_append, Array.size_extract]; omega
    omega) hx rfl ?_)
  refine wpAny_bind (wpAny_letGo ?_)
  exact wpAny_pure (wpAny_pure (wpAny_pure (h _ U1 U2)))

theorem op_subTail {its : Array Value} {n : Nat} {value slice : PySem.Expr} {vl vu : Value} {lo hi : Option Int} {Q : Value → Shared → Prop} (F : Fr h₀ L s.heap m) (X₀ : (KK w).In h₀) (N : News h₀ L s.heap news) (hx : (x, accO dx its n) ∈ news)
    (pl : IsPart vl lo) (pu : IsPart vu hi) (hsz : its.size ≤ sizeLine)
    (h : ∀ D h', Fr h₀ L h' m → News h₀ L h' ((D, listOf (slicePick its lo hi none) 0) :: news) → (∀ p ∈ news, p.1 < D) → Q (.ref D) { s with heap := h' })
    (hs : subscripted slice false (.ref x) (.ref s.heap.objs.size) = operate [.ref s.heap.objs.size, .ref x] (getItem (.ref x) (.ref s.heap.objs.size))) (ht : ∀ r, letTemporaryGo value (.ref x) r = pure ()) :
    wpAny (model prog w) A (subscriptTail value slice (.ref x) (.ref s.heap.objs.size)) Q E { s with heap := s.heap.push { cls := .type "slice", data := .fields #[vl, vu, .none] } } := by
  have X : (KK w).In s.heap := X₀.keeps F.keep
  have hx1 := (N _ hx).1
  have hx2 : (s.heap.push { cls := .type "slice", data := .fields #[vl, vu, .none] }).get? x = some (accO dx its n) := Heap.get?_push_of_some _ hx1
  have X2 : (KK w).In (s.heap.push { cls := .type "slice", data := .fields #[vl, vu, .none] }) := X.keeps fun _ _ e => Heap.get?_push_of_some _ e
  have T0 : Looks (model prog w) (s.heap.push { cls := .type "slice", data := .fields #[vl, vu, .none] }) (typeOf (.ref x)) (.ref 109) := (Looks.ld hx2).andThen .now
  have T1 : Looks (model prog w) (s.heap.push { cls := .type "slice", data := .fields #[vl, vu, .none] }) (getitemInPython (.ref x)) false := by
    unfold getitemInPython
    exact (T0.andThen (looks_findIn X2 (fi_getitem w))).andThen .now
  unfold subscriptTail
  refine wpAny_bind (T1.here ?_)
  rw [hs]
  refine wpAny_bind (wpAny_operating (op_slice (s := { s with heap := s.heap.push { cls := .type "slice", data := .fields #[vl, vu, .none] } }) X2 hx2 (Heap.IsSliceOf.new ..) pl pu ?_ hsz))
  refine wpAny_bind (wpAny_of_eq (ht _) (wpAny_pure ?_))
  have N1 := News.push (F.push { cls := .type "slice", data := .fields #[vl, vu, .none] }) (N.grown fun _ _ e => Heap.get?_push_of_some _ e) { cls := .type "list", data := .seq (slicePick its lo hi none) }
  exact h _ _ ((F.push _).push _) N1 fun p hp => Nat.lt_of_lt_of_le (Heap.lt_size (N p hp).1) (by rw [Heap.size_push]; exact Nat.le_succ _)

theorem op_setSlicePushed {its ys : Array Value} {n : Nat} {v : Addr} {vl vu : Value} {lo hi : Option Int} {a b : Nat} {Q : Unit → Shared → Prop} (F : Fr h₀ L s.heap m) (X₀ : (KK w).In h₀) (N : News h₀ L s.heap news)
    (hv : s.heap.IsList v ys) (pl : IsPart vl lo) (pu : IsPart vu hi)
    (hb : sliceBounds lo hi none its.size = ((a : Int), (b : Int), 1)) (hab : a ≤ b) {n' : Nat}
    (hn : n' = if (its.extract 0 a ++ ys ++ its.extract b its.size).size == its.size then n else n + 1)
    (U : Upd x (accO dx its n) (accO dx (its.extract 0 a ++ ys ++ its.extract b its.size) n') news news')
    (hsz : its.size + ys.size ≤ sizeLine) (hxv : x ≠ v)
    (h : ∀ h', Fr h₀ L h' m → News h₀ L h' news' → Q () { s with heap := h' }) :
    wpAny (model prog w) A (setItem (.ref x) (.ref s.heap.objs.size) (.ref v)) Q E { s with heap := s.heap.push { cls := .type "slice", data := .fields #[vl, vu, .none] } } :=
  op_setslice (s := { s with heap := s.heap.push { cls := .type "slice", data := .fields #[vl, vu, .none] } }) (F.push _) X₀ (N.grown fun _ _ e => Heap.get?_push_of_some _ e) (Heap.IsSliceOf.new ..) (hv.push _) pl pu hb hab hn U hsz hxv h

theorem allLt_mem {d : Addr} {l : List (Addr × Obj)} (h : AllLt d l) : ∀ p ∈ l, p.1 < d := by
  induction l with
  | nil => exact fun _ hp => nomatch hp
  | cons q r ih =>
    have h' : q.1 < d ∧ AllLt d r := h
    intro p hp
    rcases List.mem_cons.mp hp with e | hp
    · rw [e]; exact h'.1
    · exact ih h'.2 p hp
theorem bounds_from (k : Int) (n : Nat) (h0 : 0 ≤ k) (hk : k.toNat ≤ n) : sliceBounds (some k) none none n = ((k.toNat : Int), (n : Int), 1) := by
  simp only [sliceBounds, Option.getD_none, show (1 : Int) > 0 by decide, if_true, if_neg (show ¬ (k < 0) by omega)]
  congr 1
  omega
theorem bounds_all (n : Nat) : sliceBounds none none none n = (((0 : Nat) : Int), (n : Int), 1) := by
  simp only [sliceBounds, Option.getD_none, show (1 : Int) > 0 by decide, if_true]
  rfl
theorem pick_from' (its : Array Value) (k : Int) (h0 : 0 ≤ k) (hk : k.toNat ≤ its.size) : slicePick its (some k) none none = its.extract k.toNat its.size := by
  rw [kmk_pick_nat its (bounds_from k _ h0 hk)]
  apply Array.ext'
  simp
theorem pick_upto' (its : Array Value) (k : Nat) (hk : k ≤ its.size) : slicePick its none (some (k : Int)) none = its.extract 0 k := by
  rw [slicePick_upto its k hk]
  apply Array.ext'
  simp
theorem nw0 {h : Heap} {l t : List (Addr × Obj)} (N : News h₀ L h l) (ht : ∀ p ∈ t, p ∈ l) : News h₀ L h t := fun p hp => N p (ht p hp)
theorem nw1 {h : Heap} {a : Addr × Obj} {l t : List (Addr × Obj)} (N : News h₀ L h l) (ha : a ∈ l) (ht : ∀ p ∈ t, p ∈ l) : News h₀ L h (a :: t) := fun p hp => N p (by
  rcases List.mem_cons.mp hp with e | hp
  · exact e ▸ ha
  · exact ht p hp)
theorem nw2 {h : Heap} {a b : Addr × Obj} {l t : List (Addr × Obj)} (N : News h₀ L h l) (ha : a ∈ l) (hb : b ∈ l) (ht : ∀ p ∈ t, p ∈ l) : News h₀ L h (a :: b :: t) := fun p hp => N p (by
  rcases List.mem_cons.mp hp with e | hp
  · exact e ▸ ha
  · rcases List.mem_cons.mp hp with e | hp
    · exact e ▸ hb
    · exact ht p hp)
theorem nw3 {h : Heap} {a b c : Addr × Obj} {l t : List (Addr × Obj)} (N : News h₀ L h l) (ha : a ∈ l) (hb : b ∈ l) (hc : c ∈ l) (ht : ∀ p ∈ t, p ∈ l) : News h₀ L h (a :: b :: c :: t) := fun p hp => N p (by
  rcases List.mem_cons.mp hp with e | hp
  · exact e ▸ ha
  · rcases List.mem_cons.mp hp with e | hp
    · exact e ▸ hb
    · rcases List.mem_cons.mp hp with e | hp
      · exact e ▸ hc
      · exact ht p hp)

theorem canon_ga : (Manifest.canonical "list.__getattribute__" != "object.__getattribute__") = false := by decide +kernel
theorem acc_getMethod {its : Array Value} {n : Nat} {od : Obj} {f tf : Value} {name : Str} {pl : Sem Bool} {Q : Value × List Value → Shared → Prop} (X : (KK w).In s.heap) (hx : s.heap.get? x = some (accO dx its n)) (hdx : s.heap.get? dx = some od)
    (hf : findIn (MineH.hd.heap_1 w.params) (.ref 109) name = some (some f)) (ht : typeIn (MineH.hd.heap_1 w.params) f = some tf) (htf : (tf != .type "function" && tf != .type "method_descriptor" && tf != .type "wrapper_descriptor") = false) (ho : lookIn name od = some none) (hq : Q (f, [.ref x]) s) :
    wpAny (model prog w) A (getMethod (.ref x) name pl) Q E s := by
  have T0 : Looks (model prog w) s.heap (typeOf (.ref x)) (.ref 109) := (Looks.ld hx).andThen .now
  have S1 : Looks (model prog w) s.heap (specialOf (.ref x) "__getattribute__") (some (.builtin "list.__getattribute__")) := T0.andThen (looks_findIn X (fi_ga w))
  have S2 : Looks (model prog w) s.heap (specialOf (.ref x) "__getattr__") none := T0.andThen (looks_findIn X (fi_gat w))
  have S3 : Looks (model prog w) s.heap (specialOf (.ref x) name) (some f) := T0.andThen (looks_findIn X hf)
  have S4 := looks_typeIn (M := model prog w) X ht
  unfold getMethod
  refine wpAny_bind (S1.here ?_)
  refine KFB.if_not canon_ga ?_
  refine wpAny_bind (S2.here ?_)
  refine KFB.if_not rfl ?_
  refine wpAny_bind (S3.here ?_)
  refine wpAny_bind (S4.here ?_)
  refine KFB.if_not htf ?_
  refine wpAny_bind (wpAny_loadPart hx ?_)
  dsimp only
  refine wpAny_bind ?_
  unfold nsGet
  refine wpAny_bind (wpAny_loadPart hdx ?_)
  rw [nsLook_of ho]
  refine wpAny_pure ?_
  refine KFB.if_not rfl ?_
  exact wpAny_bind (wpAny_rule (wpAny_pure hq))
end
end Mine
end
section
set_option maxRecDepth 100000
set_option maxHeartbeats 8000000
open PySem PySem.W PyProof.Rows PySem.Calls
namespace Mine
local macro_rules | `(tactic| walk_at "my_enter") => `(tactic| (refine' code_def ?k1 ?k2 ?k3 ?k4 ?k5 ?kA ?kF ?kK ?k6 ?k7 ?k8 ?k9 ?kB ?_ ?c2 ?c3 ?c4 ?c5; (case kA | kF | kK | k1 | k2 | k3 | k4 | k5 => assumption); (case k6 | k7 => k_is); (case k8 => exact Nat.lt_of_lt_of_le (by assumption) (by decide)); (case k9 => first | exact BindsTo.of_eq rfl | exact binds_K (by k_in) rfl (by k_is) rfl rfl rfl); (case c5 => decide); (case kB => exact locs rfl); (case c2 | c3 | c4 => exact rfl); k_whole; intro g' L' h' FG' F' N' B' X' T'; (try dsimp only); (try k_fold)))
local macro_rules | `(tactic| walk_at "subscriptTail Name Slice ref ref") => `(tactic| (k_here; k_dflt (refine' op_subTail ?F ?X ?N ?m ?p ?q ?z ?_ ?s ?t; (case F | X | N => k_asm); (case m => k_mem); (case p | q => kmk_part); (case z => assumption); (case s => with_unfolding_all rfl); (case t => kmk_pure)); intro D' h' F' N' l1))
local macro_rules | `(tactic| k_all) => `(tactic| first | assumption | exact fun p hp => Nat.ne_of_lt (allLt_mem (by assumption) p hp))
local macro_rules | `(tactic| walk_at "getMethod ref") => `(tactic| (k_here; k_dflt (refine' acc_getMethod ?X ?hx ?hdx ?f ?t ?tf ?o ?_; (case X => k_in); (case hx | hdx => exact News.get (by k_asm) (by k_mem)); (case f | t => k_is); (case tf => decide); (case o => first | assumption | rfl))))
local macro_rules | `(tactic| walk_at "call builtin:list.append") => `(tactic| (k_here; k_dflt (refine' op_append ?F ?X ?N ?U ?_ ?z; (case F | X | N => k_asm); (case U => k_upd); (case z => assumption)); intro h' F' N'))
section
variable {p : Program} {w : World} {A₀ A : Around} {s : Shared} {base h₀ : Heap} {outer : List Env} {L : Addr} {m mg mb : Str → Option Value} {env : Env} {news : List (Addr × Obj)} {loose : List Str} {mean : ExcName → Option Value} {R : Result → Shared → Prop} {x dx : Addr} {od : Obj}

theorem pop_from_ok {its : Array Value} {n : Nat} {k : Int} {t : Tok} (B : Below A₀ base outer h₀) (F : Fr h₀ L s.heap m) (X : (MineH.hd.heap_1 w.params).In h₀) (N : News h₀ L s.heap ((x, accO dx its n) :: news)) (T : Top p loose mean mg mb h₀)
    (hA : A.frames = some (env :: outer)) (hf : env.frame = some L) (hke : env.scope.kind = .function) (hroom : A.depth < 900) (hxo : ∀ p ∈ news, p.1 ≠ x) (hsz : its.size ≤ sizeLine) (hk0 : 0 ≤ k) (hk : k.toNat ≤ its.size)
    (h : ∀ h' tk l n', Fr h₀ L h' m → News h₀ L h' ((x, accO dx (its.extract 0 k.toNat) n') :: (l, listOf (its.extract k.toNat its.size) 0) :: news) → (∀ p ∈ news, p.1 < l) → x < l → R (.ok (.ret (.ref l))) { s with heap := h', toks := tk }) :
    codeAny (model PySem.Challenge.rw_wk0026_01.row.prog w) A (.call (.ref 61) ⟨[.ref x, .int k t], []⟩) R s := by
  revert X; k_fill; intro X
  k_dflt (walk_at "my_enter")
  k_steps
  rename Fr _ _ _ _ => F1
  rename News _ _ _ _ => N1
  rename_i g1 L1 _ FG1 B1 X1 T1 D _ l1 _ l _ l2
  have l1' := l1 _ (.head _)
  have hn2 := allLt_mem l2.2.2
  refine op_setSlicePushed (its := its) (ys := #[]) (a := k.toNat) (b := its.size) F1 X1 N1 ⟨_, N1.get (.head _), rfl, 0, rfl⟩ (by kmk_part) .none (bounds_from k _ hk0 hk) hk rfl (.tail (Nat.ne_of_gt l2.2.1) (.tail (Nat.ne_of_gt l1') (.head hxo))) (by simpa using hsz) (Nat.ne_of_lt l2.2.1) ?_
  intro h' F' N'
  k_steps
  rename News _ _ _ _ => N2
  rw [pick_from' its k hk0 hk, show its.extract 0 k.toNat ++ #[] ++ its.extract its.size its.size = its.extract 0 k.toNat by simp] at N2
  exact h _ _ D _ (by assumption) (nw2 N2 (.tail _ (.tail _ (.head _))) (.tail _ (.head _)) fun p hp => .tail _ (.tail _ (.tail _ hp))) (fun p hp => l1 p (.tail _ hp)) l1'

theorem push_ok {its : Array Value} {n : Nat} {a b : Str} {ta tb : Tok} (B : Below A₀ base outer h₀) (F : Fr h₀ L s.heap m) (X : (MineH.hd.heap_1 w.params).In h₀) (N : News h₀ L s.heap ((x, accO dx its n) :: (dx, od) :: news)) (T : Top p loose mean mg mb h₀)
    (hA : A.frames = some (env :: outer)) (hf : env.frame = some L) (hke : env.scope.kind = .function) (hroom : A.depth < 900) (hxo : ∀ p ∈ news, p.1 ≠ x) (hxd : dx ≠ x) (hsz : its.size ≤ sizeLine)
    (hod : lookIn "append" od = some none)
    (h : ∀ h' tk l, Fr h₀ L h' m → News h₀ L h' ((x, accO dx (its.push (.ref l)) (n + 1)) :: (dx, od) :: (l, { cls := .type "tuple", data := .seq #[.str a ta, .str b tb] }) :: news) → (∀ p ∈ news, p.1 < l) → x < l → dx < l → R (.ok (.ret .none)) { s with heap := h', toks := tk }) :
    codeAny (model PySem.Challenge.rw_wk0026_01.row.prog w) A (.call (.ref 53) ⟨[.ref x, .str a ta, .str b tb], []⟩) R s := by
  revert X; k_fill; intro X
  k_dflt (walk_at "my_enter")
  k_steps
  rename News _ _ _ _ => N2
  rename_i D _ _ _ l1 _ _ _ _ _ _
  exact h _ _ D (by assumption) (nw3 N2 (.tail _ (.head _)) (.tail _ (.tail _ (.head _))) (.head _) fun p hp => .tail _ (.tail _ (.tail _ hp))) (allLt_mem l1.2.2) l1.1 l1.2.1
end
end Mine
end
section
open PySem PySem.W PyProof.Rows PySem.Calls Mine
local macro_rules | `(tactic| walk_at "my_enter") => `(tactic| (refine' code_def ?k1 ?k2 ?k3 ?k4 ?k5 ?kA ?kF ?kK ?k6 ?k7 ?k8 ?k9 ?kB ?_ ?c2 ?c3 ?c4 ?c5; (case kA | kF | kK | k1 | k2 | k3 | k4 | k5 => assumption); (case k6 | k7 => k_is); (case k8 => exact Nat.lt_of_lt_of_le (by assumption) (by decide)); (case k9 => first | exact BindsTo.of_eq rfl | exact binds_K (by k_in) rfl (by k_is) rfl rfl rfl); (case c5 => decide); (case kB => exact locs rfl); (case c2 | c3 | c4 => exact rfl); k_whole; intro g' L' h' FG' F' N' B' X' T'; (try dsimp only); (try k_fold)))
local macro_rules | `(tactic| walk_at "subscriptTail Name Slice ref ref") => `(tactic| (k_here; k_dflt (refine' op_subTail ?F ?X ?N ?m ?p ?q ?z ?_ ?s ?t; (case F | X | N => k_asm); (case m => k_mem); (case p | q => kmk_part); (case z => assumption); (case s => with_unfolding_all rfl); (case t => kmk_pure)); intro D' h' F' N' l1))
local macro_rules | `(tactic| walk_at "getMethod ref") => `(tactic| (k_here; k_dflt (refine' acc_getMethod ?X ?hx ?hdx ?f ?t ?tf ?o ?_; (case X => k_in); (case hx | hdx => exact News.get (by k_asm) (by k_mem)); (case f | t => k_is); (case tf => decide); (case o => first | assumption | rfl))))
local macro_rules | `(tactic| walk_at "call builtin:list.append") => `(tactic| (k_here; k_dflt (refine' op_append ?F ?X ?N ?U ?_ ?z; (case F | X | N => k_asm); (case U => k_upd); (case z => assumption)); intro h' F' N'))
local macro_rules | `(tactic| walk_at "my_enterS") => `(tactic| (refine' ks_code_super ?k1 ?k2 ?k3 ?k4 ?k5 ?kA ?kF ?kK ?k6 ?k7 ?k8 ?k9 ?kB ?_ ?c1 ?c2 ?c3 ?c4; (case kA | kF | kK | k1 | k2 | k3 | k4 | k5 => assumption); (case k6 | k7 => k_is); (case k8 => exact Nat.lt_of_lt_of_le (by assumption) (by decide)); (case k9 => first | exact BindsTo.of_eq rfl | exact binds_K (by k_in) rfl (by k_is) rfl rfl rfl); (case kB => exact locs rfl); (case c1 => decide); (case c2 | c3 | c4 => exact rfl); intro g' L' h' FG' F' N' B' X' T' l1; (try dsimp only)))
section
set_option maxRecDepth 100000
set_option maxHeartbeats 8000000
open PySem PySem.W PyProof.Rows PySem.Calls
namespace Mine
local macro_rules | `(tactic| k_all) => `(tactic| first | assumption | exact fun p hp => Nat.ne_of_lt (allLt_mem (by assumption) p hp))
theorem acc_inst {h₀ h : Heap} {L x dx : Addr} {news : List (Addr × Obj)} {its : Array Value} {n : Nat} {od : Obj} (N : News h₀ L h news) (h1 : (x, accO dx its n) ∈ news) (h2 : (dx, od) ∈ news) : InstAt h x (accO dx its n) 109 (some od) := ⟨(N _ h1).1, rfl, rfl, (N _ h2).1⟩
local macro_rules | `(tactic| k_inst) => `(tactic| (refine' acc_inst ?N ?h1 ?h2; (case N => k_asm); (case h1 | h2 => k_mem)))
section
variable {prog : Program} {w : World} {A : Around} {x : Addr} {E : Value → Shared → Prop} {s : Shared} {h₀ : Heap} {L : Addr} {news : List (Addr × Obj)}
theorem bnd_callWith {pos : Pos} {u : Addr} {first : List Value} {ty i : String} {env : Env} {Q : Value → Shared → Prop} (N : News h₀ L s.heap news) (hu : (u, boundO ty i x) ∈ news)
    (hty : (Value.type ty != Value.type "method") = true) (hty2 : (Value.type ty == Value.type "builtin_function_or_method" || Value.type ty == Value.type "method-wrapper") = true)
    (h : wpAny (model prog w) A (call (.ref u) first []) Q E s) : wpAny (model prog w) A (callWith pos (.ref u) first (backTo pos (starEach [] env)) []) Q E s := by
  have ho := (N _ hu).1
  unfold callWith
  refine wpAny_bind (wpAny_holding (wpAny_of_eq (a := ⟨[], []⟩) rfl ?_))
  refine wpAny_bind (wpAny_standAt ?_)
  refine wpAny_bind (m := keeperOf (.ref u)) ?_
  unfold keeperOf
  refine wpAny_bind (wpAny_load ho ?_)
  simp only [hty, hty2, if_true]
  refine wpAny_pure ?_
  show wpAny _ _ (call (.ref u) (first ++ []) [] >>= _) _ _ _
  rw [List.append_nil]
  exact wpAny_bind (wpAny_mono h (fun r s₂ hr => wpAny_bind (wpAny_holding (wpAny_point (wpAny_pure hr)))) fun _ _ x => x)
end
local macro_rules | `(tactic| walk_at "getMethod ref") => `(tactic| (k_here; (with_reducible show wpAny _ _ (getMethod (Value.ref _) (PySem.Str.ofString "__len__") _) _ _ _); k_dflt (refine' m_len ?F ?X ?N ?so ?x ?_; (case F | X | N => k_asm); (case so | x => k_mem)); intro q' h' F' N' l1; (try k_lt l1)))
local macro_rules | `(tactic| walk_at "getMethod ref") => `(tactic| (k_here; (with_reducible show wpAny _ _ (getMethod (Value.ref _) (PySem.Str.ofString "__init__") _) _ _ _); k_dflt (refine' m_init ?F ?X ?N ?so ?x ?_; (case F | X | N => k_asm); (case so | x => k_mem)); intro q' h' F' N' l1; (try k_lt l1)))
local macro_rules | `(tactic| walk_at "getMethod ref") => `(tactic| (k_here; (with_reducible show wpAny _ _ (getMethod (Value.ref _) (PySem.Str.ofString "pop") _) _ _ _); k_dflt (refine' m_pop ?F ?X ?N ?so ?x ?_; (case F | X | N => k_asm); (case so | x => k_mem)); intro q' h' F' N' l1; (try k_lt l1)))
local macro_rules | `(tactic| walk_at "callWith ref nil") => `(tactic| (k_here; k_dflt (refine' bnd_callWith ?N ?u ?a ?b ?_; (case N => k_asm); (case u => k_mem); (case a | b => decide))))
local macro_rules | `(tactic| walk_at "call ref nil nil") => `(tactic| (k_here; k_dflt (refine' op_len ?N ?q ?x ?_; (case N => k_asm); (case q | x => k_mem))))
section
variable {p : Program} {w : World} {A₀ A : Around} {s : Shared} {base h₀ : Heap} {outer : List Env} {L : Addr} {m mg mb : Str → Option Value} {env : Env} {news : List (Addr × Obj)} {loose : List Str} {mean : ExcName → Option Value} {R : Result → Shared → Prop} {x dx : Addr} {od : Obj}
theorem part_count_ok {its : Array Value} {n : Nat} (B : Below A₀ base outer h₀) (F : Fr h₀ L s.heap m) (X : (MineH.hd.heap_1 w.params).In h₀) (N : News h₀ L s.heap ((x, accO dx its n) :: (dx, od) :: news)) (T : Top p loose mean mg mb h₀)
    (hA : A.frames = some (env :: outer)) (hf : env.frame = some L) (hke : env.scope.kind = .function) (hroom : A.depth < 900)
    (h : ∀ h' tk tk', Fr h₀ L h' m → News h₀ L h' ((x, accO dx its n) :: (dx, od) :: news) → R (.ok (.ret (.int its.size tk'))) { s with heap := h', toks := tk }) :
    codeAny (model PySem.Challenge.rw_wk0026_01.row.prog w) A (.call (.ref 106) ⟨[.ref x], []⟩) R s := by
  revert X; k_fill; intro X
  k_dflt (walk_at "my_enterS")
  k_steps
  rename News _ _ _ _ => N2
  exact h _ _ _ (by assumption) (nw2 N2 (.tail _ (.tail _ (.head _))) (.tail _ (.tail _ (.tail _ (.head _)))) fun p hp => .tail _ (.tail _ (.tail _ (.tail _ hp))))
theorem deep_frames {A : Around} {e env : Env} {outer : List Env} (h : A.frames = some (env :: outer)) : (A.deeper e).frames = some (e :: env :: outer) := by
  show Option.map _ A.frames = _
  rw [h]; rfl
theorem deep_depth {A : Around} {e : Env} {n k : Nat} (h : A.depth < n) (hk : n + 1 ≤ k) : (A.deeper e).depth < k := by
  show A.depth + 1 < k
  omega
local macro_rules | `(tactic| walk_at "call ref") => `(tactic| (k_here; (with_reducible show wpAny _ _ (call (Value.ref 106) _ _) _ _ _); refine wpAny_call ?_; k_dflt (refine' part_count_ok ?B ?F ?X ?N ?T ?hA ?hf ?hke ?room ?_; (case B | F | X | N | T => k_asm); (case hA => exact deep_frames (by assumption)); (case hf | hke => exact rfl); (case room => exact deep_depth (by assumption) (by decide))); intro h' tk' t' F' N'))
local macro_rules | `(tactic| walk_at "call ref nil nil") => `(tactic| (k_here; k_dflt (refine' op_pop ?F ?N ?q ?X ?U ?z ?_; (case F | N | X => k_asm); (case q => k_mem); (case U => k_upd); (case z => assumption)); intro h' F' N'))
local macro_rules | `(tactic| walk_at "wpAt") => `(tactic| (k_dflt ((show PySem.wpAt _ _ _ (execs (_ :: _) _) _ _ _); refine ks_wpAt_execs_cons ?_)))
local macro_rules | `(tactic| walk_at "wpAt") => `(tactic| (k_dflt ((show PySem.wpAt _ _ _ (eval (Expr.Call (Expr.Attribute (Expr.Call _ _ _ _) _ _) _ _ _) _) _ _ _); refine ks_wpAt_MethodCall ?_)))
theorem pop_ok {its : Array Value} {v : Value} {n : Nat} (B : Below A₀ base outer h₀) (F : Fr h₀ L s.heap m) (X : (MineH.hd.heap_1 w.params).In h₀) (N : News h₀ L s.heap ((x, accO dx (its.push v) n) :: (dx, od) :: news)) (T : Top p loose mean mg mb h₀)
    (hA : A.frames = some (env :: outer)) (hf : env.frame = some L) (hke : env.scope.kind = .function) (hroom : A.depth < 890) (hxo : ∀ p ∈ news, p.1 ≠ x) (hxd : dx ≠ x) (hsz : its.size < sizeLine) (hod : lookIn "part_count" od = some none)
    (h : ∀ h' tk, Fr h₀ L h' m → News h₀ L h' ((x, accO dx its (n + 1)) :: (dx, od) :: news) → R (.ok (.ret v)) { s with heap := h', toks := tk }) :
    codeAny (model PySem.Challenge.rw_wk0026_01.row.prog w) A (.call (.ref 69) ⟨[.ref x], []⟩) R s := by
  revert X; k_fill; intro X
  k_dflt (walk_at "my_enterS")
  k_steps
  · exfalso
    have h0 : ((its.push v).size : Int) = 0 := by assumption
    simp only [Array.size_push] at h0
    omega
  · rename News _ _ _ _ => N2
    exact h _ _ (by assumption) (nw2 N2 (.tail _ (.tail _ (.head _))) (.tail _ (.tail _ (.tail _ (.head _)))) fun p hp => .tail _ (.tail _ (.tail _ (.tail _ hp))))
theorem pop_empty_ok {n : Nat} (B : Below A₀ base outer h₀) (F : Fr h₀ L s.heap m) (X : (MineH.hd.heap_1 w.params).In h₀) (N : News h₀ L s.heap ((x, accO dx #[] n) :: (dx, od) :: news)) (T : Top p loose mean mg mb h₀)
    (hA : A.frames = some (env :: outer)) (hf : env.frame = some L) (hke : env.scope.kind = .function) (hroom : A.depth < 890) (hod : lookIn "part_count" od = some none)
    (h : ∀ h' tk l ta tb, Fr h₀ L h' m → News h₀ L h' ((l, { cls := .type "tuple", data := .seq #[.str (Str.ofString "") ta, .str (Str.ofString "") tb] }) :: (x, accO dx #[] n) :: (dx, od) :: news) → (∀ p ∈ news, p.1 < l) → x < l → dx < l → R (.ok (.ret (.ref l))) { s with heap := h', toks := tk }) :
    codeAny (model PySem.Challenge.rw_wk0026_01.row.prog w) A (.call (.ref 69) ⟨[.ref x], []⟩) R s := by
  revert X; k_fill; intro X
  k_dflt (walk_at "my_enterS")
  have hsz : (0 : Nat) < sizeLine := by decide
  k_steps
  rename News _ _ _ _ => N2
  rename_i D _ _ _ l1 _ _ _
  exact h _ _ D _ _ (by assumption) N2 (allLt_mem l1.2.2) l1.1 l1.2.1
end
end Mine
end
section
set_option maxRecDepth 100000
set_option maxHeartbeats 8000000
open PySem PySem.W PyProof.Rows PySem.Calls
namespace Mine
local macro_rules | `(tactic| k_ne) => `(tactic| ((try dsimp only); first | assumption | (apply Ne.symm; assumption)))
local macro_rules | `(tactic| k_all) => `(tactic| first | assumption | exact fun p hp => Nat.ne_of_lt (allLt_mem (by assumption) p hp))
local macro_rules | `(tactic| k_inst) => `(tactic| (refine' acc_inst ?N ?h1 ?h2; (case N => k_asm); (case h1 | h2 => k_mem)))
local macro_rules | `(tactic| walk_at "getMethod ref") => `(tactic| (k_here; (with_reducible show wpAny _ _ (getMethod (Value.ref _) (PySem.Str.ofString "__len__") _) _ _ _); k_dflt (refine' m_len ?F ?X ?N ?so ?x ?_; (case F | X | N => k_asm); (case so | x => k_mem)); intro q' h' F' N' l1; (try k_lt l1)))
local macro_rules | `(tactic| walk_at "getMethod ref") => `(tactic| (k_here; (with_reducible show wpAny _ _ (getMethod (Value.ref _) (PySem.Str.ofString "__init__") _) _ _ _); k_dflt (refine' m_init ?F ?X ?N ?so ?x ?_; (case F | X | N => k_asm); (case so | x => k_mem)); intro q' h' F' N' l1; (try k_lt l1)))
local macro_rules | `(tactic| walk_at "getMethod ref") => `(tactic| (k_here; (with_reducible show wpAny _ _ (getMethod (Value.ref _) (PySem.Str.ofString "pop") _) _ _ _); k_dflt (refine' m_pop ?F ?X ?N ?so ?x ?_; (case F | X | N => k_asm); (case so | x => k_mem)); intro q' h' F' N' l1; (try k_lt l1)))
local macro_rules | `(tactic| walk_at "callWith ref nil") => `(tactic| (k_here; k_dflt (refine' bnd_callWith ?N ?u ?a ?b ?_; (case N => k_asm); (case u => k_mem); (case a | b => decide))))
local macro_rules | `(tactic| walk_at "call ref nil nil") => `(tactic| (k_here; k_dflt (refine' op_len ?N ?q ?x ?_; (case N => k_asm); (case q | x => k_mem))))
local macro_rules | `(tactic| walk_at "call ref nil nil") => `(tactic| (k_here; k_dflt (refine' op_init ?F ?N ?q ?U ?_; (case F | N => k_asm); (case q => k_mem); (case U => k_upd)); intro h' F' N'))
local macro_rules | `(tactic| walk_at "wpAt") => `(tactic| (k_dflt ((show PySem.wpAt _ _ _ (execs (_ :: _) _) _ _ _); refine ks_wpAt_execs_cons ?_)))
local macro_rules | `(tactic| walk_at "wpAt") => `(tactic| (k_dflt ((show PySem.wpAt _ _ _ (eval (Expr.Call (Expr.Attribute (Expr.Call _ _ _ _) _ _) _ _ _) _) _ _ _); refine ks_wpAt_MethodCall ?_)))
local macro_rules | `(tactic| walk_at "setAttr ref") => `(tactic| (k_here; k_dflt (refine' acc_setU ?F ?X ?N ?I ?d ?U ?_; (case F | X | N => k_asm); (case I => k_inst); (case d => exact rfl); (case U => k_upd)); intro h' F' N'))
section
variable {p : Program} {w : World} {A₀ A : Around} {s : Shared} {base h₀ : Heap} {outer : List Env} {L : Addr} {m mg mb : Str → Option Value} {env : Env} {news : List (Addr × Obj)} {loose : List Str} {mean : ExcName → Option Value} {R : Result → Shared → Prop} {x dx : Addr} {od : Obj}

theorem reset_ok {its ys : Array Value} {n n2 : Nat} {v : Addr} {k : Int} {tk t : Tok} (B : Below A₀ base outer h₀) (F : Fr h₀ L s.heap m) (X : (MineH.hd.heap_1 w.params).In h₀) (N : News h₀ L s.heap ((x, accO dx its n) :: (dx, dictI w tk k t) :: (v, listOf ys n2) :: news)) (T : Top p loose mean mg mb h₀)
    (hA : A.frames = some (env :: outer)) (hf : env.frame = some L) (hke : env.scope.kind = .function) (hroom : A.depth < 900) (hxo : ∀ p ∈ news, p.1 ≠ x) (hdo : ∀ p ∈ news, p.1 ≠ dx) (hxd : dx ≠ x) (hxv : x ≠ v) (hdv : dx ≠ v) (hsz : its.size + ys.size ≤ sizeLine)
    (h : ∀ h' tk' n' t', Fr h₀ L h' m → News h₀ L h' ((x, accO dx ys n') :: (dx, dictI w tk 0 t') :: (v, listOf ys n2) :: news) → R (.ok (.ret .none)) { s with heap := h', toks := tk' }) :
    codeAny (model PySem.Challenge.rw_wk0026_01.row.prog w) A (.call (.ref 91) ⟨[.ref x, .ref v], []⟩) R s := by
  revert X; k_fill; intro X
  k_dflt (walk_at "my_enter")
  k_steps
  rename Fr _ _ _ _ => F1
  rename News _ _ _ _ => N1
  rename (MineH.hd.heap_1 w.params).In _ => X1
  refine op_setSlicePushed (its := its) (ys := ys) (a := 0) (b := its.size) F1 X1 N1 ⟨_, N1.get (.tail _ (.tail _ (.head _))), rfl, n2, rfl⟩ .none .none (bounds_all its.size) (Nat.zero_le _) rfl (.head (by
    intro p hp
    rcases List.mem_cons.mp hp with e | hp
    · rw [e]; exact hxd
    · rcases List.mem_cons.mp hp with e | hp
      · rw [e]; exact fun q => hxv q.symm
      · exact hxo p hp)) hsz hxv ?_
  intro h' F' N'
  rw [show its.extract 0 0 ++ ys ++ its.extract its.size its.size = ys by simp] at N'
  k_steps
  rename News _ _ _ _ => N2
  exact h _ _ _ _ (by assumption) N2

local macro_rules | `(tactic| walk_at "setAttr ref") => `(tactic| (k_here; k_dflt (refine' acc_setU0 ?F ?X ?N ?I ?d ?U ?_; (case F | X | N => k_asm); (case I => k_inst); (case d => exact rfl); (case U => (intro tk8; k_upd))); intro h' tk' F' N'))
local macro_rules | `(tactic| walk_at "wpAt") => `(tactic| (k_dflt ((show PySem.wpAt _ _ _ (exec (Stmt.Expr (Expr.Call (Expr.Attribute (Expr.Call _ _ _ _) _ _) _ _ _) _) _) _ _ _); refine ks_wpAt_Expr_any ?_)))
theorem init_ok {n : Nat} {k : Int} {t : Tok} (B : Below A₀ base outer h₀) (F : Fr h₀ L s.heap m) (X : (MineH.hd.heap_1 w.params).In h₀) (N : News h₀ L s.heap ((x, accO dx #[] n) :: (dx, emptyDict) :: news)) (T : Top p loose mean mg mb h₀)
    (hA : A.frames = some (env :: outer)) (hf : env.frame = some L) (hke : env.scope.kind = .function) (hroom : A.depth < 900) (hxo : ∀ p ∈ news, p.1 ≠ x) (hdo : ∀ p ∈ news, p.1 ≠ dx) (hxd : dx ≠ x)
    (h : ∀ h' tk tk', Fr h₀ L h' m → News h₀ L h' ((x, accO dx #[] n) :: (dx, dictI w tk' k t) :: news) → R (.ok (.ret .none)) { s with heap := h', toks := tk }) :
    codeAny (model PySem.Challenge.rw_wk0026_01.row.prog w) A (.call (.ref 46) ⟨[.ref x, .int k t], []⟩) R s := by
  revert X; k_fill; intro X
  k_dflt (walk_at "my_enterS")
  k_steps
  rename News _ _ _ _ => N2
  exact h _ _ _ (by assumption) (nw2 N2 (.tail _ (.tail _ (.head _))) (.tail _ (.tail _ (.tail _ (.head _)))) fun p hp => .tail _ (.tail _ (.tail _ (.tail _ hp))))

theorem make_ok {k : Int} {t : Tok} (B : Below A₀ base outer h₀) (F : Fr h₀ L s.heap m) (X : (MineH.hd.heap_1 w.params).In h₀) (N : News h₀ L s.heap news) (T : Top p loose mean mg mb h₀)
    (hA : A.frames = some (env :: outer)) (hf : env.frame = some L) (hke : env.scope.kind = .function) (hroom : A.depth < 890)
    (h : ∀ h' tk tk' x dx, Fr h₀ L h' m → News h₀ L h' ((x, accO dx #[] 0) :: (dx, dictI w tk' k t) :: news) → (∀ p ∈ news, p.1 < dx) → dx < x → R (.ok (.ret (.ref x))) { s with heap := h', toks := tk }) :
    codeAny (model PySem.Challenge.rw_wk0026_01.row.prog w) A (.call (.ref 109) ⟨[.int k t], []⟩) R s := by
  have X1 : (KK w).In s.heap := X.keeps F.keep
  have lt : ∀ p ∈ news, p.1 < s.heap.objs.size := fun p hp => Heap.lt_size (N p hp).1
  obtain ⟨hh, g, d, tk, os⟩ := s
  refine acc_make X1 ?_
  have N1 := (N.push F emptyDict).push (F.push _) (accO hh.objs.size #[])
  rw [Heap.size_push] at N1
  refine init_ok (s := ⟨(hh.push emptyDict).push (accO hh.objs.size #[]), g, d, tk, os⟩) B ((F.push _).push _) X N1 T ?_ hf hke ?_ ?_ ?_ ?_ ?_
  · exact hA
  · show A.depth + _ < 900
    have : (Code.builtin "type.__call__" ⟨[Value.ref 109, .int k t], []⟩).weight = 1 := by kernel_rfl
    omega
  · intro p hp; exact Nat.ne_of_lt (Nat.lt_succ_of_lt (lt p hp))
  · intro p hp; exact Nat.ne_of_lt (lt p hp)
  · exact Nat.ne_of_lt (Nat.lt_succ_self _)
  · intro h' tk1 tk2 F' N'
    exact ⟨rfl, h _ _ _ _ _ F' N' lt (Nat.lt_succ_self _)⟩
end
end Mine
end
section
set_option maxRecDepth 100000
set_option maxHeartbeats 8000000
open PySem PySem.W PyProof.Rows PySem.Calls PySem.Builtin PySem.Builtin.ObjectAttr PySem.Builtin.Getset_descriptor
namespace Mine
theorem find_size (w : World) (tk : Nat) (k : Int) (t : Tok) : findObj (KK w) 109 (some (dictI w tk k t)) "_initial_size" = some (.value (.int k t)) := by rfl
section
variable {prog : Program} {w : World} {A : Around} {x dx : Addr} {E : Value → Shared → Prop} {s : Shared}
theorem acc_getSize {ox : Obj} {k : Int} {t : Tok} {tk : Nat} {expr : Bool} {Q : Value → Shared → Prop} (X : (KK w).In s.heap) (I : InstAt s.heap x ox 109 (some (dictI w tk k t)))
    (h : Q (.int k t) { s with toks := s.toks + 1 }) : wpAny (model prog w) A (getAttr (.ref x) "_initial_size" expr) Q E s := by
  obtain ⟨hh, g, d, tt, os⟩ := s
  have L0 := I.type (M := model prog w)
  have L1 := looks_findIn (M := model prog w) X (fi_ga w)
  have L2 := looks_findIn (M := model prog w) X (fi_gat w)
  have L3 := looks_find (M := model prog w) X I (find_size w tk k t)
  have L4 : Looks (model prog w) hh (isInstance (.ref x) (.type "list")) true := L0.andThen (looks_mroIn X (sub_list w))
  have L5 : Looks (model prog w) hh (isInstance (.ref x) (.type "object")) true := L0.andThen (looks_mroIn X (sub_obj w))
  have SF := PySem.F.slot_list_getattribute
  unfold getAttr getAttrBy
  refine wpAny_bind (wpAny_mkText (wpAny_holding (wpAny_bind (L0.at (wpAny_bind (L1.at ?_))))))
  show wpAny _ _ (getAttrByItsOwn _ _ _ _ _ _) _ _ _
  unfold getAttrByItsOwn hookBefore callGetattribute boundAndCalled
  refine wpAny_bind (KFB.if_so rfl (L2.at ?_))
  refine wpAny_bind (wpAny_attempt (wpAny_holding ?_))
  have hx : (expr && onTheHeap (.builtin "list.__getattribute__")) = false := by cases expr <;> rfl
  refine KFB.if_not hx ?_
  rw [SF.bind]
  refine wpAny_bind (wpAny_pure (wpAny_call ?_))
  refine codeAny_call_builtin SF.plain PySem.F.entry_list_ga (@check_slot (model prog w) _ _ _ "list.__getattribute__" "list" "__getattribute__" (.ref x) [.str (Str.ofString "_initial_size") tt] [] _ (by decide +kernel) (by decide +kernel) L4 (PySem.F.args_list_getattribute_2 _ _) ?_)
  unfold Builtin.«object.__getattribute__»
  refine wpAny_bind (wpAny_of_eq (a := (.ref x, [.str (Str.ofString "_initial_size") tt])) rfl ?_)
  refine wpAny_bind (wpAny_of_eq (a := (Str.ofString "_initial_size")) rfl ?_)
  refine wpAny_bind (L0.at (wpAny_bind (L3.at ?_)))
  refine wpAny_pure (wpAny_pure ?_)
  exact h

theorem walk_shift {I : Addr} {fp wr : List Addr} {G : Array GenState → Array GenState → Prop} {n : Nat} {P : Nat → Value → Prop} {St : Nat → Shared → Prop} (W : WalksS prog w A I fp wr G n P St) :
    WalksS prog w A I fp wr G (n + 1) (fun i v => ∃ j, i = j + 1 ∧ P j v) (fun i s => ∃ j, i = j + 1 ∧ St j s) where
  sub := W.sub
  grefl := W.grefl
  gtrans := W.gtrans
  frame := fun i s h' tk hs ht hk => by
    obtain ⟨j, rfl, hs⟩ := hs
    exact ⟨j, rfl, W.frame j s h' tk hs ht hk⟩
  item := fun i s Q E hi hs hQ => by
    obtain ⟨j, rfl, hs⟩ := hs
    exact W.item j s Q E (Nat.lt_of_succ_lt_succ hi) hs fun v s' hP hst hm => hQ v s' ⟨j, rfl, hP⟩ ⟨j + 1, rfl, hst⟩ hm
  done := fun s Q E hs hQ => by
    obtain ⟨j, e, hs⟩ := hs
    have e : n = j := Nat.succ.inj e
    subst e
    exact W.done s Q E hs hQ
  self := fun i s Q E hs hQ => by
    obtain ⟨j, rfl, hs⟩ := hs
    exact W.self j s Q E hs hQ

theorem preSum_shift (val : Nat → Int) (k : Int) : ∀ n, preSum (fun i => match i with | 0 => k | j + 1 => val j) (n + 1) = k + preSum val n
  | 0 => by simp [preSum]
  | n + 1 => by
    rw [preSum, preSum_shift val k n, preSum]
    show k + preSum val n + val n = k + (preSum val n + val n)
    omega

theorem sum_from {x : Value} {k : Int} {t : Tok} {Q : Value → Shared → Prop} (hk : k = 0 ∨ k = 5)
    (h : wpAny (model prog w) A.in1 (pyIter x) (fun it s₂ => ∃ I fp wr G n P St val, it = .ref I ∧ WalksS prog w A.in1 I fp wr G n P St ∧ St 0 s₂ ∧ (∀ b ∈ fp, b < s₂.heap.objs.size) ∧
      (∀ i v, P i v → ∃ t, v = .int (val i) t) ∧
      ∀ s' t', Moved wr G s₂ s' → Q (.int (k + preSum val n) t') s') E s) :
    wpAny (model prog w) A (call (.builtin "sum") [x, .int k t]) Q E s := by
  refine call_function_tree F.kind_sum F.plain_sum F.entry_sum (by unfold argsOk; kernel_rfl) ?_
  unfold Builtin.«sum»
  simp only [List.length_cons, List.length_nil]
  rw [if_neg (by decide)]
  refine wpAny_bind (wpAny_of_eq (show Builtin.Builtins.bindParams "sum" ["start"] 0 ⟨[.int k t], []⟩ = pure [some (.int k t)] from rfl) ?_)
  refine wpAny_bind (wpAny_mono h (fun it s₂ h₂ => ?_) fun _ _ e => e)
  obtain ⟨I, fp, wr, G, n, P, St, val, rfl, W, hst, hfp, hval, hQ⟩ := h₂
  dsimp only
  have go : wpAny (model prog w) A.in1 (do
      rule "sum.start-copied"
      let a ← mkInt k
      let y ← pure (a, (0 : Int))
      forIn [("str", "strings", "''"), ("bytes", "bytes", "b''"), ("bytearray", "bytearray", "b''")] PUnit.unit fun (x : String × String × String) (_ : PUnit) => do
          let b ← isInstance y.1 (.type x.1)
          if b = true then do
            rule "sum.start-refused"
            raiseErrorMade "TypeError" s!"sum() can't sum {x.2.1} [use {x.2.2}.join(seq) instead]"
            pure (ForInStep.yield PUnit.unit)
          else pure (ForInStep.yield PUnit.unit)
      let l ← newList [y.1]
      again (Code.builtin "sum.loop" ⟨[.ref I, l, rawInt y.2, rawInt 0], []⟩)) (fun fin s' =>
      match fin with
      | Fin.done f => (match Except.ok f with | Except.ok (Flow.ret v) => Q v s' | Except.ok _ => False | Except.error e => E e s')
      | Fin.again c' => c'.quiet = true ∧ codeAny (model prog w) A c' (fun r s' => match r with | .ok (.ret v) => Q v s' | .ok _ => False | .error e => E e s') s')
    E s₂ := by
    refine wpAny_bind (wpAny_rule (wpAny_bind (wpAny_mkInt (wpAny_bind (wpAny_pure ?_)))))
    simp only [List.forIn_cons, List.forIn_nil]
    refine wpAny_bind (wpAny_bind (wpAny_bind (wpAny_isInstance (T := "int") (b := false) (typeIs_int _ _ _) PySem.sub_int_str ?_)))
    simp only [Bool.false_eq_true, if_false]
    refine wpAny_pure (wpAny_bind (wpAny_bind (wpAny_isInstance (T := "int") (b := false) (typeIs_int _ _ _) PySem.sub_int_bytes ?_)))
    simp only [Bool.false_eq_true, if_false]
    refine wpAny_pure (wpAny_bind (wpAny_bind (wpAny_isInstance (T := "int") (b := false) (typeIs_int _ _ _) PySem.sub_int_bytearray ?_)))
    simp only [Bool.false_eq_true, if_false]
    refine wpAny_pure (wpAny_pure ?_)
    refine wpAny_bind (wpAny_newObj_type ?_)
    have hSf : s₂.heap.objs.size ∉ fp := fun hm => Nat.lt_irrefl _ (hfp _ hm)
    refine wpAny_pure ⟨plainId_quiet F.plain_sum_loop _, codeAny_sum_loopAnyS (walk_shift W) (fun i => match i with | 0 => k | j + 1 => val j) (fun i v hv => ?_) s₂.heap.objs.size hSf n 1 _ s₂.toks 0 0 (.inl rfl) (Nat.add_sub_cancel n 1) (Nat.le_add_left 1 n)
      ⟨0, rfl, W.frame 0 s₂ _ _ hst (Nat.le_succ _) fun b _ o e => Heap.get?_push_of_some _ e⟩ ?_ fun s' t' hm => ?_⟩
    · obtain ⟨j, rfl, hv⟩ := hv
      exact hval j v hv
    · have : preSum (fun i => match i with | 0 => k | j + 1 => val j) 1 = k := by simp [preSum]
      rw [this]
      exact Heap.get?_push_size _ rfl
    · rw [preSum_shift]
      exact hQ s' t' (hm.drop_new (Nat.le_succ _))
  rcases hk with rfl | rfl
  · exact KFB.if_so (by first | rfl | decide) go
  · exact KFB.if_so (by first | rfl | decide) go
end
end Mine
end
section
set_option maxRecDepth 100000
set_option maxHeartbeats 8000000
open PySem PySem.W PyProof.Rows PySem.Calls PySem.Builtin PySem.Builtin.ObjectAttr PySem.Builtin.Getset_descriptor
namespace Mine
section
variable {prog : Program} {w : World} {A : Around} {x dx I : Addr} {E : Value → Shared → Prop} {s : Shared}
theorem acc_iter {its : Array Value} {n : Nat} {Q : Value → Shared → Prop} (X : (KK w).In s.heap) (hx : s.heap.get? x = some (accO dx its n))
    (h : Q (.ref s.heap.objs.size) { s with heap := s.heap.push { cls := .type "list_iterator", data := .fields #[.ref x, .int 0 0] } }) : wpAny (model prog w) A (pyIter (.ref x)) Q E s := by
  have T0 : Looks (model prog w) s.heap (typeOf (.ref x)) (.ref 109) := (Looks.ld hx).andThen .now
  have S1 : Looks (model prog w) s.heap (specialOf (.ref x) "__iter__") (some (.builtin "list.__iter__")) := T0.andThen (looks_findIn X (fi_iter w))
  have SF := PySem.slot_list_iter
  have hL := acc_isList (prog := prog) X hx
  unfold pyIter
  refine wpAny_bind (S1.here ?_)
  dsimp only
  refine wpAny_bind ?_
  unfold callSpecialIfBoundUnlessNone? bindSpecialIfBound?
  refine wpAny_holding (wpAny_bind (wpAny_bind (S1.here ?_)))
  have hb : wpAny (model prog w) A (bindSpecial (.builtin "list.__iter__") (.ref x) >>= fun y => pure (some y)) (fun a s' => a = some (.builtin "list.__iter__", [.ref x]) ∧ s' = s) (fun _ _ => False) s := by
    rw [SF.bind]
    exact wpAny_bind (wpAny_pure (wpAny_pure ⟨rfl, rfl⟩))
  refine wpAny_bind (wpAny_askSetting ?_)
  split
  all_goals first
    | refine wpAny_mono hb (fun a s' z => ?_) fun _ _ z => z.elim
    | refine wpAny_tryCatch (wpAny_mono hb (fun a s' z => ?_) fun _ _ z => z.elim)
  all_goals
    obtain ⟨rfl, rfl⟩ := z
    refine KFB.if_not rfl (wpAny_bind (wpAny_call ?_))
    refine codeAny_call_builtin SF.plain entry_list_iter (@check_slot (model prog w) _ _ s' "list.__iter__" "list" "__iter__" (.ref x) [] [] _ (by decide +kernel) (by decide +kernel) hL (args_list_iter _) ?_)
    unfold Builtin.«list.__iter__»
    refine wpAny_bind (wpAny_of_eq (a := (.ref x, [])) rfl ?_)
    refine wpAny_bind (wpAny_newObj_type (wpAny_pure (wpAny_pure ?_)))
    refine wpAny_bind (wpAny_specialOf (T := "list_iterator") ⟨_, Heap.get?_push_size _ rfl, rfl⟩ slot_listiter_next.lookup ?_)
    exact wpAny_pure h
theorem acc_next {its : Array Value} {n i : Nat} {v : Value} {Q : Option Value → Shared → Prop} (hit : s.heap.IsListIter I x i) (hx : s.heap.get? x = some (accO dx its n)) (hi : its[i]? = some v)
    (h : ∀ h', h'.IsListIter I x (i + 1) → Heap.SameBut I s.heap h' → Q (some v) { s with heap := h' }) : wpAny (model prog w) A (pyNext (.ref I)) Q E s := by
  obtain ⟨o, ho, hc, hd⟩ := id hit
  unfold pyNext
  refine wpAny_bind (wpAny_attempt (wpAny_callSpecial?_slot (name := Str.ofString "__next__") hit.typeIs slot_listiter_next
    (wpAny_call_entry slot_listiter_next hit.typeIs entry_listiter_next ?_ (args_listiter_next _))))
  refine wpAny_bind (m := slotArgs "__next__" 0 ⟨[.ref I], []⟩) (wpAny_of_eq (a := (.ref I, [])) rfl ?_)
  refine wpAny_bind (wpAny_field ho hd (x := .ref x) rfl ?_)
  refine KFB.if_not rfl ?_
  refine wpAny_bind (wpAny_field ho hd (x := .int i 0) rfl ?_)
  dsimp only
  refine wpAny_bind (wpAny_seqItems hx rfl ?_)
  simp only [Int.toNat_natCast, hi]
  refine wpAny_bind (wpAny_setField ho hd (by simp) (wpAny_pure ⟨v, rfl, wpAny_pure (h _ ?_ (Heap.SameBut.update ..))⟩))
  exact ⟨_, Heap.get?_update_self _ ho (Obj.isFreed_of_fields (Obj.data_mapFields hd _)), (Obj.cls_mapFields ..).trans hc, by
    rw [Obj.data_mapFields hd]; simp [rawInt]⟩
theorem acc_next_end {its : Array Value} {n i : Nat} {Q : Option Value → Shared → Prop} (hh : A.handled = none) (hit : s.heap.IsListIter I x i) (hx : s.heap.get? x = some (accO dx its n)) (hi : its[i]? = none)
    (h : ∀ h', Heap.ExtBut I s.heap h' → Q none { s with heap := h' }) : wpAny (model prog w) A (pyNext (.ref I)) Q E s := by
  obtain ⟨o, ho, hc, hd⟩ := id hit
  unfold pyNext
  refine wpAny_bind (wpAny_attempt (wpAny_callSpecial?_slot (name := Str.ofString "__next__") hit.typeIs slot_listiter_next
    (wpAny_call_entry slot_listiter_next hit.typeIs entry_listiter_next ?_ (args_listiter_next _))))
  refine wpAny_bind (m := slotArgs "__next__" 0 ⟨[.ref I], []⟩) (wpAny_of_eq (a := (.ref I, [])) rfl ?_)
  refine wpAny_bind (wpAny_field ho hd (x := .ref x) rfl ?_)
  refine KFB.if_not rfl ?_
  refine wpAny_bind (wpAny_field ho hd (x := .int i 0) rfl ?_)
  dsimp only
  refine wpAny_bind (wpAny_seqItems hx rfl ?_)
  simp only [Int.toNat_natCast, hi]
  refine wpAny_bind (wpAny_rule (wpAny_bind (wpAny_setField ho hd (by simp) ?_)))
  refine wpAny_bind (m := newExc (.type "StopIteration") []) ?_
  simp only [newExc, newTuple]
  refine wpAny_bind (wpAny_newObj_type ?_ (by size_fits))
  refine wpAny_bind (m := firstArgMember _ _) (wpAny_of_eq (a := Value.none) (by first | rfl | (simp only [firstArgMember]; rfl)) ?_)
  refine wpAny_newObj_type ?_ (by size_fits)
  simp only [raiseNew]
  refine wpAny_bind (wpAny_handled ?_)
  rw [show A.in1.handled = none from hh]
  refine wpAny_bind (wpAny_pure (wpAny_throw ?_))
  refine wpAny_bind (wpAny_isInstance (T := "StopIteration") (b := true) ⟨_, Heap.get?_push_size _ rfl, rfl⟩ isSubtype_stop ?_)
  exact wpAny_pure (h _ (((Heap.SameBut.update ..).extBut.push _).push _))
end

structure Tp where
  at_ : Addr
  a : Str
  ta : Tok
  b : Str
  tb : Tok
abbrev Tp.vals (q : Tp) : Array Value := #[.str q.a q.ta, .str q.b q.tb]
abbrev Tp.obj (q : Tp) : Obj := { cls := .type "tuple", data := .seq q.vals }
abbrev refsOfT (qs : List Tp) : Array Value := (qs.map fun q => Value.ref q.at_).toArray

theorem walk_acc {prog : Program} {w : World} {A : Around} (hh : A.handled = none) (I x dx : Addr) (n : Nat) (qs : List Tp) (hxI : x ≠ I) (hqI : ∀ q ∈ qs, q.at_ ≠ I) :
    WalksU prog w A I (I :: x :: qs.map (·.at_)) [I] qs.length (fun j v => ∃ q, qs[j]? = some q ∧ v = q.vals)
      (fun j h => h.IsListIter I x j ∧ h.get? x = some (accO dx (refsOfT qs) n) ∧ ∀ q ∈ qs, h.get? q.at_ = some q.obj)
      (fun j T h => (∃ q ∈ qs, T = q.at_) ∧ h.IsListIter I x (j + 1) ∧ h.get? x = some (accO dx (refsOfT qs) n) ∧ ∀ q ∈ qs, h.get? q.at_ = some q.obj) where
  sub := fun b hb => by simp at hb; simp [hb]
  frame := fun _ _ _ st hk => ⟨st.1.at fun o e => hk I (by simp) o e, hk x (by simp) _ st.2.1, fun q hq => hk q.at_ (List.mem_cons_of_mem _ (List.mem_cons_of_mem _ (List.mem_map_of_mem hq))) _ (st.2.2 q hq)⟩
  item := fun i s Q E hi st hQ => by
    have hq : qs[i]? = some qs[i] := List.getElem?_eq_getElem hi
    have hm : qs[i] ∈ qs := List.getElem_mem hi
    refine acc_next st.1 st.2.1 (v := .ref qs[i].at_) (by simp [hq]) fun h' hit' hs' => ?_
    have tup : ∀ q ∈ qs, h'.get? q.at_ = some q.obj := fun q hq => hs'.extBut _ _ (hqI q hq) (st.2.2 q hq)
    exact hQ qs[i].at_ qs[i].vals h' s.toks ⟨_, hq, rfl⟩ ⟨_, tup _ hm, rfl, 0, rfl⟩ ⟨⟨_, hm, rfl⟩, hit', hs'.extBut _ _ hxI st.2.1, tup⟩ fun b o hb e => hs'.extBut b o (fun h => hb (by simp [h])) e
  go := fun _ _ _ _ _ s Q _ hm hQ => wpAny_letOwnedTupleGo_listiter hm.2.1 (hQ s.heap hm.2 fun _ _ _ e => e)
  apart := fun j T _ hm hmem => by
    obtain ⟨⟨q, hq, rfl⟩, _⟩ := hm
    exact hqI q hq (List.mem_singleton.mp hmem)
  done := fun s Q E st hQ => acc_next_end hh st.1 st.2.1 (by simp) fun h' he' => hQ h' s.toks fun b o hb e => he' b o (fun h => hb (by simp [h])) e
  self := fun _ _ _ _ st hQ => wpAny_pyIter_listiter st.1 hQ

def tabPos : Pos := ⟨40, 19, 40, 63⟩
def TabOk (pos : Pos) (ps : Array Value) : Prop := ps = #[] ∨ ∃ cv, ps = #[rawInt pos.line, rawInt pos.col, cv]

section
variable {prog : Program} {w : World} {A : Around} {x dx L : Addr} {E : Value → Shared → Prop} {s : Shared} {h₀ : Heap} {m mg mb : Str → Option Value} {news : List (Addr × Obj)} {p : Program} {loose : List Str} {mean : ExcName → Option Value}
theorem gen_rule {elt : PySem.Expr} {xa xb : Str} {pa pb pt : Pos} {kt : Nat} {scope : Scope} {pos : Pos} {iter : PySem.Expr} {env : Env} {n : Nat} {qs : List Tp} {ps : Array Value} {Q : Value → Shared → Prop} {val : Tp → Int}
    (F : Fr h₀ L s.heap m) (X₀ : (KK w).In h₀) (N : News h₀ L s.heap ((x, accO dx (refsOfT qs) n) :: (71, tabObj ps) :: news)) (T : Top p loose mean mg mb h₀) (G : AllBare s.gens)
    (hcode : env.code = .ref 75) (hC : CodeHd h₀ 75 71) (htab : TabOk pos ps) (hge : env.globals = mainGlobals)
    (hqs : ∀ q ∈ qs, (q.at_, q.obj) ∈ news) (h71 : ∀ p ∈ news, p.1 ≠ 71) (hx71 : x ≠ 71)
    (hh : A.handled = none) (hco : scope.isCoroutine = false) (hclos : closureFor scope env = pure []) (hcell : ∀ y ∈ scope.names, y.2 ≠ .cell) (h0 : scope.names.lookup (".0" : Str) = some NameKind.local)
    (hxa : scope.names.lookup xa = some .local) (hxb : scope.names.lookup xb = some .local) (hab : xa ≠ xb) (hkind : scope.kind = .function) (hroom : A.depth < recursionLimit)
    (hiter : ∀ (Q : Value → Shared → Prop), Q (.ref x) s → wpAny (model prog w) A (eval iter env) Q E s) (hs : ∀ x, genFold iter env x = pure x)
    (helt : ∀ (A' : Around) E' (q : Tp) (u : Shared) (C : Addr) (g : Heap) (cv : Value) m₂, A'.handled = none → q ∈ qs → Fr g C u.heap m₂ → h₀.StaysIn g → m₂ xa = some (.str q.a q.ta) → m₂ xb = some (.str q.b q.tb) →
      wpAny (model prog w) A' (eval elt (genEnv scope [] C cv builtinsNs env)) (fun y s₃ => (∃ t, y = .int (val q) t) ∧ Keeps u s₃) E' u)
    (h : ∀ a h' tk gs ps', Fr h₀ L h' m → News h₀ L h' ((x, accO dx (refsOfT qs) n) :: (71, tabObj ps') :: news) → TabOk pos ps' → AllBare gs →
      Gen prog w A L a qs.length (fun j y => ∃ q t, qs[j]? = some q ∧ y = .int (val q) t) { s with heap := h', toks := tk, gens := gs } → Q (.ref a) { s with heap := h', toks := tk, gens := gs }) :
    wpAny (model prog w) A (eval (.GeneratorExp elt [⟨.Tuple [.Name xa pa, .Name xb pb] kt pt, iter, [], 0⟩] scope pos) env) Q E s := by
  have X : (KK w).In s.heap := X₀.keeps F.keep
  have hx := (N _ (.head _)).1
  refine wpAny_GeneratorExp_walksQT hh hco hclos hcell h0 hxa hxb hab hkind hroom (hiter _ (acc_iter X hx ?_)) hs
  have lt : ∀ p ∈ ((x, accO dx (refsOfT qs) n) :: (71, tabObj ps) :: news), p.1 < s.heap.objs.size := fun p hp => Heap.lt_size (N p hp).1
  have hxlt : x < s.heap.objs.size := lt _ (.head _)
  have h71lt : 71 < s.heap.objs.size := lt _ (.tail _ (.head _))
  have hqlt : ∀ q ∈ qs, q.at_ < s.heap.objs.size := fun q hq => lt _ (.tail _ (.tail _ (hqs q hq)))
  have h71h0 : h₀.get? 71 = none := (N _ (.tail _ (.head _))).2.2
  have h71L : 71 ≠ L := (N _ (.tail _ (.head _))).2.1
  obtain ⟨bm, ob, M⟩ := bmod_of_top T
  have hlim : (s.heap.push { cls := .type "list_iterator", data := .fields #[.ref x, .int 0 0] }).NoLimit := (T.nolimit.keeps F.keep).push _
  refine ⟨hlim, ?_⟩
  have hC1 : CodeHd (s.heap.push { cls := .type "list_iterator", data := .fields #[.ref x, .int 0 0] }) 75 71 := hC.keeps fun b o e => Heap.get?_push_of_some _ (F.keep b o e)
  have hP1 : (s.heap.push { cls := .type "list_iterator", data := .fields #[.ref x, .int 0 0] }).get? 71 = some (tabObj ps) := Heap.get?_push_of_some _ (N _ (.tail _ (.head _))).1
  have main : ∀ (cv : Value) (h₃ : Heap) (tk₃ : Nat) (ps' : Array Value), Heap.ExtBut 71 (s.heap.push { cls := .type "list_iterator", data := .fields #[.ref x, .int 0 0] }) h₃ → (s.heap.push { cls := .type "list_iterator", data := .fields #[.ref x, .int 0 0] }).objs.size ≤ h₃.objs.size →
      h₃.get? 71 = some (tabObj ps') → TabOk pos ps' → wpAny (model prog w) A (builtinsFor env.globals env.builtins) (fun bi s₄ =>
        ∃ I fp wr n₀ Pt St₀ Mid pz F, Value.ref s.heap.objs.size = .ref I ∧ (∀ A' : Around, A'.handled = none → WalksU prog w A' I fp wr n₀ Pt St₀ Mid) ∧ (∀ i vals, Pt i vals → ∃ va vb, vals = #[va, vb]) ∧ St₀ 0 s₄.heap ∧ (∀ b ∈ fp, b < s₄.heap.objs.size) ∧ s₄.heap.NoLimit ∧ cStatics ∉ wr ∧
          (∀ href : Heap, (∀ b o, s₄.heap.get? b = some o → href.get? b = some o) →
            QuietGenT prog w (genEnv scope [] s₄.heap.objs.size cv bi env) xa xb [] elt (List.range s₄.heap.objs.size) wr Pt pz F href) ∧
          (∀ a h₅ tk gs, gs.bare = true → s₄.heap.objs.size < a → h₅.objs.size = a + 1 → (∀ b o, s₄.heap.get? b = some o → h₅.get? b = some o) →
            WalksS prog w A.in4 a (a :: s₄.heap.objs.size :: List.range s₄.heap.objs.size) (s₄.heap.objs.size :: wr) (GenOnlyQ s₄.gens.size) (passing pz n₀ 0).length
              (fun j y => ∃ i, (passing pz n₀ 0)[j]? = some i ∧ F i y) (GenAt prog w A.in4 a s₄.gens.size s₄.heap.objs.size (List.range s₄.heap.objs.size) wr pz n₀ F) →
            GenAt prog w A.in4 a s₄.gens.size s₄.heap.objs.size (List.range s₄.heap.objs.size) wr pz n₀ F 0 { s₄ with gens := s₄.gens.push gs, toks := tk, heap := h₅ } →
            Q (.ref a) { s₄ with gens := s₄.gens.push gs, toks := tk, heap := h₅ })) E { s with heap := h₃, toks := tk₃ } := by
    intro cv h₃ tk₃ ps' hx₃ hge₃ hP₃ hok
    have hM : BMod h₃ mainGlobals mg bm ob := (M.keeps fun b o e => Heap.get?_push_of_some _ (F.keep b o e)).extBut (hC1.tab hP1) hx₃
    rw [hge]
    refine wpAny_builtinsFor hM.ns hM.name hM.ne hM.obj hM.cls hM.dict hM.data ?_
    have keep0 : ∀ b o, b ≠ 71 → s.heap.get? b = some o → h₃.get? b = some o := fun b o hb e => hx₃ b o hb (Heap.get?_push_of_some _ e)
    have hsz3 : s.heap.objs.size < h₃.objs.size := by rw [Heap.size_push] at hge₃; omega
    have hlim3 : h₃.NoLimit := hlim.extBut hx₃ (by decide)
    have hIget : h₃.get? s.heap.objs.size = some { cls := .type "list_iterator", data := .fields #[.ref x, .int 0 0] } := hx₃ _ _ (Nat.ne_of_gt h71lt) (Heap.get?_push_size _ rfl)
    have hq71 : ∀ q ∈ qs, q.at_ ≠ 71 := fun q hq => h71 _ (hqs q hq)
    refine ⟨s.heap.objs.size, s.heap.objs.size :: x :: qs.map (·.at_), [s.heap.objs.size], qs.length, _, _, _, fun _ => true, fun j y => ∃ q t, qs[j]? = some q ∧ y = .int (val q) t, rfl,
      fun A' hA => walk_acc hA s.heap.objs.size x dx n qs (Nat.ne_of_lt hxlt) (fun q hq => Nat.ne_of_lt (hqlt q hq)), ?_, ?_, ?_, hlim3, ?_, ?_, ?_⟩
    · rintro i vals ⟨q, _, rfl⟩
      exact ⟨_, _, rfl⟩
    · exact ⟨⟨_, hIget, rfl, rfl⟩, keep0 _ _ hx71 hx, fun q hq => keep0 _ _ (hq71 q hq) (N _ (.tail _ (.tail _ (hqs q hq)))).1⟩
    · intro b hb
      show b < h₃.objs.size
      rcases List.mem_cons.mp hb with rfl | hb
      · exact hsz3
      · rcases List.mem_cons.mp hb with rfl | hb
        · exact Nat.lt_trans hxlt hsz3
        · obtain ⟨q, hq, rfl⟩ := List.mem_map.mp hb
          exact Nat.lt_trans (hqlt q hq) hsz3
    · intro hm
      have := List.mem_singleton.mp hm
      obtain ⟨_, hn, _⟩ := T.nolimit.keeps F.keep
      exact absurd hn.lt (this ▸ Nat.lt_irrefl _)
    · intro href hhref
      constructor
      · intro A' E' i va vb s₂ m₂ hA hP hn ha hb hk
        rw [List.forIn_nil]
        exact wpAny_pure ⟨rfl, _, _, rfl, fun _ _ e => e⟩
      · intro A' E' i va vb s₂ m₂ hA hP _ hn ha hb hk
        obtain ⟨q, hq, hv⟩ := hP
        obtain ⟨e1, e2⟩ : va = .str q.a q.ta ∧ vb = .str q.b q.tb := by simpa [Tp.vals] using hv
        subst e1 e2
        refine wpAny_mono (helt A' E' q s₂ h₃.objs.size (hideAll h₃ [s.heap.objs.size]) cv m₂ hA (List.mem_of_getElem? hq) ⟨hn, fun b o e => ?_, Nat.le_of_eq (hideAll_size _ _)⟩ (fun b o e => ?_) ha hb) (fun y s₃ r => ⟨?_, r.2⟩) fun _ _ e => e
        · have e' := of_hideAll _ e
          have hbI : b ∉ [s.heap.objs.size] := fun hm => by
            rw [hideAll_none _ hm] at e; cases e
          exact hk b (List.mem_range.mpr (Heap.lt_size e')) hbI o (hhref b o e')
        · have e1 := F.keep b o e
          have hb71 : b ≠ 71 := fun q => by rw [q, h71h0] at e; cases e
          exact hideAll_get _ (keep0 b o hb71 e1) fun hm => Nat.lt_irrefl _ ((List.mem_singleton.mp hm) ▸ Heap.lt_size e1)
        · obtain ⟨t, rfl⟩ := r.1
          exact ⟨q, t, hq, rfl⟩
    · intro a h₅ tk gs hgb hag hsz₅ hk₅ W hat
      have hpl : (passing (fun _ => true) qs.length 0) = List.range qs.length := by simp [passing]
      rw [hpl] at W
      rw [List.length_range] at W
      have hLs : L < s.heap.objs.size := F.ns.lt
      obtain ⟨oL, es, ep, hL, r⟩ := F.ns
      refine h a h₅ tk (s.gens.push gs) ps' ⟨⟨oL, es, ep, hk₅ _ _ (keep0 _ _ (Ne.symm h71L) hL), r⟩, fun b o e => hk₅ _ _ (keep0 b o (fun q => by rw [q, h71h0] at e; cases e) (F.keep b o e)), F.above⟩ ?_ hok (G.push hgb) ?_
      · intro p hp
        rcases List.mem_cons.mp hp with rfl | hp
        · exact ⟨hk₅ _ _ (keep0 _ _ hx71 hx), (N _ (.head _)).2⟩
        · rcases List.mem_cons.mp hp with rfl | hp
          · exact ⟨hk₅ _ _ hP₃, (N _ (.tail _ (.head _))).2⟩
          · exact ⟨hk₅ _ _ (keep0 _ _ (h71 p hp) (N _ (.tail _ (.tail _ hp))).1), (N _ (.tail _ (.tail _ hp))).2⟩
      · refine ⟨_, _, _, _, W.imp ?_, hat, (fun i s' st => st.1.typeIs), List.mem_cons_self, ?_, ?_⟩
        · rintro j y ⟨i, hi, q, t, hq, rfl⟩
          have : i = j := by
            rw [List.getElem?_eq_some_iff] at hi
            obtain ⟨_, hi⟩ := hi
            simpa using hi.symm
          subst this
          exact ⟨q, t, hq, rfl⟩
        · intro b hb
          show b < h₅.objs.size
          rw [hsz₅]
          rcases List.mem_cons.mp hb with rfl | hb
          · exact Nat.lt_succ_self _
          · rcases List.mem_cons.mp hb with rfl | hb
            · exact Nat.lt_succ_of_lt hag
            · exact Nat.lt_succ_of_lt (Nat.lt_trans (List.mem_range.mp hb) hag)
        · intro b hb
          rcases List.mem_cons.mp hb with rfl | hb
          · exact Nat.lt_trans hLs hsz3
          · rw [List.mem_singleton.mp hb]; exact hLs
  rcases htab with rfl | ⟨cv, rfl⟩
  · refine wpAny_genexprCodeX hcode (hC1.code hP1 (by trivial)) (hC1.tab hP1) rfl fun c' h₃ tk₃ hx₃ hge₃ hlt _ _ htab₃ _ => ?_
    exact main _ _ _ _ hx₃ (Nat.le_trans hge₃ (Nat.le_of_lt hlt)) htab₃.2 (.inr ⟨_, by rfl⟩)
  · refine wpAny_genexprCode_hit (c' := cv) hcode (hC1.code hP1 ?_) ?_ ?_
    · exact True.intro
    · simp [codeAmong, rawInt]
    · exact main _ _ _ _ (fun b o _ e => e) (Nat.le_refl _) hP1 (.inr ⟨_, rfl⟩)

theorem gen_toks {K a : Addr} {n : Nat} {Fv : Nat → Value → Prop} {tk : Nat} (X : Gen prog w A K a n Fv s) (h : s.toks ≤ tk) : Gen prog w A K a n Fv { s with toks := tk } := by
  obtain ⟨fp, wr, g, St, W, hst, ht, ha, hfp, hwr⟩ := X
  exact ⟨fp, wr, g, St, W, W.frame 0 s s.heap tk hst h fun _ _ _ e => e, ht, ha, hfp, hwr⟩
theorem sum_gen {a : Addr} {n : Nat} {Fv : Nat → Value → Prop} {k : Int} {t : Tok} {Q : Value → Shared → Prop} (Fh : Fr h₀ L s.heap m) (N : News h₀ L s.heap news) (hN : ∀ p ∈ news, p.1 < L) (G : AllBare s.gens) (X : Gen prog w A L a n Fv s) (val : Nat → Int) (hval : ∀ j v, Fv j v → ∃ t, v = .int (val j) t)
    (hk : k = 0 ∨ k = 5)
    (hQ : ∀ h' tk gs t', Fr h₀ L h' m → News h₀ L h' news → AllBare gs → Q (.int (k + preSum val n) t') { s with heap := h', toks := tk, gens := gs }) : wpAny (model prog w) A (call (.builtin "sum") [.ref a, .int k t]) Q E s := by
  obtain ⟨fp, wr, g, St, W, hst, _, _, hfp, hwr⟩ := X
  have W := W.in4_1
  refine sum_from hk (W.self 0 _ _ _ hst ⟨a, _, _, _, _, _, _, val, rfl, W, hst, hfp, hval, fun s' t' hm => ?_⟩)
  have F' := Fh.moved hm fun b hb => hwr b hb
  have G' := G.movedS hm
  obtain ⟨h', g', d', tk', os'⟩ := s'
  have e1 : d' = s.drawn := hm.drawn
  have e2 : os' = s.os := hm.os
  subst e1 e2
  exact hQ h' tk' g' t' F' (fun p hp => ⟨hm.heap p.1 p.2 (fun hmem => Nat.lt_asymm (hwr _ hmem) (hN p hp)) (N p hp).1, (N p hp).2⟩) G'

theorem code_defL {A₀ : Around} {R : Result → Shared → Prop} {env : Env} {outer : List Env} {base : Heap} {K : Frag} {name qual : Str} {params : Arguments} {body : List Stmt} {scope : Scope} {dV kV doc pm cdv ct oc : Value} {an od : Option Addr} {osl : Array (Option Value)} {f : Addr} {args : Args} {binds : List (Str × Value)}
    (B : Below A₀ base outer h₀) (F : Fr h₀ L s.heap m) (X₀ : K.In h₀) (N : News h₀ L s.heap news) (T : Top p loose mean mg mb h₀) (hA : A.frames = some (env :: outer)) (hf : env.frame = some L) (hke : env.scope.kind = .function)
    (ho : K.lookup f = some ⟨oc, od, .func (fnOf name qual params body scope dV kV doc pm an cdv ct), osl⟩) (hcd : codeIn K cdv qual = true) (hroom : A.depth < recursionLimit)
    (hbind : BindsTo s (fnOf name qual params body scope dV kV doc pm an cdv ct) args binds) (hloc : ∀ y ∈ binds, scope.names.lookup y.1 = some .local)
    (h : ∀ g L' h₁, Fr h₀ L g m → Fr g L' h₁ (fun y => binds.reverse.lookup y) → News g L' h₁ news → Below A base (env :: outer) g → K.In g → Top p loose mean mg mb g → h₀.StaysIn g → (∀ p ∈ news, p.1 < L') →
      wpAny (model prog w) (A.deeper (envOf qual scope L' f cdv)) (execs body (envOf qual scope L' f cdv))
        (fun fl s' => LeaveK h₀ L m g R (match fl with | .ret v => v | _ => .none) s')
        (fun e s' => wpAny (model prog w) (A.deeper (envOf qual scope L' f cdv)) (leaving (envOf qual scope L' f cdv) e) (fun _ s'' => R (.error e) s'') (fun e' s'' => R (.error e') s'') s')
        { s with heap := h₁, toks := s.toks + binds.length })
    (hco : scope.isCoroutine = false) (hgen : scope.isGenerator = false) (hk : scope.kind = .function)
    (hcell : ∀ x ∈ scope.names, x.2 ≠ .cell) : codeAny (model prog w) A (.call (.ref f) args) R s :=
  callX_plain (cl := []) B F N T.nolimit hA hf hke ((X₀.keeps F.keep) _ _ ho) rfl (codeRec_of (X₀.keeps F.keep) hcd) hroom hbind hloc (fun g L' h₁ FG F' N' B' st lt => h g L' h₁ FG F' N' B' (X₀.keeps st) (T.keeps st) st lt) hcell hco hgen hk
end
end Mine
end
section
set_option maxRecDepth 100000
set_option maxHeartbeats 8000000
open PySem PySem.W PyProof.Rows PySem.Calls
namespace Mine
local macro_rules | `(tactic| k_ne) => `(tactic| ((try dsimp only); first | assumption | (apply Ne.symm; assumption)))
local macro_rules | `(tactic| k_all) => `(tactic| first | assumption | exact fun p hp => Nat.ne_of_lt (allLt_mem (by assumption) p hp))
local macro_rules | `(tactic| k_inst) => `(tactic| (refine' acc_inst ?N ?h1 ?h2; (case N => k_asm); (case h1 | h2 => k_mem)))
local macro_rules | `(tactic| walk_at "getMethod ref") => `(tactic| (k_here; (with_reducible show wpAny _ _ (getMethod (Value.ref _) (PySem.Str.ofString "__len__") _) _ _ _); k_dflt (refine' m_len ?F ?X ?N ?so ?x ?_; (case F | X | N => k_asm); (case so | x => k_mem)); intro q' h' F' N' l1; (try k_lt l1)))
local macro_rules | `(tactic| walk_at "getMethod ref") => `(tactic| (k_here; (with_reducible show wpAny _ _ (getMethod (Value.ref _) (PySem.Str.ofString "__init__") _) _ _ _); k_dflt (refine' m_init ?F ?X ?N ?so ?x ?_; (case F | X | N => k_asm); (case so | x => k_mem)); intro q' h' F' N' l1; (try k_lt l1)))
local macro_rules | `(tactic| walk_at "getMethod ref") => `(tactic| (k_here; (with_reducible show wpAny _ _ (getMethod (Value.ref _) (PySem.Str.ofString "pop") _) _ _ _); k_dflt (refine' m_pop ?F ?X ?N ?so ?x ?_; (case F | X | N => k_asm); (case so | x => k_mem)); intro q' h' F' N' l1; (try k_lt l1)))
local macro_rules | `(tactic| walk_at "callWith ref nil") => `(tactic| (k_here; k_dflt (refine' bnd_callWith ?N ?u ?a ?b ?_; (case N => k_asm); (case u => k_mem); (case a | b => decide))))
local macro_rules | `(tactic| walk_at "call ref nil nil") => `(tactic| (k_here; k_dflt (refine' op_len ?N ?q ?x ?_; (case N => k_asm); (case q | x => k_mem))))
local macro_rules | `(tactic| walk_at "call ref nil nil") => `(tactic| (k_here; k_dflt (refine' op_init ?F ?N ?q ?U ?_; (case F | N => k_asm); (case q => k_mem); (case U => k_upd)); intro h' F' N'))
local macro_rules | `(tactic| walk_at "wpAt") => `(tactic| (k_dflt ((show PySem.wpAt _ _ _ (execs (_ :: _) _) _ _ _); refine ks_wpAt_execs_cons ?_)))
local macro_rules | `(tactic| walk_at "wpAt") => `(tactic| (k_dflt ((show PySem.wpAt _ _ _ (eval (Expr.Call (Expr.Attribute (Expr.Call _ _ _ _) _ _) _ _ _) _) _ _ _); refine ks_wpAt_MethodCall ?_)))
local macro_rules | `(tactic| walk_at "setAttr ref") => `(tactic| (k_here; k_dflt (refine' acc_setU ?F ?X ?N ?I ?d ?U ?_; (case F | X | N => k_asm); (case I => k_inst); (case d => exact rfl); (case U => k_upd)); intro h' F' N'))
local macro_rules | `(tactic| walk_at "my_enterL") => `(tactic| (refine' code_defL ?k1 ?k2 ?k3 ?k4 ?k5 ?kA ?kF ?kK ?k6 ?k7 ?k8 ?k9 ?kB ?_ ?c2 ?c3 ?c4 ?c5; (case kA | kF | kK | k1 | k2 | k3 | k4 | k5 => assumption); (case k6 | k7 => k_is); (case k8 => exact Nat.lt_of_lt_of_le (by assumption) (by decide)); (case k9 => first | exact BindsTo.of_eq rfl | exact binds_K (by k_in) rfl (by k_is) rfl rfl rfl); (case c5 => decide); (case kB => exact locs rfl); (case c2 | c3 | c4 => exact rfl); k_whole; intro g' L' h' FG' F' N' B' X' T' st' l1; (try dsimp only); (try k_fold)))
local macro_rules | `(tactic| walk_at "getAttr ref") => `(tactic| (k_here; k_dflt (refine' acc_getSize ?X ?I ?_; (case X => k_in); (case I => k_inst))))
section
variable {w : World} {A : Around} {s : Shared} {h₀ : Heap} {C : Addr} {m mg mb : Str → Option Value} {env : Env} {loose : List Str} {mean : ExcName → Option Value} {p : Program} {K : Frag} {scope : Scope} {cl : List (Str × Addr)} {code : Value} {M : Model} {E Q : Value → Shared → Prop} {v : Value} {x : Str} {pos : Pos}
theorem ld_builtG {Q : Value → Shared → Prop} (F : Fr h₀ C s.heap m) (X : K.In h₀) (T : Top p loose mean mg mb h₀) (e : nsIn K mainGlobals x = some none) (hv : bootBuiltins x = some v) (hn : x ≠ "__name__") (h : Q v s) (hg : env.globals = mainGlobals := by rfl)
    (hk : (genEnv scope cl C code builtinsNs env).scope.kind = .function := by rfl) (hx : (genEnv scope cl C code builtinsNs env).kindOf x = some .globalImplicit := by rfl) (hd : (x == ("__debug__" : Str)) = false := by decide) :
    wpAny M A (eval (.Name x pos) (genEnv scope cl C code builtinsNs env)) Q E s :=
  Name_function_global hk hx (loadGlobal_builtin (env := genEnv scope cl C code builtinsNs env) (show s.heap.Ns env.globals mg from hg ▸ (T.keeps F.keep).g) (mg_none_of X T.g e) (T.keeps F.keep).b ((T.builtins x hn).trans hv) h) hd
theorem elt_len {prog : Program} {pa pb pc pd pe pf pg : Pos} {a b : Str} {ta tb : Tok} (F : Fr h₀ C s.heap m) (X : K.In h₀) (T : Top p loose mean mg mb h₀) (e : nsIn K mainGlobals "len" = some none) (ha : m "fws" = some (.str a ta)) (hb : m "part" = some (.str b tb)) (hla : a.length < 9) (hlb : b.length < 9) (hg : env.globals = mainGlobals)
   (h1 : scope.kind = .function) (h2 : (genEnv scope cl C code builtinsNs env).kindOf "len" = some .globalImplicit) (h3 : (genEnv scope cl C code builtinsNs env).kindOf "fws" = some .local) (h4 : (genEnv scope cl C code builtinsNs env).kindOf "part" = some .local) :
    wpAny (model prog w) A (eval (.BinOp (.Call (.Name "len" pa) [.Name "fws" pb] [] pc) .Add (.Call (.Name "len" pd) [.Name "part" pe] [] pf) pg) (genEnv scope cl C code builtinsNs env))
      (fun y s₃ => (∃ t, y = .int ((a.length + b.length : Nat) : Int) t) ∧ Keeps s s₃) E s := by
  have hboot : bootBuiltins "len" = some (.builtin "len") := PySem.boot_len
  refine wpAny_BinOp ?_
  refine Call_Name1 ?_
  refine ld_builtG F X T e hboot (by decide) ?_ hg h1 h2
  refine callWith_builtin1 ?_
  refine ldVarG F ha ?_ h1 h3
  refine len_str (by omega) ?_
  refine Call_Name1 ?_
  refine ld_builtG (s := { s with toks := s.toks + 1 + 1 }) F X T e hboot (by decide) ?_ hg h1 h2
  refine callWith_builtin1 ?_
  refine ldVarG (s := { s with toks := s.toks + 1 + 1 }) F hb ?_ h1 h4
  refine len_str (by omega) ?_
  refine add_int ?_
  refine ⟨⟨_, rfl⟩, s.heap, _, rfl, fun _ _ e => e⟩
end
section
variable {w : World} {A₀ A : Around} {s : Shared} {base h₀ : Heap} {outer : List Env} {L : Addr} {m mg mb : Str → Option Value} {env : Env} {news : List (Addr × Obj)} {loose : List Str} {mean : ExcName → Option Value} {R : Result → Shared → Prop} {x dx : Addr} {od : Obj} {p : Program}
theorem len_ok {n : Nat} {qs : List Tp} {k : Int} {tk : Nat} {t : Tok} {pz : Array Value} (B : Below A₀ base outer h₀) (F : Fr h₀ L s.heap m) (X : (MineH.hd.heap_1 w.params).In h₀) (N : News h₀ L s.heap ((x, accO dx (refsOfT qs) n) :: (71, tabObj pz) :: (dx, dictI w tk k t) :: news)) (T : Top p loose mean mg mb h₀) (G : AllBare s.gens)
    (hA : A.frames = some (env :: outer)) (hf : env.frame = some L) (hke : env.scope.kind = .function) (hroom : A.depth < 900) (hh : A.handled = none) (hC : CodeHd h₀ 75 71) (htab : TabOk tabPos pz) (hk : k = 0 ∨ k = 5)
    (hqs : ∀ q ∈ qs, (q.at_, q.obj) ∈ news) (hsm : ∀ q ∈ qs, q.a.length < 9 ∧ q.b.length < 9) (h71 : ∀ p ∈ news, p.1 ≠ 71) (hx71 : x ≠ 71) (hd71 : dx ≠ 71)
    (h : ∀ h' tk' gs pz' t', Fr h₀ L h' m → News h₀ L h' ((x, accO dx (refsOfT qs) n) :: (71, tabObj pz') :: (dx, dictI w tk k t) :: news) → TabOk tabPos pz' → AllBare gs → R (.ok (.ret (.int (k + (qs.map fun q => ((q.a.length + q.b.length : Nat) : Int)).sum) t'))) { s with heap := h', toks := tk', gens := gs }) :
    codeAny (model PySem.Challenge.rw_wk0026_01.row.prog w) A (.call (.ref 76) ⟨[.ref x], []⟩) R s := by
  revert X; k_fill; intro X
  k_dflt (walk_at "my_enterL")
  k_steps
  rename Fr _ _ _ _ => F1
  rename News _ _ _ _ => N1
  rename Top _ _ _ _ _ _ => T1
  rename Frag.In _ _ => X1
  rename Heap.StaysIn _ _ => st1
  have hC1 := hC.keeps st1
  refine gen_rule (val := fun q => ((q.a.length + q.b.length : Nat) : Int)) F1 X1 N1 T1 G rfl hC1 htab rfl (fun q hq => .tail _ (hqs q hq)) (fun p hp => ?c71) hx71 hh rfl ?cl (by decide) (by decide) (by decide) (by decide) (by decide) rfl ?room ?iter (fun _ => rfl) ?elt ?_
  case cl => rfl
  case c71 =>
    rcases List.mem_cons.mp hp with rfl | hp
    · exact hd71
    · exact h71 p hp
  case room => 
    exact deep_depth hroom (by decide)
  case iter =>
    intro Q hq
    k_steps
    exact hq
  case elt => 
    intro A' E' q u C g cv m₂ hA' hq F2 hst ha hb
    exact elt_len F2 (X1.keeps hst) (T1.keeps hst) (by k_is) ha hb (hsm q hq).1 (hsm q hq).2 rfl rfl rfl rfl rfl
  case _ =>
   intro a h' tk' gs ps' F2 N2 htab' G2 X2
   k_steps
   refine sum_gen F2 N2 ?lt G2 (gen_toks X2 (by exact Nat.le_succ _)) (fun j => ((qs.map fun q => ((q.a.length + q.b.length : Nat) : Int)).getD j 0)) ?hv hk ?_
   case lt => 
     rename ∀ p ∈ _, _ < _ => l1
     intro p hp
     rcases List.mem_cons.mp hp with rfl | hp
     · exact l1 _ (.head _)
     · rcases List.mem_cons.mp hp with rfl | hp
       · exact l1 (71, tabObj pz) (.tail _ (.head _))
       · exact l1 _ (.tail _ (.tail _ hp))
   case hv =>
     rintro j v ⟨q, t, hq, rfl⟩
     refine ⟨t, ?_⟩
     simp [List.getD, hq]
   case _ =>
    intro h3 tk3 gs3 t3 F3 N3 G3
    k_steps
    rw [preSum_getD, List.take_of_length_le (by simp)]
    exact h _ _ _ _ _ (by assumption) (by assumption) htab' G3
end
end Mine
end
section
set_option maxRecDepth 100000
set_option maxHeartbeats 8000000
open PySem PySem.W PyProof.Rows PySem.Calls
namespace Mine
section
variable {prog : Program} {w : World} {A : Around} {s : Shared} {env : Env} {h₀ : Heap}
def TurnM (h₀ : Heap) (L : Addr) (wr : List Addr) (own : List (Addr × Obj)) (Jn : (Str → Option Value) → List (Addr × Obj) → Prop) (R : Result → Shared → Prop) (s₁ : Shared) (f : Flow) (s₃ : Shared) : Prop :=
  match f with
  | .next | .cont => ∃ h' tk m₂ news₂, s₃ = { s₁ with heap := h', toks := tk } ∧ Fr h₀ L h' m₂ ∧ News h₀ L h' (news₂ ++ own) ∧ (∀ p ∈ news₂, p.1 ∉ wr) ∧ Jn m₂ news₂
  | .brk => R (.ok .next) s₃
  | .ret v => R (.ok (.ret v)) s₃
theorem for_my {R : Result → Shared → Prop} {target : PySem.Expr} {body orelse : List Stmt} {I : Addr} {fp wr : List Addr} {n : Nat} {P : Nat → Value → Prop} {St : Nat → Heap → Prop} {m : Str → Option Value}
    {news : List (Addr × Obj)} (W : Walks prog w A I fp wr n P St)
    (hLf : env.locals ∉ fp) (hwr : ∀ b ∈ wr, h₀.get? b = none) (hnw : ∀ p ∈ news, p.1 ∉ wr)
    (hst : St 0 s.heap) (F : Fr h₀ env.locals s.heap m) (N : News h₀ env.locals s.heap news)
    (hgo : ∀ i (s' : Shared) v (Q' : Unit → Shared → Prop), St i s'.heap → Q' () s' → wpAny (model prog w) A (letOwnedTupleGo target (.ref I) v) Q' (notedBy (model prog w) A env fun e s' => R (.error e) s') s')
    (J : Nat → (Str → Option Value) → List (Addr × Obj) → Prop) (h0 : J 0 m news)
    (step : ∀ i v m₁ news₁ h₁ tk₁ own, i < n → P i v → J i m₁ news₁ → (∀ p ∈ news₁, p.1 ∉ wr) → (∀ p ∈ own, p.1 ∈ fp) →
      Fr h₀ env.locals h₁ m₁ → News h₀ env.locals h₁ (news₁ ++ own) →
      wpAny (model prog w) A (assign target env v) (fun _ s₂ => wpAny (model prog w) A (execs body env) (TurnM h₀ env.locals wr own (J (i + 1)) R { s with heap := h₁, toks := tk₁ }) (notedBy (model prog w) A env fun e s' => R (.error e) s') s₂) (notedBy (model prog w) A env fun e s' => R (.error e) s') { s with heap := h₁, toks := tk₁ })
    (hR : ∀ h' tk m' news', Fr h₀ env.locals h' m' → News h₀ env.locals h' news' → J n m' news' → wpAny (model prog w) A (execs orelse env) (fun f s₃ => R (.ok f) s₃) (notedBy (model prog w) A env fun e s' => R (.error e) s') { s with heap := h', toks := tk }) :
    codeAny (model prog w) A (.forLoop target (.ref I) body orelse env) R s := by
  have hLw : env.locals ∉ wr := fun h => hLf (W.sub _ h)
  have old : ∀ b o, h₀.get? b = some o → b ∉ wr := fun b o e hb => by rw [hwr b hb] at e; cases e
  refine codeAny_forLoop_any
    (fun k s' => ∃ h' tk m' news' i, s' = { s with heap := h', toks := tk } ∧ St i h' ∧ Fr h₀ env.locals h' m' ∧ News h₀ env.locals h' news' ∧ (∀ p ∈ news', p.1 ∉ wr) ∧ J i m' news' ∧ i ≤ n ∧ k = n + 1 - i) ?_ (n + 1)
    ⟨s.heap, s.toks, m, news, 0, rfl, hst, F, N, hnw, h0, Nat.zero_le _, rfl⟩
  rintro k s' ⟨h', tk, m', news', i, rfl, hst', F', N', hnw', hJ, hi, rfl⟩
  have next : ∀ h₁ : Heap, (∀ b o, b ∉ wr → h'.get? b = some o → h₁.get? b = some o) → Fr h₀ env.locals h₁ m' ∧ News h₀ env.locals h₁ news' := fun h₁ hk₁ =>
    ⟨⟨F'.ns.at' fun o e => hk₁ _ o hLw e, fun b o e => hk₁ b o (old b o e) (F'.keep b o e), F'.above⟩, fun p hp => ⟨hk₁ _ _ (hnw' p hp) (N' p hp).1, (N' p hp).2⟩⟩
  by_cases hlt : i < n
  · refine W.item i _ _ _ hlt hst' fun v h₁ tk₁ hP hst₁ hk₁ => ?_
    obtain ⟨F₁, N₁⟩ := next h₁ hk₁
    have Nown : News h₀ env.locals h₁ (ownOf h₀ fp h₁) := news_ownOf hLf
    refine hgo (i + 1) _ v _ hst₁ ?_
    refine wpAny_mono (step i v m' news' h₁ tk₁ (ownOf h₀ fp h₁) hlt hP hJ hnw' ownOf_sub F₁ (N₁.append Nown))
      (fun _ s₂ h₂ => wpAny_mono h₂ (fun f s₃ h₃ => ?_) fun _ _ e => e) fun _ _ e => e
    have go : (∃ h' tk m₂ news₂, s₃ = { s with heap := h', toks := tk } ∧ Fr h₀ env.locals h' m₂ ∧ News h₀ env.locals h' (news₂ ++ ownOf h₀ fp h₁) ∧ (∀ p ∈ news₂, p.1 ∉ wr) ∧ J (i + 1) m₂ news₂) →
        ∃ k', k' < n + 1 - i ∧ ∃ h' tk m' news' i, s₃ = { s with heap := h', toks := tk } ∧ St i h' ∧ Fr h₀ env.locals h' m' ∧ News h₀ env.locals h' news' ∧ (∀ p ∈ news', p.1 ∉ wr) ∧ J i m' news' ∧ i ≤ n ∧ k' = n + 1 - i := by
      rintro ⟨h₃', tk₃, m₂, news₂, rfl, F₃, N₃, ha₃, hJ₃⟩
      refine ⟨n + 1 - (i + 1), by omega, h₃', tk₃, m₂, news₂, i + 1, rfl, ?_, F₃, fun p hp => N₃ p (List.mem_append_left _ hp), ha₃, hJ₃, hlt, rfl⟩
      refine W.frame _ _ _ hst₁ fun b hb o e => ?_
      cases hn : h₀.get? b with
      | some o₀ =>
        have : o₀ = o := by have := F₁.keep b o₀ hn; rw [e] at this; exact (Option.some.inj this).symm
        exact this ▸ F₃.keep b o₀ hn
      | none => exact (N₃ _ (List.mem_append_right _ (mem_ownOf hb hn e))).1
    cases f with
    | next => exact go h₃
    | cont => exact go h₃
    | brk => exact h₃
    | ret v => exact h₃
  · have hin : i = n := by omega
    subst hin
    refine W.done _ _ _ hst' fun h₁ tk₁ hk₁ => ?_
    obtain ⟨F₁, N₁⟩ := next h₁ hk₁
    exact hR h₁ tk₁ m' news' F₁ N₁ hJ

theorem while_my {R : Result → Shared → Prop} {test : PySem.Expr} {body : List Stmt} (J : Nat → Shared → Prop) {n₀ : Nat} (h0 : J n₀ s)
    (turn : ∀ n s₁, J n s₁ → wpAny (model prog w) A (isTrue test env (eval test env)) (fun b s₂ =>
        if b = true then wpAny (model prog w) A (execs body env) (fun f s₃ => match f with
            | .next | .cont => ∃ n', n' < n ∧ J n' s₃
            | .brk => R (.ok .next) s₃
            | .ret v => R (.ok (.ret v)) s₃) (notedBy (model prog w) A env fun e s' => R (.error e) s') s₂ else R (.ok .next) s₂) (notedBy (model prog w) A env fun e s' => R (.error e) s') s₁) :
    codeAny (model prog w) A (.whileLoop test body [] env) R s := by
  refine codeAny_whileLoop J (fun n s' hJ => ?_) n₀ h0
  refine wpAny_mono (turn n s' hJ) (fun b s₂ h₂ => ?_) fun _ _ e => e
  cases b with
  | false =>
    simp only [Bool.false_eq_true, if_false] at h₂ ⊢
    exact wpAny_execs_nil h₂
  | true =>
    simp only [if_true] at h₂ ⊢
    refine wpAny_mono h₂ (fun f s₃ h₃ => ?_) fun _ _ e => e
    cases f <;> exact h₃
end
end Mine
end
section
set_option maxRecDepth 100000
set_option maxHeartbeats 8000000
open PySem PySem.W PyProof.Rows PySem.Calls
namespace Mine
section
variable {w : World} {A₀ A : Around} {s : Shared} {base h₀ : Heap} {outer : List Env} {L : Addr} {m mg mb : Str → Option Value} {env : Env} {news : List (Addr × Obj)} {loose : List Str} {mean : ExcName → Option Value} {R : Result → Shared → Prop} {x dx v : Addr} {od : Obj} {p : Program} {g : Obj → List (Addr × Obj)}
theorem byMem {h₀ h : Heap} {L : Addr} {news news' : List (Addr × Obj)} (N : News h₀ L h news) (hs : ∀ p ∈ news', p ∈ news) : News h₀ L h news' := fun p hp => N p (hs p hp)
theorem mem_drop {α : Type} {p q : α} {pre post : List α} (h : p ∈ pre ++ q :: post) : p = q ∨ p ∈ pre ++ post := by
  simp only [List.mem_append, List.mem_cons] at h ⊢
  rcases h with h | h | h
  · exact .inr (.inl h)
  · exact .inl h
  · exact .inr (.inr h)
theorem mem_put {α : Type} {p q : α} {pre post : List α} (h : p ∈ pre ++ post) : p ∈ pre ++ q :: post := by
  simp only [List.mem_append, List.mem_cons] at h ⊢
  rcases h with h | h
  · exact .inl h
  · exact .inr (.inr h)
theorem ne_drop {q : Addr} {pre post : List (Addr × Obj)} (a : ∀ p ∈ pre, p.1 ≠ q) (b : ∀ p ∈ post, p.1 ≠ q) : ∀ p ∈ pre ++ post, p.1 ≠ q := fun p hp => (List.mem_append.mp hp).elim (a p) (b p)

theorem push_okU {its : Array Value} {n : Nat} {a b : Str} {ta tb : Tok} (B : Below A₀ base outer h₀) (F : Fr h₀ L s.heap m) (X : (MineH.hd.heap_1 w.params).In h₀) (N : News h₀ L s.heap news) (T : Top p loose mean mg mb h₀)
    (hA : A.frames = some (env :: outer)) (hf : env.frame = some L) (hke : env.scope.kind = .function) (hroom : A.depth < 900) (U : UpdF x (accO dx its n) news g) (hdx : (dx, od) ∈ news) (hxd : dx ≠ x) (hsz : its.size ≤ sizeLine)
    (hod : lookIn "append" od = some none)
    (h : ∀ h' tk l, Fr h₀ L h' m → News h₀ L h' ((l, { cls := .type "tuple", data := .seq #[.str a ta, .str b tb] }) :: g (accO dx (its.push (.ref l)) (n + 1))) → (∀ p ∈ news, p.1 < l) → R (.ok (.ret .none)) { s with heap := h', toks := tk }) :
    codeAny (model PySem.Challenge.rw_wk0026_01.row.prog w) A (.call (.ref 53) ⟨[.ref x, .str a ta, .str b tb], []⟩) R s := by
  obtain ⟨pre, post, rfl, hg, a1, b1⟩ := U.split
  have hdx' : (dx, od) ∈ pre ++ post := (mem_drop hdx).elim (fun e => absurd (congrArg Prod.fst e) hxd) id
  refine push_ok (n := n) (news := pre ++ post) B F X (byMem N fun p hp => ?_) T hA hf hke hroom (ne_drop a1 b1) hxd hsz hod fun h' tk l F' N' l1 l2 l3 => ?_
  · rcases List.mem_cons.mp hp with rfl | hp
    · simp
    · rcases List.mem_cons.mp hp with rfl | hp
      · exact hdx
      · exact mem_put hp
  · refine h h' tk l F' (byMem N' fun p hp => ?_) fun p hp => ?_
    · rw [hg] at hp
      rcases List.mem_cons.mp hp with rfl | hp
      · exact .tail _ (.tail _ (.head _))
      · rcases mem_drop hp with rfl | hp
        · exact .head _
        · exact .tail _ (.tail _ (.tail _ hp))
    · rcases mem_drop hp with rfl | hp
      · exact l2
      · exact l1 p hp

theorem pop2_okU {v0 v1 : Value} {n : Nat} (B : Below A₀ base outer h₀) (F : Fr h₀ L s.heap m) (X : (MineH.hd.heap_1 w.params).In h₀) (N : News h₀ L s.heap news) (T : Top p loose mean mg mb h₀)
    (hA : A.frames = some (env :: outer)) (hf : env.frame = some L) (hke : env.scope.kind = .function) (hroom : A.depth < 890) (U : UpdF x (accO dx #[v0, v1] n) news g) (hdx : (dx, od) ∈ news) (hxd : dx ≠ x) (hod : lookIn "part_count" od = some none)
    (h : ∀ h' tk, Fr h₀ L h' m → News h₀ L h' (g (accO dx #[v0] (n + 1))) → R (.ok (.ret v1)) { s with heap := h', toks := tk }) :
    codeAny (model PySem.Challenge.rw_wk0026_01.row.prog w) A (.call (.ref 69) ⟨[.ref x], []⟩) R s := by
  obtain ⟨pre, post, rfl, hg, a1, b1⟩ := U.split
  have hdx' : (dx, od) ∈ pre ++ post := (mem_drop hdx).elim (fun e => absurd (congrArg Prod.fst e) hxd) id
  refine pop_ok (n := n) (od := od) (dx := dx) (its := #[v0]) (v := v1) (news := pre ++ post) B F X (byMem N fun p hp => ?_) T hA hf hke hroom (ne_drop a1 b1) hxd (Nat.le_of_ble_eq_true rfl) hod fun h' tk F' N' => ?_
  · rcases List.mem_cons.mp hp with rfl | hp
    · simp
    · rcases List.mem_cons.mp hp with rfl | hp
      · exact hdx
      · exact mem_put hp
  · refine h h' tk F' (byMem N' fun p hp => ?_)
    rw [hg] at hp
    rcases mem_drop hp with rfl | hp
    · exact .head _
    · exact .tail _ (.tail _ hp)

theorem pop1_okU {v0 : Value} {n : Nat} (B : Below A₀ base outer h₀) (F : Fr h₀ L s.heap m) (X : (MineH.hd.heap_1 w.params).In h₀) (N : News h₀ L s.heap news) (T : Top p loose mean mg mb h₀)
    (hA : A.frames = some (env :: outer)) (hf : env.frame = some L) (hke : env.scope.kind = .function) (hroom : A.depth < 890) (U : UpdF x (accO dx #[v0] n) news g) (hdx : (dx, od) ∈ news) (hxd : dx ≠ x) (hod : lookIn "part_count" od = some none)
    (h : ∀ h' tk, Fr h₀ L h' m → News h₀ L h' (g (accO dx #[] (n + 1))) → R (.ok (.ret v0)) { s with heap := h', toks := tk }) :
    codeAny (model PySem.Challenge.rw_wk0026_01.row.prog w) A (.call (.ref 69) ⟨[.ref x], []⟩) R s := by
  obtain ⟨pre, post, rfl, hg, a1, b1⟩ := U.split
  refine pop_ok (n := n) (od := od) (dx := dx) (its := #[]) (v := v0) (news := pre ++ post) B F X (byMem N fun p hp => ?_) T hA hf hke hroom (ne_drop a1 b1) hxd (Nat.le_of_ble_eq_true rfl) hod fun h' tk F' N' => ?_
  · rcases List.mem_cons.mp hp with rfl | hp
    · simp
    · rcases List.mem_cons.mp hp with rfl | hp
      · exact hdx
      · exact mem_put hp
  · refine h h' tk F' (byMem N' fun p hp => ?_)
    rw [hg] at hp
    rcases mem_drop hp with rfl | hp
    · exact .head _
    · exact .tail _ (.tail _ hp)

theorem pop0_okU {n : Nat} (B : Below A₀ base outer h₀) (F : Fr h₀ L s.heap m) (X : (MineH.hd.heap_1 w.params).In h₀) (N : News h₀ L s.heap news) (T : Top p loose mean mg mb h₀)
    (hA : A.frames = some (env :: outer)) (hf : env.frame = some L) (hke : env.scope.kind = .function) (hroom : A.depth < 890) (hx : (x, accO dx #[] n) ∈ news) (hdx : (dx, od) ∈ news) (hod : lookIn "part_count" od = some none)
    (h : ∀ h' tk l ta tb, Fr h₀ L h' m → News h₀ L h' ((l, { cls := .type "tuple", data := .seq #[.str (Str.ofString "") ta, .str (Str.ofString "") tb] }) :: news) → R (.ok (.ret (.ref l))) { s with heap := h', toks := tk }) :
    codeAny (model PySem.Challenge.rw_wk0026_01.row.prog w) A (.call (.ref 69) ⟨[.ref x], []⟩) R s := by
  refine pop_empty_ok (n := n) (od := od) (dx := dx) (news := news) B F X (byMem N fun p hp => ?_) T hA hf hke hroom hod fun h' tk l ta tb F' N' _ _ _ => ?_
  · rcases List.mem_cons.mp hp with rfl | hp
    · exact hx
    · rcases List.mem_cons.mp hp with rfl | hp
      · exact hdx
      · exact hp
  · refine h h' tk l ta tb F' (byMem N' fun p hp => ?_)
    rcases List.mem_cons.mp hp with rfl | hp
    · exact .head _
    · exact .tail _ (.tail _ (.tail _ hp))

theorem from2_okU {v0 v1 : Value} {vs : List Value} {n : Nat} {t : Tok} (B : Below A₀ base outer h₀) (F : Fr h₀ L s.heap m) (X : (MineH.hd.heap_1 w.params).In h₀) (N : News h₀ L s.heap news) (T : Top p loose mean mg mb h₀)
    (hA : A.frames = some (env :: outer)) (hf : env.frame = some L) (hke : env.scope.kind = .function) (hroom : A.depth < 900) (U : UpdF x (accO dx (v0 :: v1 :: vs).toArray n) news g) (hsz : vs.length + 2 ≤ sizeLine)
    (h : ∀ h' tk l n', Fr h₀ L h' m → News h₀ L h' ((l, listOf vs.toArray 0) :: g (accO dx #[v0, v1] n')) → (∀ p ∈ news, p.1 < l) → R (.ok (.ret (.ref l))) { s with heap := h', toks := tk }) :
    codeAny (model PySem.Challenge.rw_wk0026_01.row.prog w) A (.call (.ref 61) ⟨[.ref x, .int 2 t], []⟩) R s := by
  obtain ⟨pre, post, rfl, hg, a1, b1⟩ := U.split
  refine pop_from_ok (n := n) (dx := dx) (its := (v0 :: v1 :: vs).toArray) (k := 2) (news := pre ++ post) B F X (byMem N fun p hp => ?_) T hA hf hke hroom (ne_drop a1 b1) (by simpa using hsz) (by decide) (by simp) fun h' tk l n' F' N' l1 l2 => ?_
  · rcases List.mem_cons.mp hp with rfl | hp
    · simp
    · exact mem_put hp
  · have e1 : (v0 :: v1 :: vs).toArray.extract 0 (Int.toNat 2) = #[v0, v1] := by simp
    have e2 : (v0 :: v1 :: vs).toArray.extract (Int.toNat 2) (v0 :: v1 :: vs).toArray.size = vs.toArray := by simp
    rw [e1, e2] at N'
    refine h h' tk l n' F' (byMem N' fun p hp => ?_) fun p hp => ?_
    · rw [hg] at hp
      rcases List.mem_cons.mp hp with rfl | hp
      · exact .tail _ (.head _)
      · rcases mem_drop hp with rfl | hp
        · exact .head _
        · exact .tail _ (.tail _ hp)
    · rcases mem_drop hp with rfl | hp
      · exact l2
      · exact l1 p hp

theorem reset_okU {its ys : Array Value} {n n2 : Nat} {k : Int} {tk t : Tok} {g2 : Nat → Obj → List (Addr × Obj)} (B : Below A₀ base outer h₀) (F : Fr h₀ L s.heap m) (X : (MineH.hd.heap_1 w.params).In h₀) (N : News h₀ L s.heap news) (T : Top p loose mean mg mb h₀)
    (hA : A.frames = some (env :: outer)) (hf : env.frame = some L) (hke : env.scope.kind = .function) (hroom : A.depth < 900) (U : UpdF x (accO dx its n) news g) (U2 : ∀ n', UpdF dx (dictI w tk k t) (g (accO dx ys n')) (g2 n')) (hv : (v, listOf ys n2) ∈ news) (hxd : dx ≠ x) (hxv : x ≠ v) (hdv : dx ≠ v) (hsz : its.size + ys.size ≤ sizeLine)
    (h : ∀ h' tk' n' t', Fr h₀ L h' m → News h₀ L h' (g2 n' (dictI w tk 0 t')) → R (.ok (.ret .none)) { s with heap := h', toks := tk' }) :
    codeAny (model PySem.Challenge.rw_wk0026_01.row.prog w) A (.call (.ref 91) ⟨[.ref x, .ref v], []⟩) R s := by
  obtain ⟨pre, post, rfl, hg, a1, b1⟩ := U.split
  have hd0 : (dx, dictI w tk k t) ∈ pre ++ post := by
    obtain ⟨pre2, post2, e, -, -, -⟩ := (U2 0).split
    rw [hg] at e
    have : (dx, dictI w tk k t) ∈ pre ++ (x, accO dx ys 0) :: post := by rw [e]; simp
    exact (mem_drop this).elim (fun e => absurd (congrArg Prod.fst e) hxd) id
  have hv' : (v, listOf ys n2) ∈ pre ++ post := (mem_drop hv).elim (fun e => absurd (congrArg Prod.fst e).symm hxv) id
  refine reset_ok (n := n) (n2 := n2) (k := k) (tk := tk) (t := t) (its := its) (ys := ys) (news := (pre ++ post).filter fun p => decide (p.1 ≠ dx)) B F X (byMem N fun p hp => ?_) T hA hf hke hroom (fun p hp => ne_drop a1 b1 p (List.mem_filter.mp hp).1) (fun p hp => of_decide_eq_true (List.mem_filter.mp hp).2) hxd hxv hdv hsz fun h' tk' n' t' F' N' => ?_
  · rcases List.mem_cons.mp hp with rfl | hp
    · simp
    · rcases List.mem_cons.mp hp with rfl | hp
      · exact mem_put hd0
      · rcases List.mem_cons.mp hp with rfl | hp
        · exact hv
        · exact mem_put (List.mem_filter.mp hp).1
  · refine h h' tk' n' t' F' (byMem N' fun p hp => ?_)
    obtain ⟨pre2, post2, e, hg2, c1, c2⟩ := (U2 n').split
    rw [hg] at e
    rw [hg2] at hp
    rcases mem_drop hp with rfl | hp
    · exact .tail _ (.head _)
    · have hne := ne_drop c1 c2 p hp
      have hp2 : p ∈ pre2 ++ (dx, dictI w tk k t) :: post2 := mem_put hp
      rw [← e] at hp2
      rcases mem_drop hp2 with rfl | hp2
      · exact .head _
      · exact .tail _ (.tail _ (.tail _ (List.mem_filter.mpr ⟨hp2, decide_eq_true hne⟩)))

theorem len_okU {n : Nat} {qs : List Tp} {k : Int} {tk : Nat} {t : Tok} {pz : Array Value} (B : Below A₀ base outer h₀) (F : Fr h₀ L s.heap m) (X : (MineH.hd.heap_1 w.params).In h₀) (N : News h₀ L s.heap news) (T : Top p loose mean mg mb h₀) (G : AllBare s.gens)
    (hA : A.frames = some (env :: outer)) (hf : env.frame = some L) (hke : env.scope.kind = .function) (hroom : A.depth < 900) (hh : A.handled = none) (hC : CodeHd h₀ 75 71) (U : UpdF 71 (tabObj pz) news g) (htab : TabOk tabPos pz) (hk : k = 0 ∨ k = 5)
    (hx : (x, accO dx (refsOfT qs) n) ∈ news) (hdx : (dx, dictI w tk k t) ∈ news) (hqs : ∀ q ∈ qs, (q.at_, q.obj) ∈ news) (hq71 : ∀ q ∈ qs, q.at_ ≠ 71) (hsm : ∀ q ∈ qs, q.a.length < 9 ∧ q.b.length < 9) (hx71 : x ≠ 71) (hd71 : dx ≠ 71)
    (h : ∀ h' tk' gs pz' t', Fr h₀ L h' m → News h₀ L h' (g (tabObj pz')) → TabOk tabPos pz' → AllBare gs → R (.ok (.ret (.int (k + (qs.map fun q => ((q.a.length + q.b.length : Nat) : Int)).sum) t'))) { s with heap := h', toks := tk', gens := gs }) :
    codeAny (model PySem.Challenge.rw_wk0026_01.row.prog w) A (.call (.ref 76) ⟨[.ref x], []⟩) R s := by
  obtain ⟨pre, post, rfl, hg, a1, b1⟩ := U.split
  refine len_ok (n := n) (k := k) (tk := tk) (t := t) (dx := dx) (pz := pz) (qs := qs) (news := pre ++ post) B F X (byMem N fun p hp => ?_) T G hA hf hke hroom hh hC htab hk (fun q hq => (mem_drop (hqs q hq)).elim (fun e => absurd (congrArg Prod.fst e) (hq71 q hq)) id) hsm (ne_drop a1 b1) hx71 hd71 fun h' tk' gs pz' t' F' N' htab' G' => ?_
  · rcases List.mem_cons.mp hp with rfl | hp
    · exact hx
    · rcases List.mem_cons.mp hp with rfl | hp
      · simp
      · rcases List.mem_cons.mp hp with rfl | hp
        · exact hdx
        · exact mem_put hp
  · refine h h' tk' gs pz' t' F' (byMem N' fun p hp => ?_) htab' G'
    rw [hg] at hp
    rcases mem_drop hp with rfl | hp
    · exact .tail _ (.head _)
    · exact .tail _ (.tail _ (.tail _ hp))
end
end Mine
end
section
set_option maxRecDepth 100000
set_option maxHeartbeats 8000000
open PySem PySem.W PyProof.Rows PySem.Calls
namespace Mine
def intIn (v : Option (Option Value)) (i : Int) : Bool := match v with | some (some (.int j _)) => decide (j = i) | _ => false
theorem intIn_spec {v : Option (Option Value)} {i : Int} (h : intIn v i = true) : ∃ t, v = some (some (.int i t)) := by
  unfold intIn at h
  split at h
  · exact ⟨_, by rw [of_decide_eq_true h]⟩
  · exact absurd h (by decide)
def lowT : List Nat := [40, 41, 91, 93, 58, 44, 59, 43]
def uppT : List Nat := [45, 42, 47, 124, 38, 60, 62, 61]
def lowS (f : Nat) : Str := ⟨#[lowT.getD (f % 8) 0]⟩
def uppS (f : Nat) : Str := ⟨#[uppT.getD (f / 8) 0]⟩
theorem ex_low_all (w : World) : (List.range 8).all (fun i => intIn (nsIn (KK w) 114 (⟨#[lowT.getD i 0]⟩ : Str)) (7 + i)) = true := by kernel_rfl
theorem ex_upp_all (w : World) : (List.range 8).all (fun i => intIn (nsIn (KK w) 114 (⟨#[uppT.getD i 0]⟩ : Str)) (15 + i)) = true := by kernel_rfl
theorem ex_low (w : World) (f : Nat) : ∃ t, nsIn (KK w) 114 (lowS f) = some (some (.int (7 + (f % 8 : Nat)) t)) :=
  intIn_spec (List.all_eq_true.mp (ex_low_all w) (f % 8) (List.mem_range.mpr (Nat.mod_lt _ (by decide))))
theorem ex_upp (w : World) (f : Nat) (hf : f < 64) : ∃ t, nsIn (KK w) 114 (uppS f) = some (some (.int (15 + (f / 8 : Nat)) t)) :=
  intIn_spec (List.all_eq_true.mp (ex_upp_all w) (f / 8) (List.mem_range.mpr (by omega)))
def digS (k : Nat) : Str := ⟨#[48 + k]⟩
def pathS (ds : List Nat) : Str := ⟨(ds.map (48 + ·)).toArray⟩
theorem pathS_snoc (ds : List Nat) (k : Nat) : pathS ds ++ digS k = pathS (ds ++ [k]) := by
  show (⟨_ ++ _⟩ : Str) = _
  simp [pathS, digS]
theorem pathS_nil : pathS [] = Str.ofString "" := rfl

def TrOk (kvs : List (Int × Value)) (tr : List (Nat × List Nat)) : Prop :=
  ∀ j : Nat, match tr.lookup j with | none => valueAt kvs (j : Int) = none | some ds => ∃ t, valueAt kvs (j : Int) = some (.str (pathS ds) t)
theorem TrOk.none {kvs : List (Int × Value)} {tr : List (Nat × List Nat)} (h : TrOk kvs tr) {j : Nat} (e : tr.lookup j = none) : valueAt kvs (j : Int) = none := by have := h j; rw [e] at this; exact this
theorem TrOk.some {kvs : List (Int × Value)} {tr : List (Nat × List Nat)} (h : TrOk kvs tr) {j : Nat} {ds : List Nat} (e : tr.lookup j = some ds) : ∃ t, valueAt kvs (j : Int) = some (.str (pathS ds) t) := by have := h j; rw [e] at this; exact this
theorem TrOk.put {kvs : List (Int × Value)} {tr : List (Nat × List Nat)} (h : TrOk kvs tr) {j : Nat} (e : tr.lookup j = Option.none) (ds : List Nat) (t : Tok) : TrOk (stored kvs (j : Int) (.str (pathS ds) t)) ((j, ds) :: tr) := by
  have e0 := h.none e
  intro i
  rw [stored_absent e0]
  by_cases hij : i = j
  · subst hij
    simp only [List.lookup_cons, beq_self_eq_true]
    refine ⟨t, ?_⟩
    have e0' := e0
    simp only [valueAt, Option.map_eq_none_iff] at e0'
    simp [valueAt, List.find?_append, e0']
  · have hb : (i == j) = false := by simpa using hij
    have hji : ¬ ((j : Int) = (i : Int)) := by omega
    simp only [List.lookup_cons, hb]
    have := h i
    revert this
    cases hl : tr.lookup i with
    | none =>
      intro e1
      simp only [valueAt, Option.map_eq_none_iff] at e1 ⊢
      simp [List.find?_append, e1, hji]
    | some d2 =>
      rintro ⟨t2, e1⟩
      refine ⟨t2, ?_⟩
      simp only [valueAt, Option.map_eq_some_iff] at e1 ⊢
      obtain ⟨a, ha, hb⟩ := e1
      exact ⟨a, by simp [List.find?_append, ha], hb⟩

def QsOk (qs : List Tp) (fl : List Nat) : Prop := qs.map (fun q => (q.a, q.b)) = fl.map fun f => (lowS f, uppS f)
theorem qs_sum : ∀ {qs : List Tp} {fl : List Nat}, QsOk qs fl → (qs.map fun q => ((q.a.length + q.b.length : Nat) : Int)).sum = 2 * fl.length
  | [], [], _ => rfl
  | [], _ :: _, h => by simp [QsOk] at h
  | _ :: _, [], h => by simp [QsOk] at h
  | q :: qs, f :: fl, h => by
    simp only [QsOk, List.map_cons, List.cons.injEq, Prod.mk.injEq] at h
    have ih := qs_sum (qs := qs) (fl := fl) h.2
    simp only [List.map_cons, List.sum_cons, ih, List.length_cons, h.1.1, h.1.2]
    have e1 : (lowS f).length = 1 := rfl
    have e2 : (uppS f).length = 1 := rfl
    rw [e1, e2]
    omega
theorem qs_small : ∀ {qs : List Tp} {fl : List Nat}, QsOk qs fl → ∀ q ∈ qs, q.a.length < 9 ∧ q.b.length < 9
  | [], _, _ => fun _ h => (nomatch h)
  | _ :: _, [], h => by simp [QsOk] at h
  | q :: qs, f :: fl, h => by
    simp only [QsOk, List.map_cons, List.cons.injEq, Prod.mk.injEq] at h
    intro r hr
    rcases List.mem_cons.mp hr with rfl | hr
    · rw [h.1.1, h.1.2]; exact ⟨by show 1 < 9; decide, by show 1 < 9; decide⟩
    · exact qs_small (fl := fl) h.2 r hr
section
variable {w : World} {A₀ A A' : Around} {s : Shared} {base h₀ : Heap} {outer : List Env} {L : Addr} {m mg mb : Str → Option Value} {env : Env} {news : List (Addr × Obj)} {loose : List Str} {mean : ExcName → Option Value} {x dx v : Addr} {od : Obj} {p : Program} {g : Obj → List (Addr × Obj)}
theorem len_acc {Q : Value → Shared → Prop} {E : Value → Shared → Prop} {n : Nat} {qs : List Tp} {k : Int} {tk : Nat} {t : Tok} {pz : Array Value} (B : Below A₀ base outer h₀) (F : Fr h₀ L s.heap m) (X : (MineH.hd.heap_1 w.params).In h₀) (N : News h₀ L s.heap news) (T : Top p loose mean mg mb h₀) (G : AllBare s.gens)
    (hA : A.frames = some (env :: outer)) (hf : env.frame = some L) (hke : env.scope.kind = .function) (hroom : A.depth < 900) (hh : A.handled = none) (hC : CodeHd h₀ 75 71) (U : UpdF 71 (tabObj pz) news g) (htab : TabOk tabPos pz) (hk : k = 0 ∨ k = 5)
    (hx : (x, accO dx (refsOfT qs) n) ∈ news) (hdx : (dx, dictI w tk k t) ∈ news) (hqs : ∀ q ∈ qs, (q.at_, q.obj) ∈ news) (hq71 : ∀ q ∈ qs, q.at_ ≠ 71) (hsm : ∀ q ∈ qs, q.a.length < 9 ∧ q.b.length < 9) (hx71 : x ≠ 71) (hd71 : dx ≠ 71)
    {z : Int} (hz : k + (qs.map fun q => ((q.a.length + q.b.length : Nat) : Int)).sum = z) (hz0 : 0 ≤ z) (hz1 : z < 2 ^ 63)
    (h : ∀ h' tk' gs pz' t', Fr h₀ L h' m → News h₀ L h' (g (tabObj pz')) → TabOk tabPos pz' → AllBare gs → Q (.int z t') { s with heap := h', toks := tk', gens := gs }) :
    wpAny (model PySem.Challenge.rw_wk0026_01.row.prog w) A (call (.builtin "len") [.ref x]) Q E s := by
  refine len_K (K := MineH.hd.heap_1 w.params) (f := 76) F X (acc_inst N hx hdx) (by kernel_rfl) (by kernel_rfl) (wpAny_call ?_)
  refine len_okU B F X N T G (A := A.in1) (env := env) (outer := outer) hA hf hke hroom hh hC U htab hk hx hdx hqs hq71 hsm hx71 hd71 fun h' tk' gs pz' t' F' N' htab' G' => ?_
  rw [hz]
  exact ⟨⟨hz0, hz1⟩, h _ _ _ _ _ F' N' htab' G'⟩
end
end Mine
end
section
set_option maxRecDepth 100000
set_option maxHeartbeats 8000000
open PySem PySem.W PyProof.Rows PySem.Calls
namespace Mine
section
variable {prog : Program} {w : World} {A : Around} {s : Shared} {env : Env} {h₀ : Heap}
theorem for_kt {R : Result → Shared → Prop} {target : PySem.Expr} {body orelse : List Stmt} {I : Addr} {fp wr : List Addr} {n : Nat} {P Md : Nat → Value → Heap → Prop} {St : Nat → Heap → Prop} {m : Str → Option Value}
    {news : List (Addr × Obj)} (W : KTurns prog w A target I fp wr n P Md St)
    (hLf : env.locals ∉ fp) (hwr : ∀ b ∈ wr, h₀.get? b = none) (hnw : ∀ p ∈ news, p.1 ∉ wr)
    (hst : St 0 s.heap) (F : Fr h₀ env.locals s.heap m) (N : News h₀ env.locals s.heap news)
    (J : Nat → (Str → Option Value) → List (Addr × Obj) → Prop) (h0 : J 0 m news)
    (step : ∀ i v m₁ news₁ h₁ tk₁ own, i < n → P i v h₁ → J i m₁ news₁ → (∀ p ∈ news₁, p.1 ∉ wr) → (∀ p ∈ own, p.1 ∈ fp) → (∀ b ∈ fp, h₀.get? b = none → ∀ o, h₁.get? b = some o → (b, o) ∈ own) → St (i + 1) h₁ →
      Fr h₀ env.locals h₁ m₁ → News h₀ env.locals h₁ (news₁ ++ own) →
      wpAny (model prog w) A (assign target env v) (fun _ s₂ => wpAny (model prog w) A (execs body env) (TurnM h₀ env.locals wr own (J (i + 1)) R { s with heap := h₁, toks := tk₁ }) (notedBy (model prog w) A env fun e s' => R (.error e) s') s₂) (notedBy (model prog w) A env fun e s' => R (.error e) s') { s with heap := h₁, toks := tk₁ })
    (hR : ∀ h' tk m' news', Fr h₀ env.locals h' m' → News h₀ env.locals h' news' → J n m' news' → wpAny (model prog w) A (execs orelse env) (fun f s₃ => R (.ok f) s₃) (notedBy (model prog w) A env fun e s' => R (.error e) s') { s with heap := h', toks := tk }) :
    codeAny (model prog w) A (.forLoop target (.ref I) body orelse env) R s := by
  have hLw : env.locals ∉ wr := fun h => hLf (W.sub _ h)
  have old : ∀ b o, h₀.get? b = some o → b ∉ wr := fun b o e hb => by rw [hwr b hb] at e; cases e
  refine codeAny_forLoop_any
    (fun k s' => ∃ h' tk m' news' i, s' = { s with heap := h', toks := tk } ∧ St i h' ∧ Fr h₀ env.locals h' m' ∧ News h₀ env.locals h' news' ∧ (∀ p ∈ news', p.1 ∉ wr) ∧ J i m' news' ∧ i ≤ n ∧ k = n + 1 - i) ?_ (n + 1)
    ⟨s.heap, s.toks, m, news, 0, rfl, hst, F, N, hnw, h0, Nat.zero_le _, rfl⟩
  rintro k s' ⟨h', tk, m', news', i, rfl, hst', F', N', hnw', hJ, hi, rfl⟩
  have next : ∀ h₁ : Heap, (∀ b o, b ∉ wr → h'.get? b = some o → h₁.get? b = some o) → Fr h₀ env.locals h₁ m' ∧ News h₀ env.locals h₁ news' := fun h₁ hk₁ =>
    ⟨⟨F'.ns.at' fun o e => hk₁ _ o hLw e, fun b o e => hk₁ b o (old b o e) (F'.keep b o e), F'.above⟩, fun p hp => ⟨hk₁ _ _ (hnw' p hp) (N' p hp).1, (N' p hp).2⟩⟩
  by_cases hlt : i < n
  · refine W.item i _ _ _ hlt hst' fun v h₁ tk₁ hMd hk₁ => ?_
    refine W.go i v _ _ _ hMd fun h₂ hP hst₂ hk₂ => ?_
    obtain ⟨F₂, N₂⟩ := next h₂ fun b o hb x => hk₂ b o hb (hk₁ b o hb x)
    have Nown : News h₀ env.locals h₂ (ownOf h₀ fp h₂) := news_ownOf hLf
    refine wpAny_mono (step i v m' news' h₂ tk₁ (ownOf h₀ fp h₂) hlt hP hJ hnw' ownOf_sub (fun b hb hn o e => mem_ownOf hb hn e) hst₂ F₂ (N₂.append Nown))
      (fun _ s₂ h₂' => wpAny_mono h₂' (fun f s₃ h₃ => ?_) fun _ _ e => e) fun _ _ e => e
    have go : (∃ h' tk m₂ news₂, s₃ = { s with heap := h', toks := tk } ∧ Fr h₀ env.locals h' m₂ ∧ News h₀ env.locals h' (news₂ ++ ownOf h₀ fp h₂) ∧ (∀ p ∈ news₂, p.1 ∉ wr) ∧ J (i + 1) m₂ news₂) →
        ∃ k', k' < n + 1 - i ∧ ∃ h' tk m' news' i, s₃ = { s with heap := h', toks := tk } ∧ St i h' ∧ Fr h₀ env.locals h' m' ∧ News h₀ env.locals h' news' ∧ (∀ p ∈ news', p.1 ∉ wr) ∧ J i m' news' ∧ i ≤ n ∧ k' = n + 1 - i := by
      rintro ⟨h₃', tk₃, m₂, news₂, rfl, F₃, N₃, ha₃, hJ₃⟩
      refine ⟨n + 1 - (i + 1), by omega, h₃', tk₃, m₂, news₂, i + 1, rfl, ?_, F₃, fun p hp => N₃ p (List.mem_append_left _ hp), ha₃, hJ₃, hlt, rfl⟩
      refine W.frame _ _ _ hst₂ fun b hb o e => ?_
      cases hn : h₀.get? b with
      | some o₀ =>
        have : o₀ = o := by have := F₂.keep b o₀ hn; rw [e] at this; exact (Option.some.inj this).symm
        exact this ▸ F₃.keep b o₀ hn
      | none => exact (N₃ _ (List.mem_append_right _ (mem_ownOf hb hn e))).1
    cases f with
    | next => exact go h₃
    | cont => exact go h₃
    | brk => exact h₃
    | ret v => exact h₃
  · have hin : i = n := by omega
    subst hin
    refine W.done _ _ _ hst' fun h₁ tk₁ hk₁ => ?_
    obtain ⟨F₁, N₁⟩ := next h₁ hk₁
    exact hR h₁ tk₁ m' news' F₁ N₁ hJ

theorem range_loop {R : Result → Shared → Prop} {E : Value → Shared → Prop} {x : Str} {px : Pos} {body orelse : List Stmt} {n : Nat} {r : Addr} {t u v : Tok} {m : Str → Option Value} {news : List (Addr × Obj)}
    (hh : A.handled = none) (hr : IsRange s.heap r 0 (n : Int) 1 t u v) (hn : Builtin.Range.small 0 (n : Int) 1 = true) (hn2 : Builtin.Range.rangeSize 0 (n : Int) 1 = ((n : Nat) : Int)) (F : Fr h₀ env.locals s.heap m) (N : News h₀ env.locals s.heap news)
    (J : Nat → (Str → Option Value) → List (Addr × Obj) → Prop) (h0 : J 0 m news)
    (step : ∀ (i : Nat) t m₁ news₁ h₁ tk₁ own oI, i < n → J i m₁ news₁ → (∀ p ∈ news₁, p.1 ≠ s.heap.objs.size) → (s.heap.objs.size, oI) ∈ own → (∀ p ∈ own, p.1 = s.heap.objs.size) →
      Fr h₀ env.locals h₁ m₁ → News h₀ env.locals h₁ (news₁ ++ own) →
      wpAny (model prog w) A (assign (.Name x px) env (.int (i : Int) t)) (fun _ s₂ => wpAny (model prog w) A (execs body env) (TurnM h₀ env.locals [s.heap.objs.size] own (J (i + 1)) R { s with heap := h₁, toks := tk₁ }) (notedBy (model prog w) A env fun e s' => R (.error e) s') s₂) (notedBy (model prog w) A env fun e s' => R (.error e) s') { s with heap := h₁, toks := tk₁ })
    (hR : ∀ h' tk m' news', Fr h₀ env.locals h' m' → News h₀ env.locals h' news' → J n m' news' → wpAny (model prog w) A (execs orelse env) (fun f s₃ => R (.ok f) s₃) (notedBy (model prog w) A env fun e s' => R (.error e) s') { s with heap := h', toks := tk }) :
    wpAny (model prog w) A (pyIter (.ref r)) (fun it s₂ => codeAny (model prog w) A (.forLoop (.Name x px) it body orelse env) R s₂) E s := by
  refine wpAny_pyIter_range hr hn ?_
  rw [hn2]
  have W := LCg.range_walks (prog := prog) (w := w) (A := A) (I := s.heap.objs.size) hh 0 n
  have hI0 : h₀.get? s.heap.objs.size = none := by
    cases q : h₀.get? s.heap.objs.size with
    | none => rfl
    | some o => exact absurd (Heap.lt_size (F.keep _ _ q)) (Nat.lt_irrefl _)
  have F2 := F.push { cls := .type "range_iterator", data := .fields #[rawInt 0, rawInt n, rawInt 1] }
  have N2 : News h₀ env.locals (s.heap.push { cls := .type "range_iterator", data := .fields #[rawInt 0, rawInt n, rawInt 1] }) news := N.grown fun _ _ e => Heap.get?_push_of_some _ e
  refine for_kt (s := { s with heap := s.heap.push { cls := .type "range_iterator", data := .fields #[rawInt 0, rawInt n, rawInt 1] } }) (KTurns.ofWalks W fun i v s Q E _ q => wpAny_pure q) ?_ ?_ ?_ ?_ F2 N2 J h0 ?_ ?_
  · intro hm
    exact absurd F.ns.lt (List.mem_singleton.mp hm ▸ Nat.lt_irrefl _)
  · intro b hb
    rw [List.mem_singleton.mp hb]; exact hI0
  · intro p hp hm
    exact absurd (Heap.lt_size (N p hp).1) (List.mem_singleton.mp hm ▸ Nat.lt_irrefl _)
  · have : IsRangeIter (s.heap.push { cls := .type "range_iterator", data := .fields #[rawInt 0, rawInt n, rawInt 1] }) s.heap.objs.size (0 + ((0 : Nat) : Int) * 1) ((n : Int) - (0 : Nat)) 1 := by
      simp only [Int.zero_add, Int.zero_mul, Int.natCast_zero, Int.sub_zero]
      exact Heap.get?_push_size _ rfl
    exact this
  · rintro i v m₁ news₁ h₁ tk₁ own hi ⟨t, rfl⟩ hJ hnw how hin hst F₁ N₁
    have e0 : (0 : Int) + (i : Int) = i := Int.zero_add _
    rw [e0]
    have hst' : h₁.get? s.heap.objs.size = some _ := hst
    exact step i t m₁ news₁ h₁ tk₁ own _ hi hJ (fun p hp e => hnw p hp (e ▸ List.mem_singleton.mpr rfl)) (hin _ (.head _) hI0 _ hst') (fun p hp => List.mem_singleton.mp (how p hp)) F₁ N₁
  · exact hR

theorem list_loop {R : Result → Shared → Prop} {E : Value → Shared → Prop} {target : PySem.Expr} {body orelse : List Stmt} {ax : Addr} {its : Array Value} {kk : Nat} {m : Str → Option Value} {news : List (Addr × Obj)}
    (hh : A.handled = none) (F : Fr h₀ env.locals s.heap m) (N : News h₀ env.locals s.heap news) (hax : (ax, listOf its kk) ∈ news)
    (hgo : ∀ i v (s' : Shared) (Q : Unit → Shared → Prop) (E : Value → Shared → Prop), (s'.heap.IsListIter s.heap.objs.size ax i ∧ s'.heap.IsList ax its) → Q () s' → wpAny (model prog w) A (letOwnedTupleGo target (.ref s.heap.objs.size) v) Q E s')
    (J : Nat → (Str → Option Value) → List (Addr × Obj) → Prop) (h0 : J 0 m news)
    (step : ∀ (i : Nat) v m₁ news₁ h₁ tk₁ own oI, i < its.size → its[i]? = some v → J i m₁ news₁ → (∀ p ∈ news₁, p.1 ≠ s.heap.objs.size) → (s.heap.objs.size, oI) ∈ own → (∃ ov, (ax, ov) ∈ own) → (∀ p ∈ own, p.1 = s.heap.objs.size ∨ p.1 = ax) →
      Fr h₀ env.locals h₁ m₁ → News h₀ env.locals h₁ (news₁ ++ own) →
      wpAny (model prog w) A (assign target env v) (fun _ s₂ => wpAny (model prog w) A (execs body env) (TurnM h₀ env.locals [s.heap.objs.size] own (J (i + 1)) R { s with heap := h₁, toks := tk₁ }) (notedBy (model prog w) A env fun e s' => R (.error e) s') s₂) (notedBy (model prog w) A env fun e s' => R (.error e) s') { s with heap := h₁, toks := tk₁ })
    (hR : ∀ h' tk m' news', Fr h₀ env.locals h' m' → News h₀ env.locals h' news' → J its.size m' news' → wpAny (model prog w) A (execs orelse env) (fun f s₃ => R (.ok f) s₃) (notedBy (model prog w) A env fun e s' => R (.error e) s') { s with heap := h', toks := tk }) :
    wpAny (model prog w) A (pyIter (.ref ax)) (fun it s₂ => codeAny (model prog w) A (.forLoop target it body orelse env) R s₂) E s := by
  have hls : s.heap.IsList ax its := ⟨_, (N _ hax).1, rfl, kk, rfl⟩
  have hne : ax ≠ s.heap.objs.size := Nat.ne_of_lt (Heap.lt_size (N _ hax).1)
  refine wpAny_pyIter_list hls ?_
  have W := Walks.list (prog := prog) (w := w) hh s.heap.objs.size ax hne its
  have hI0 : h₀.get? s.heap.objs.size = none := by
    cases q : h₀.get? s.heap.objs.size with
    | none => rfl
    | some o => exact absurd (Heap.lt_size (F.keep _ _ q)) (Nat.lt_irrefl _)
  have F2 := F.push { cls := .type "list_iterator", data := .fields #[.ref ax, .int 0 0] }
  have N2 : News h₀ env.locals (s.heap.push { cls := .type "list_iterator", data := .fields #[.ref ax, .int 0 0] }) news := N.grown fun _ _ e => Heap.get?_push_of_some _ e
  refine for_kt (s := { s with heap := s.heap.push { cls := .type "list_iterator", data := .fields #[.ref ax, .int 0 0] } }) (KTurns.ofWalks W hgo) ?_ ?_ ?_ ⟨⟨_, Heap.get?_push_size _ rfl, rfl, rfl⟩, hls.push _⟩ F2 N2 J h0 ?_ hR
  · intro hm
    rcases List.mem_cons.mp hm with e | hm
    · exact absurd F.ns.lt (e ▸ Nat.lt_irrefl _)
    · exact (N _ hax).2.1 (List.mem_singleton.mp hm).symm
  · intro b hb
    rw [List.mem_singleton.mp hb]; exact hI0
  · intro p hp hm
    exact absurd (Heap.lt_size (N p hp).1) (List.mem_singleton.mp hm ▸ Nat.lt_irrefl _)
  · rintro i v m₁ news₁ h₁ tk₁ own hi hv hJ hnw how hin hst F₁ N₁
    obtain ⟨⟨oi, hoi, _⟩, ⟨ol, hol, _⟩⟩ := hst
    refine step i v m₁ news₁ h₁ tk₁ own _ hi hv hJ (fun p hp e => hnw p hp (e ▸ List.mem_singleton.mpr rfl)) (hin _ (.head _) hI0 _ hoi) ⟨_, hin _ (.tail _ (.head _)) (N _ hax).2.2 _ hol⟩ (fun p hp => ?_) F₁ N₁
    rcases List.mem_cons.mp (how p hp) with e | hm
    · exact .inl e
    · exact .inr (List.mem_singleton.mp hm)
end
end Mine
end
section
set_option maxRecDepth 100000
set_option maxHeartbeats 8000000
open PySem PySem.W PyProof.Rows PySem.Calls
namespace Mine
def Halt (P : Prop) : Prop := P
theorem halt {P : Prop} (h : Halt P) : P := h
theorem look_here {n a : Str} {A B : Option Value} {v : Value} (h : n = a) (hA : A = some v) : (if n = a then A else B) = some v := by rw [if_pos h]; exact hA
theorem look_on {n a : Str} {A B r : Option Value} (h : n ≠ a) (hB : B = r) : (if n = a then A else B) = r := by rw [if_neg h]; exact hB
section
variable {p : Program} {w : World} {A₀ A : Around} {s : Shared} {base h₀ : Heap} {outer : List Env} {L : Addr} {m mg mb : Str → Option Value} {env : Env} {news : List (Addr × Obj)} {loose : List Str} {mean : ExcName → Option Value} {R : Result → Shared → Prop}
theorem op_appendL {prog : Program} {x : Addr} {its : Array Value} {n : Nat} {v : Value} {news' : List (Addr × Obj)} {E : Value → Shared → Prop} {Q : Value → Shared → Prop} (F : Fr h₀ L s.heap m) (N : News h₀ L s.heap news) (U : Upd x (listOf its n) (listOf (its.push v) (n + 1)) news news') (hsz : its.size ≤ sizeLine)
    (h : ∀ h', Fr h₀ L h' m → News h₀ L h' news' → Q .none { s with heap := h' }) :
    wpAny (model prog w) A (call (.builtin "list.append") [.ref x, v]) Q E s := by
  have hm := N _ (upd_mem U)
  refine append_at (hsz := hsz) hm.1 fun h' hs ho' => h h' (F.change hs hm.2.1 hm.2.2) ?_
  obtain ⟨pre, post, rfl, rfl, a, b⟩ := U.split
  intro p hp
  rcases List.mem_append.mp hp with hp | hp
  · exact ⟨hs.extBut _ _ (a p hp) (N p (List.mem_append_left _ hp)).1, (N p (List.mem_append_left _ hp)).2⟩
  · rcases List.mem_cons.mp hp with rfl | hp
    · exact ⟨ho', hm.2⟩
    · exact ⟨hs.extBut _ _ (b p hp) (N p (List.mem_append_right _ (.tail _ hp))).1, (N p (List.mem_append_right _ (.tail _ hp))).2⟩
theorem iseof_ok {i : Int} {t : Tok} (B : Below A₀ base outer h₀) (F : Fr h₀ L s.heap m) (X : (MineH.hd.heap_1 w.params).In h₀) (N : News h₀ L s.heap news) (T : Top p loose mean mg mb h₀)
    (hA : A.frames = some (env :: outer)) (hf : env.frame = some L) (hke : env.scope.kind = .function) (hroom : A.depth < 900)
    (h : ∀ h' tk, Fr h₀ L h' m → News h₀ L h' news → R (.ok (.ret (.bool (i == 0)))) { s with heap := h', toks := tk }) :
    codeAny (model PySem.Challenge.rw_wk0026_01.row.prog w) A (.call (.ref 123) ⟨[.int i t], []⟩) R s := by
  revert X; k_fill; intro X
  k_dflt (walk_at "my_enter")
  k_steps
  exact h _ _ (by assumption) (by assumption)
theorem iseof_val {i : Int} {t : Tok} {b : Bool} (B : Below A₀ base outer h₀) (F : Fr h₀ L s.heap m) (X : (MineH.hd.heap_1 w.params).In h₀) (N : News h₀ L s.heap news) (T : Top p loose mean mg mb h₀)
    (hA : A.frames = some (env :: outer)) (hf : env.frame = some L) (hke : env.scope.kind = .function) (hroom : A.depth < 900) (hb : (i == 0) = b)
    (h : ∀ h' tk, Fr h₀ L h' m → News h₀ L h' news → R (.ok (.ret (.bool b))) { s with heap := h', toks := tk }) :
    codeAny (model PySem.Challenge.rw_wk0026_01.row.prog w) A (.call (.ref 123) ⟨[.int i t], []⟩) R s :=
  iseof_ok B F X N T hA hf hke hroom fun h' tk F' N' => hb ▸ h h' tk F' N'
end
end Mine
end
section
open PySem PySem.W PyProof.Rows PySem.Calls
namespace Mine
theorem and_pow (n i : Nat) : n &&& 2 ^ i = (n / 2 ^ i % 2) * 2 ^ i := by
  apply Nat.eq_of_testBit_eq
  intro j
  rw [Nat.testBit_and, Nat.testBit_two_pow]
  have h2 : n / 2 ^ i % 2 = 0 ∨ n / 2 ^ i % 2 = 1 := by omega
  rcases h2 with h | h
  · rw [h, Nat.zero_mul, Nat.zero_testBit]
    by_cases hij : i = j
    · subst hij
      rw [Nat.testBit_eq_decide_div_mod_eq, h]; rfl
    · simp [hij]
  · rw [h, Nat.one_mul, Nat.testBit_two_pow]
    by_cases hij : i = j
    · subst hij
      rw [Nat.testBit_eq_decide_div_mod_eq, h]; rfl
    · simp [hij]
theorem pow_int (i : Nat) : (1 * 2 ^ (i : Int).toNat : Int) = ((2 ^ i : Nat) : Int) := by
  rw [Int.one_mul, Int.toNat_natCast]; exact (Int.natCast_pow 2 i).symm
theorem bitAnd_nat (a b : Nat) : Builtin.bitAnd (a : Int) (b : Int) = ((a &&& b : Nat) : Int) := by
  rw [bitAnd_pp (by omega) (by omega), Int.toNat_natCast, Int.toNat_natCast]
theorem bitAnd_pow (n i : Nat) : Builtin.bitAnd (n : Int) (1 * 2 ^ (i : Int).toNat) = (((n / 2 ^ i % 2) * 2 ^ i : Nat) : Int) := by
  rw [pow_int, bitAnd_nat, and_pow]
theorem up_div (f i : Nat) : f / 2 ^ i * 2 ^ i / 2 ^ i = f / 2 ^ i := Nat.mul_div_cancel _ (Nat.pow_pos (by decide))
theorem up_next (f i : Nat) : f / 2 ^ (i + 1) * 2 ^ (i + 1) = f / 2 ^ i * 2 ^ i - (f / 2 ^ i % 2) * 2 ^ i := by
  rw [Nat.pow_succ, ← Nat.div_div_eq_div_mul, ← Nat.sub_mul, ← Nat.mul_assoc, Nat.mul_right_comm]
  congr 1
  omega
theorem bit_off {f i : Nat} (h : Builtin.bitAnd ((f / 2 ^ i * 2 ^ i : Nat) : Int) (1 * 2 ^ (i : Int).toNat) = 0) : f / 2 ^ i % 2 = 0 ∧ f / 2 ^ (i + 1) * 2 ^ (i + 1) = f / 2 ^ i * 2 ^ i := by
  rw [bitAnd_pow, up_div] at h
  have hp : 0 < 2 ^ i := Nat.pow_pos (by decide)
  have h0 : f / 2 ^ i % 2 = 0 := by
    rcases Nat.mul_eq_zero.mp (Int.ofNat.inj h) with h | h
    · exact h
    · omega
  refine ⟨h0, ?_⟩
  rw [up_next, h0, Nat.zero_mul, Nat.sub_zero]
theorem bit_on {f i : Nat} (h : Builtin.bitAnd ((f / 2 ^ i * 2 ^ i : Nat) : Int) (1 * 2 ^ (i : Int).toNat) ≠ 0) : f / 2 ^ i % 2 = 1 ∧ Builtin.bitXor ((f / 2 ^ i * 2 ^ i : Nat) : Int) (1 * 2 ^ (i : Int).toNat) = ((f / 2 ^ (i + 1) * 2 ^ (i + 1) : Nat) : Int) := by
  rw [bitAnd_pow, up_div] at h
  have h1 : f / 2 ^ i % 2 = 1 := by
    have : f / 2 ^ i % 2 ≠ 0 := fun e => h (by rw [e, Nat.zero_mul]; rfl)
    omega
  refine ⟨h1, ?_⟩
  rw [bitXor_and, bitAnd_pow, up_div, h1, up_next, h1, pow_int, Nat.one_mul]
  have hle : 2 ^ i ≤ f / 2 ^ i * 2 ^ i := by
    have h3 : f / 2 ^ i ≠ 0 := fun e => by rw [e] at h1; exact absurd h1 (by decide)
    exact Nat.le_mul_of_pos_left _ (Nat.pos_of_ne_zero h3)
  omega
end Mine
end
section
set_option maxRecDepth 100000
set_option maxHeartbeats 8000000
open PySem PySem.W PyProof.Rows PySem.Calls
namespace Mine
section
variable {prog : Program} {w : World} {A : Around} {s : Shared} {h₀ : Heap} {L d a : Addr} {m : Str → Option Value} {news : List (Addr × Obj)} {E : Value → Shared → Prop} {o : Obj} {kvs : List (Int × Value)} {value slice : PySem.Expr} {i : Int} {t u : Tok}
theorem dict_map (N : News h₀ L s.heap news) (hd : (d, o) ∈ news) (hk : o.IsDictOf (intKind prog w) kvs) : s.heap.MapOf (intKind prog w) d (valueAt kvs) := by
  have : s.heap.DictOf (intKind prog w) d kvs := Heap.dictOf_iff.mpr ⟨o, (N _ hd).1, hk⟩
  exact this.mapOf
theorem op_dget {v : Value} {Q : Value → Shared → Prop} (N : News h₀ L s.heap news) (hd : (d, o) ∈ news) (hk : o.IsDictOf (intKind prog w) kvs) (hv : valueAt kvs i = some v) (h : Q v { s with toks := s.toks + 1 })
    (hs : subscripted slice false (.ref d) (.int i t) = operate [.ref d, .int i t] (getItem (.ref d) (.int i t)) := by with_unfolding_all rfl) :
    wpAny (model prog w) A (subscriptTail value slice (.ref d) (.int i t)) Q E s :=
  have hm := dict_map N hd hk
  tail_any hm.typeIs slot_dict_getitem.lookup (wpAny_getItem_of (intKind_is prog w i t) hm hv h) hs
theorem op_notin {r : Option Value} {Q : Value → Shared → Prop} (N : News h₀ L s.heap news) (hd : (d, o) ∈ news) (lo : (d == sysModules) = false) (hk : o.IsDictOf (intKind prog w) kvs) (hv : valueAt kvs i = r) (h : Q (.bool (!r.isSome)) { s with toks := s.toks + 1 }) :
    wpAny (model prog w) A (compareOp .NotIn (.int i t) (.ref d)) Q E s :=
  wpAny_notIn_of (intKind_is prog w i t) lo (dict_map N hd hk) (by rw [hv]; exact h)
theorem op_notin0 {Q : Value → Shared → Prop} (N : News h₀ L s.heap news) (hd : (d, o) ∈ news) (lo : (d == sysModules) = false) (hk : o.IsDictOf (intKind prog w) kvs) (hv : valueAt kvs i = none) (h : Q (.bool true) { s with toks := s.toks + 1 }) :
    wpAny (model prog w) A (compareOp .NotIn (.int i t) (.ref d)) Q E s := op_notin N hd lo hk hv h
theorem op_notin1 {v : Value} {Q : Value → Shared → Prop} (N : News h₀ L s.heap news) (hd : (d, o) ∈ news) (lo : (d == sysModules) = false) (hk : o.IsDictOf (intKind prog w) kvs) (hv : valueAt kvs i = some v) (h : Q (.bool false) { s with toks := s.toks + 1 }) :
    wpAny (model prog w) A (compareOp .NotIn (.int i t) (.ref d)) Q E s := op_notin N hd lo hk hv h
theorem op_dset {g : Obj → List (Addr × Obj)} {D : List (PyData × PyData)} {x : Str} {tx : Tok} {Q : Unit → Shared → Prop} (F : Fr h₀ L s.heap m) (N : News h₀ L s.heap news) (U : UpdF d o news g) (hk : o.IsDictOf (intKind prog w) kvs) (hf : PyProof.V.FlatPairs PyData.int kvs D) (hsz : kvs.length ≤ 1000)
    (h : ∀ h' o' D', Fr h₀ L h' m → News h₀ L h' (g o') → o'.IsDictOf (intKind prog w) (stored kvs i (.str x tx)) → PyProof.V.FlatPairs PyData.int (stored kvs i (.str x tx)) D' → Q () { s with heap := h', toks := s.toks + 1 }) :
    wpAny (model prog w) A (setItem (.ref d) (.int i t) (.str x tx)) Q E s :=
  setItem_K PyProof.V.same_int (intKind_is prog w i t) (PyProof.V.Flat.str x tx) F N U hk hf (fun h' o' F' N' a b => h h' o' _ F' N' a b) (by rw [hf.length, sizeLine_eq]; omega)
theorem op_after {vs : Array Value} {n : Nat} {af : List Nat} {z : Int} {j : Nat} {Q : Value → Shared → Prop} (N : News h₀ L s.heap news) (hm : (a, listOf vs n) ∈ news) (hvs : ∀ i, i < 64 → ∃ t, vs[i]? = some (.int ((af.getD i 0 : Nat) : Int) t)) (e : z = (j : Int)) (hj : j < 64)
    (h : ∀ t', Q (.int ((af.getD j 0 : Nat) : Int) t') s) (hs : subscripted slice false (.ref a) (.int z t) = operate [.ref a, .int z t] (getItem (.ref a) (.int z t)) := by with_unfolding_all rfl) :
    wpAny (model prog w) A (subscriptTail value slice (.ref a) (.int z t)) Q E s := by
  have hl : s.heap.IsList a vs := ⟨_, (N _ hm).1, rfl, n, rfl⟩
  obtain ⟨t', ht⟩ := hvs j hj
  refine tail_any hl.typeIs slot_list_getitem.lookup (wpAny_getItem_list hl (by omega) (by omega) (x := .int ((af.getD j 0 : Nat) : Int) t') ?_ (h t')) hs
  rw [e, Int.toNat_natCast]; exact ht
theorem low_item : ∀ j : Nat, j < 64 → Txt.item (Str.ofString "()[]:,;+") (Int.fmod (j : Int) 8) = lowS j := by decide +kernel
theorem upp_item : ∀ j : Nat, j < 64 → Txt.item (Str.ofString "-*/|&<>=") (Int.fdiv (j : Int) 8) = uppS j := by decide +kernel
theorem op_low {j : Nat} {Q : Value → Shared → Prop} (hj : j < 64) (h : Q (.str (lowS j) s.toks) { s with toks := s.toks + 1 })
    (hs : subscripted slice false (.str (Str.ofString "()[]:,;+") t) (.int (Int.fmod (j : Int) 8) u) = operate [.str (Str.ofString "()[]:,;+") t, .int (Int.fmod (j : Int) 8) u] (getItem (.str (Str.ofString "()[]:,;+") t) (.int (Int.fmod (j : Int) 8) u)) := by with_unfolding_all rfl)
    (ht : ∀ r, letTemporaryGo value (.str (Str.ofString "()[]:,;+") t) r = pure () := by intro _; with_unfolding_all rfl) :
    wpAny (model prog w) A (subscriptTail value slice (.str (Str.ofString "()[]:,;+") t) (.int (Int.fmod (j : Int) 8) u)) Q E s := by
  have e : Int.fmod (j : Int) 8 = ((j % 8 : Nat) : Int) := by rw [Int.fmod_eq_emod_of_nonneg _ (by decide)]; rfl
  refine KXi.item (n := 8) (by decide +kernel) (by rw [e]; omega) (by rw [e]; omega) (by decide) (fun _ => ?_) hs ht
  rw [low_item j hj]; exact h
theorem op_upp {j : Nat} {Q : Value → Shared → Prop} (hj : j < 64) (h : Q (.str (uppS j) s.toks) { s with toks := s.toks + 1 })
    (hs : subscripted slice false (.str (Str.ofString "-*/|&<>=") t) (.int (Int.fdiv (j : Int) 8) u) = operate [.str (Str.ofString "-*/|&<>=") t, .int (Int.fdiv (j : Int) 8) u] (getItem (.str (Str.ofString "-*/|&<>=") t) (.int (Int.fdiv (j : Int) 8) u)) := by with_unfolding_all rfl)
    (ht : ∀ r, letTemporaryGo value (.str (Str.ofString "-*/|&<>=") t) r = pure () := by intro _; with_unfolding_all rfl) :
    wpAny (model prog w) A (subscriptTail value slice (.str (Str.ofString "-*/|&<>=") t) (.int (Int.fdiv (j : Int) 8) u)) Q E s := by
  have e : Int.fdiv (j : Int) 8 = ((j / 8 : Nat) : Int) := by rw [Int.fdiv_eq_ediv_of_nonneg _ (by decide)]; rfl
  refine KXi.item (n := 8) (by decide +kernel) (by rw [e]; omega) (by rw [e]; omega) (by decide) (fun _ => ?_) hs ht
  rw [upp_item j hj]; exact h
theorem dig_str : ∀ k, k < 6 → (toString ((k : Nat) : Int) : Str) = digS k := by decide +kernel
theorem op_strk {k : Nat} {Q : Value → Shared → Prop} (hk : k < 6) (h : Q (.str (digS k) s.toks) { s with toks := s.toks + 1 }) : wpAny (model prog w) A (call (.type "str") [.int (k : Int) t]) Q E s := by
  have hl : ∀ k, k < 6 → ((k : Nat) : Int).natAbs.log2 < 1920 := by decide +kernel
  refine P.str_of_int (hl k hk) ?_
  rw [dig_str k hk]; exact h
theorem op_addp {ds : List Nat} {k : Nat} {Q : Value → Shared → Prop} (hl : ds.length ≤ 100) (h : ∀ t' tk, Q (.str (pathS (ds ++ [k])) t') { s with toks := tk }) : wpAny (model prog w) A (binaryOp .Add (.str (pathS ds) t) (.str (digS k) u)) Q E s := by
  have e : (pathS ds).length = ds.length := by show (List.toArray _).size = _; simp
  have e2 : (digS k).length = 1 := rfl
  refine add_str (fun t' tk => ?_) (by rw [e, e2, sizeLine_eq]; omega)
  rw [pathS_snoc]; exact h t' tk
theorem left_eq {f i : Nat} (h : f / 2 ^ i % 2 = 1) : ((f : Int) - 1 * 2 ^ (i : Int).toNat) = ((f - 2 ^ i : Nat) : Int) := by
  have h3 : f / 2 ^ i ≠ 0 := fun e => by rw [e] at h; cases h
  have hle : 2 ^ i ≤ f := by
    rcases Nat.lt_or_ge f (2 ^ i) with c | c
    · exact absurd (Nat.div_eq_of_lt c) h3
    · exact c
  rw [pow_int]
  omega
theorem sh_val (f i : Nat) : Builtin.bitAnd ((f : Int).fdiv (2 ^ (i : Int).toNat)) 1 = ((f / 2 ^ i % 2 : Nat) : Int) := by
  have e := pow_int i
  rw [Int.one_mul] at e
  rw [bitAnd_m1, e, Int.fdiv_eq_ediv_of_nonneg _ (Int.natCast_nonneg _)]
  rfl
theorem sh_on {f i : Nat} (h : Builtin.bitAnd ((f : Int).fdiv (2 ^ (i : Int).toNat)) 1 ≠ 0) : f / 2 ^ i % 2 = 1 := by
  rw [sh_val] at h
  have : f / 2 ^ i % 2 ≠ 0 := fun e => h (by rw [e]; rfl)
  omega
theorem sh_off {f i : Nat} (h : Builtin.bitAnd ((f : Int).fdiv (2 ^ (i : Int).toNat)) 1 = 0) : ¬ f / 2 ^ i % 2 = 1 := by
  rw [sh_val] at h
  intro e
  rw [e] at h
  cases h
end
def CutP (P : Value → Prop) (s : Shared) (v : Value) (s' : Shared) : Prop := P v ∧ ∃ tk, s' = { s with toks := tk }
theorem wp_cut {M : Model} {A : Around} {e : Sem Value} {E : Value → Shared → Prop} {Q : Value → Shared → Prop} {P : Value → Prop} {s : Shared} (h1 : wpAny M A e (CutP P s) E s) (h2 : ∀ v tk, P v → Q v { s with toks := tk }) : wpAny M A e Q E s :=
  wpAny_mono h1 (fun v _ ⟨hP, tk, e⟩ => e ▸ h2 v tk hP) fun _ _ e => e
theorem newsTail {h₀ h : Heap} {L : Addr} {news : List (Addr × Obj)} {q : Addr × Obj} (N : News h₀ L h (q :: news)) : News h₀ L h news := fun p hp => N p (.tail _ hp)
theorem deep_hh {A : Around} {e : Env} (h : A.handled = none) : (A.deeper e).handled = none := h
theorem nwc {h₀ h : Heap} {L : Addr} {news news' : List (Addr × Obj)} {q : Addr × Obj} (N : News h₀ L h news) (hm : q ∈ news) (N' : News h₀ L h news') : News h₀ L h (q :: news') := fun p hp => (List.mem_cons.mp hp).elim (fun e => e ▸ N q hm) (N' p)
theorem keep_shape {h₀ h : Heap} {L : Addr} {c0 c1 c2 c3 c4 c5 : Addr × Obj} {t rest own : List (Addr × Obj)} (N : News h₀ L h (c0 :: c1 :: c2 :: c3 :: c4 :: c5 :: (t ++ (rest ++ own)))) : News h₀ L h ((c0 :: c1 :: c2 :: c3 :: c4 :: c5 :: (t ++ rest)) ++ own) := by
  simpa only [List.cons_append, List.append_assoc] using N
theorem ne_shape {I : Addr} {c0 c1 c2 c3 c4 c5 : Addr × Obj} {qs : List Tp} {q : Tp} {rest : List (Addr × Obj)} (h0 : c0.1 ≠ I) (h1 : c1.1 ≠ I) (h2 : c2.1 ≠ I) (h3 : c3.1 ≠ I) (h4 : c4.1 ≠ I) (h5 : c5.1 ≠ I)
    (hr : ∀ p ∈ qs.map (fun q => (q.at_, q.obj)) ++ rest, p.1 ≠ I) (hq : q.at_ ≠ I) : ∀ p ∈ c0 :: c1 :: c2 :: c3 :: c4 :: c5 :: ((qs ++ [q]).map (fun q => (q.at_, q.obj)) ++ rest), p.1 ∉ [I] := by
  intro p hp hm
  have e := List.mem_singleton.mp hm
  simp only [List.map_append, List.map_cons, List.map_nil, List.append_assoc, List.cons_append, List.nil_append, List.mem_cons, List.mem_append] at hp hr
  rcases hp with rfl | rfl | rfl | rfl | rfl | rfl | hp | rfl | hp
  · exact h0 e
  · exact h1 e
  · exact h2 e
  · exact h3 e
  · exact h4 e
  · exact h5 e
  · exact hr p (.inl hp) e
  · exact hq e
  · exact hr p (.inr hp) e
theorem push_shape {h₀ h : Heap} {L x dx l : Addr} {S q : Tp} {qs : List Tp} {n : Nat} {c1 c2 c3 c4 c5 : Addr × Obj} {rest own : List (Addr × Obj)} (e : l = q.at_)
    (N : News h₀ L h ((l, q.obj) :: (x, accO dx ((refsOfT (S :: qs)).push (.ref l)) n) :: c1 :: c2 :: c3 :: c4 :: c5 :: (qs.map (fun q => (q.at_, q.obj)) ++ (rest ++ own)))) :
    News h₀ L h (((x, accO dx (refsOfT (S :: (qs ++ [q]))) n) :: c1 :: c2 :: c3 :: c4 :: c5 :: ((qs ++ [q]).map (fun q => (q.at_, q.obj)) ++ rest)) ++ own) := by
  subst e
  have e2 : (refsOfT (S :: qs)).push (.ref q.at_) = refsOfT (S :: (qs ++ [q])) := by simp [refsOfT]
  rw [e2] at N
  intro p hp
  apply N p
  simp only [List.map_append, List.map_cons, List.map_nil, List.cons_append, List.append_assoc, List.nil_append, List.mem_cons, List.mem_append] at hp ⊢
  rcases hp with hp | hp | hp | hp | hp | hp | hp | hp | hp | hp <;> simp [hp]
end Mine
end
section
set_option maxRecDepth 100000
set_option maxHeartbeats 8000000
open PySem PySem.W PyProof.Rows PySem.Calls
namespace Mine
local macro_rules | `(tactic| k_ne) => `(tactic| ((try dsimp only); first | assumption | (apply Ne.symm; assumption) | exact Nat.ne_of_lt (by assumption) | exact Nat.ne_of_gt (by assumption) | exact Nat.ne_of_lt (by omega) | exact Nat.ne_of_gt (by omega)))
local macro_rules | `(tactic| k_all) => `(tactic| first | assumption | exact fun p hp => Nat.ne_of_lt (allLt_mem (by assumption) p hp) | (intro p' hp'; repeat' (first | (refine Nat.ne_of_lt ?_; revert hp'; revert p'; assumption) | (revert hp'; revert p'; assumption) | (refine Or.elim (List.mem_cons.mp hp') (fun e' => by subst e'; k_ne) ?_; clear hp'; intro hp'))))
local macro_rules | `(tactic| k_inst) => `(tactic| (refine' acc_inst ?N ?h1 ?h2; (case N => k_asm); (case h1 | h2 => k_mem)))
local macro_rules | `(tactic| walk_at "getMethod ref") => `(tactic| (k_here; (with_reducible show wpAny _ _ (getMethod (Value.ref _) (PySem.Str.ofString "__len__") _) _ _ _); k_dflt (refine' m_len ?F ?X ?N ?so ?x ?_; (case F | X | N => k_asm); (case so | x => k_mem)); intro q' h' F' N' l1; (try k_lt l1)))
local macro_rules | `(tactic| walk_at "getMethod ref") => `(tactic| (k_here; (with_reducible show wpAny _ _ (getMethod (Value.ref _) (PySem.Str.ofString "__init__") _) _ _ _); k_dflt (refine' m_init ?F ?X ?N ?so ?x ?_; (case F | X | N => k_asm); (case so | x => k_mem)); intro q' h' F' N' l1; (try k_lt l1)))
local macro_rules | `(tactic| walk_at "getMethod ref") => `(tactic| (k_here; (with_reducible show wpAny _ _ (getMethod (Value.ref _) (PySem.Str.ofString "pop") _) _ _ _); k_dflt (refine' m_pop ?F ?X ?N ?so ?x ?_; (case F | X | N => k_asm); (case so | x => k_mem)); intro q' h' F' N' l1; (try k_lt l1)))
local macro_rules | `(tactic| walk_at "callWith ref nil") => `(tactic| (k_here; k_dflt (refine' bnd_callWith ?N ?u ?a ?b ?_; (case N => k_asm); (case u => k_mem); (case a | b => decide))))
local macro_rules | `(tactic| walk_at "call ref nil nil") => `(tactic| (k_here; k_dflt (refine' op_len ?N ?q ?x ?_; (case N => k_asm); (case q | x => k_mem))))
local macro_rules | `(tactic| walk_at "call ref nil nil") => `(tactic| (k_here; k_dflt (refine' op_init ?F ?N ?q ?U ?_; (case F | N => k_asm); (case q => k_mem); (case U => k_upd)); intro h' F' N'))
local macro_rules | `(tactic| walk_at "wpAt") => `(tactic| (k_dflt ((show PySem.wpAt _ _ _ (execs (_ :: _) _) _ _ _); refine ks_wpAt_execs_cons ?_)))
local macro_rules | `(tactic| walk_at "wpAt") => `(tactic| (k_dflt ((show PySem.wpAt _ _ _ (eval (Expr.Call (Expr.Attribute (Expr.Call _ _ _ _) _ _) _ _ _) _) _ _ _); refine ks_wpAt_MethodCall ?_)))
local macro_rules | `(tactic| walk_at "setAttr ref") => `(tactic| (k_here; k_dflt (refine' acc_setU ?F ?X ?N ?I ?d ?U ?_; (case F | X | N => k_asm); (case I => k_inst); (case d => exact rfl); (case U => k_upd)); intro h' F' N'))
local macro_rules | `(tactic| walk_at "my_enterL") => `(tactic| (refine' code_defL ?k1 ?k2 ?k3 ?k4 ?k5 ?kA ?kF ?kK ?k6 ?k7 ?k8 ?k9 ?kB ?_ ?c2 ?c3 ?c4 ?c5; (case kA | kF | kK | k1 | k2 | k3 | k4 | k5 => assumption); (case k6 | k7 => k_is); (case k8 => exact Nat.lt_of_lt_of_le (by assumption) (by decide)); (case k9 => first | exact BindsTo.of_eq rfl | exact binds_K (by k_in) rfl (by k_is) rfl rfl rfl); (case c5 => decide); (case kB => exact locs rfl); (case c2 | c3 | c4 => exact rfl); k_whole; intro g' L' h' FG' F' N' B' X' T' st' l1; (try dsimp only); (try k_fold)))
local macro_rules | `(tactic| walk_at "getAttr ref") => `(tactic| (k_here; k_dflt (refine' acc_getSize ?X ?I ?_; (case X => k_in); (case I => k_inst))))

def stepK (af : List Nat) (f : Nat) (ds : List Nat) : List Nat → List (Nat × List Nat) → List Nat → Sum (List Nat) (List (Nat × List Nat) × List Nat)
  | [], tr, q => .inr (tr, q)
  | k :: ks, tr, q => if f / 2 ^ k % 2 = 1 then (if f - 2 ^ k = 0 then .inl (ds ++ [k]) else
      match tr.lookup (af.getD (f - 2 ^ k) 0) with
      | some _ => stepK af f ds ks tr q
      | none => stepK af f ds ks ((af.getD (f - 2 ^ k) 0, ds ++ [k]) :: tr) (q ++ [af.getD (f - 2 ^ k) 0])) else stepK af f ds ks tr q
def loopP (af : List Nat) : Nat → List (Nat × List Nat) → List Nat → Option (List Nat)
  | 0, _, _ => none
  | _ + 1, _, [] => some []
  | n + 1, tr, f :: q => match tr.lookup f with
    | none => none
    | some ds => match stepK af f ds (List.range 6) tr q with
      | .inl r => some r
      | .inr x => loopP af n x.1 x.2
local macro_rules | `(tactic| walk_at "exec While") => `(tactic| (k_here; refine halt ?_))
local macro_rules | `(tactic| walk_at "exec For") => `(tactic| (k_here; refine halt ?_))
abbrev tpsOf (qs : List Tp) : List (Addr × Obj) := qs.map fun q => (q.at_, q.obj)
theorem qs_cons {q0 : Tp} {qs : List Tp} {l : List (Addr × Obj)} (h0 : (q0.at_, q0.obj) ∈ l) (h : ∀ q ∈ qs, (q.at_, q.obj) ∈ l) : ∀ q ∈ q0 :: qs, (q.at_, q.obj) ∈ l := fun q hq => (List.mem_cons.mp hq).elim (fun e => e ▸ h0) (h q)
theorem qs_app {qs : List Tp} {l : List (Addr × Obj)} : ∀ q ∈ qs, (q.at_, q.obj) ∈ tpsOf qs ++ l := fun _ hq => List.mem_append_left _ (List.mem_map_of_mem hq)
theorem qs_tail {qs : List Tp} {l : List (Addr × Obj)} {p : Addr × Obj} (h : ∀ q ∈ qs, (q.at_, q.obj) ∈ l) : ∀ q ∈ qs, (q.at_, q.obj) ∈ p :: l := fun q hq => .tail _ (h q hq)
theorem pick1 (v : Value) : slicePick #[v] none (some 1) none = #[v] := by
  have := pick_upto' #[v] 1 (Nat.le_refl _)
  exact this
local macro_rules | `(tactic| walk_at "subscriptTail Name Slice ref ref") => `(tactic| (k_here; k_dflt (refine' op_subTail ?F ?X ?N ?m ?p ?q ?z ?_ ?s ?t; (case F | X | N => k_asm); (case m => k_mem); (case p | q => kmk_part); (case z => exact Nat.le_of_ble_eq_true rfl); (case s => with_unfolding_all rfl); (case t => kmk_pure)); intro D' h' F' N' l1; rw [pick1] at N'; (try k_lt l1)))
theorem op_cat {prog : Program} {w : World} {A : Around} {E : Value → Shared → Prop} {s : Shared} {h₀ : Heap} {L a b : Addr} {m : Str → Option Value} {news : List (Addr × Obj)} {v : Value} {vs : List Value} {Q : Value → Shared → Prop}
    (F : Fr h₀ L s.heap m) (N : News h₀ L s.heap news) (ha : (a, listOf #[v] 0) ∈ news) (hb : (b, listOf vs.toArray 0) ∈ news) (hz : vs.length + 2 ≤ sizeLine)
    (h : ∀ D h', Fr h₀ L h' m → News h₀ L h' ((D, listOf (v :: vs).toArray 0) :: news) → (∀ p ∈ news, p.1 < D) → Q (.ref D) { s with heap := h' }) : wpAny (model prog w) A (binaryOp .Add (.ref a) (.ref b)) Q E s :=
  kmk_add_lit F N ⟨_, (N _ ha).1, rfl, 0, rfl⟩ ⟨_, (N _ hb).1, rfl, 0, rfl⟩ (zs := v :: vs) (by simp) h (by simp; omega)
local macro_rules | `(tactic| walk_at "binaryOp Add ref ref") => `(tactic| (k_here; (with_reducible show wpAny _ _ (binaryOp _ (Value.ref _) (Value.ref _)) _ _ _); k_dflt (refine' op_cat ?F ?N ?a ?b ?z ?_; (case F | N => k_asm); (case a | b => k_mem); (case z => assumption)); intro D' h' F' N' l1; (try k_lt l1)))
local macro_rules | `(tactic| walk_at "subscriptTail") => `(tactic| (k_here; (with_reducible show wpAny _ _ (subscriptTail _ _ (Value.ref 114) (Value.str _ _)) _ _ _); k_dflt (refine' topItem_K ?F ?X ?l ?k ?e ?_; (case F | X => k_asm); (case l => k_is); (case k => k_keys); (case e => assumption))))
local macro_rules | `(tactic| walk_at "exec For Name Call cons nil") => `(tactic| (refine halt ?_))
local macro_rules | `(tactic| walk_at "pyIter ref") => `(tactic| (k_here; refine halt ?_))
local macro_rules | `(tactic| walk_at "assign Tuple") => `(tactic| (k_here; (with_reducible show wpAny _ _ (assign (Expr.Tuple _ _ _) _ (Value.ref _)) _ _ _); k_dflt (refine' unpackN_ ?F ?N ?T ?k1 ?k2 ?k3 ?_; (case F | N => k_asm); (case T => (refine News.isTup (by k_asm) (by k_mem))); (case k1 => exact deep_hh (by assumption)); (case k2 | k3 => exact rfl)); intro h' F' N'))
local macro_rules | `(tactic| walk_at "eval Name") => `(tactic| (k_here; (with_reducible show wpAny _ _ (eval (Expr.Name _ _) (envOf _ _ _ _ _)) _ _ _); k_dflt (refine' ldK ?F ?hv ?_; (case F => k_asm); (case hv => first | (with_reducible assumption) | ((try dsimp only); (repeat (refine look_on (by decide +kernel) ?_)); first | exact look_here (by decide +kernel) rfl | (with_reducible assumption) | rfl)))))
local macro_rules | `(tactic| walk_at "call builtin:len") => `(tactic| (k_here; k_dflt (refine' len_acc ?B ?F ?X ?N ?T ?G ?hA ?hf ?hke ?room ?hh ?hC ?U ?tab ?hk ?hx ?hdx ?hqs ?hq71 ?hsm ?x71 ?d71 ?hz ?z0 ?z1 ?_; (case B | F | X | N | T => k_asm); (case G => first | assumption | (dsimp only; assumption)); (case hA => exact deep_frames (by assumption)); (case hf | hke => exact rfl); (case room => exact deep_depth (by assumption) (by decide)); (case hh => first | assumption | with_unfolding_all assumption); (case hC => assumption); (case U => k_updF); (case tab | hk => assumption); (case hx | hdx => k_mem); (case hqs => (repeat' (refine qs_cons ?_ ?_; focus (repeat (first | exact List.Mem.head _ | apply List.Mem.tail)))); repeat (first | exact qs_app | apply qs_tail)); (case hq71 | hsm => assumption); (case x71 | d71 => k_ne); (case hz => assumption); (case z0 | z1 => omega)); intro h' tk' gs' pz' t' F' N' htab' G'; (try dsimp only at N')))
/-- the state at the head of the while -/
def LkJ (prog : Program) (w : World) (g : Heap) (L x dx d a : Addr) (vs : Array Value) (n : Nat) (rest : List (Addr × Obj)) (s₀ : Shared) (af res : List Nat) (fuel : Nat) (s₁ : Shared) : Prop :=
  ∃ h' tk gs m₁ tkk kk tt its nn pz o kvs S qs fl tr, s₁ = { s₀ with heap := h', toks := tk, gens := gs } ∧ AllBare gs ∧ Fr g L h' m₁ ∧
    News g L h' ((x, accO dx its nn) :: (dx, dictI w tkk kk tt) :: (d, o) :: (a, listOf vs n) :: (71, tabObj pz) :: (S.at_, S.obj) :: (tpsOf qs ++ rest)) ∧
    its = refsOfT (S :: qs) ∧ TabOk tabPos pz ∧ (kk = 0 ∨ (kk = 5 ∧ fl ≠ [])) ∧ o.IsDictOf (intKind prog w) kvs ∧ TrOk kvs tr ∧ QsOk qs fl ∧ (∀ f ∈ fl, f < 64) ∧ loopP af fuel tr fl = some res ∧
    m₁ ("after" : Str) = some (.ref a) ∧ m₁ ("trail" : Str) = some (.ref d) ∧ m₁ ("line" : Str) = some (.ref x) ∧ (S.a = Str.ofString "" ∧ S.b = Str.ofString "." ∧ x < S.at_) ∧ (∀ q ∈ qs, x < q.at_) ∧ fl.length + 6 * fuel ≤ 600 ∧ kvs.length + 6 * fuel ≤ 600 ∧ (∃ D, PyProof.V.FlatPairs PyData.int kvs D) ∧ (∀ j e, tr.lookup j = some e → e.length + fuel ≤ 91)

/-- the state ahead of turn i of the for over the rooms -/
def KJ (prog : Program) (w : World) (x dx d a : Addr) (vs : Array Value) (n : Nat) (pz : Array Value) (S : Tp) (rest : List (Addr × Obj)) (af : List Nat) (f : Nat) (ds : List Nat) (tr0 : List (Nat × List Nat)) (fl0 : List Nat) (kn fu : Nat) (i : Nat) (m₁ : Str → Option Value) (nw : List (Addr × Obj)) : Prop :=
  ∃ tkk tt nn o kvs qs fl tr tf, nw = (x, accO dx (refsOfT (S :: qs)) nn) :: (dx, dictI w tkk 0 tt) :: (d, o) :: (a, listOf vs n) :: (71, tabObj pz) :: (S.at_, S.obj) :: (tpsOf qs ++ rest) ∧ o.IsDictOf (intKind prog w) kvs ∧ TrOk kvs tr ∧ QsOk qs fl ∧ (∀ f ∈ fl, f < 64) ∧ (∀ q ∈ qs, x < q.at_) ∧
    tr.lookup f = some ds ∧ stepK af f ds ((List.range 6).drop i) tr fl = stepK af f ds (List.range 6) tr0 fl0 ∧ fl.length ≤ fl0.length + i ∧ kvs.length ≤ kn + i ∧ (∃ D, PyProof.V.FlatPairs PyData.int kvs D) ∧ (∀ j e, tr.lookup j = some e → e.length ≤ 91 - fu) ∧
    m₁ ("after" : Str) = some (.ref a) ∧ m₁ ("trail" : Str) = some (.ref d) ∧ m₁ ("line" : Str) = some (.ref x) ∧ m₁ ("flags" : Str) = some (.int (f : Int) tf)
section
variable {w : World} {A₀ A : Around} {s : Shared} {base h₀ : Heap} {outer : List Env} {L : Addr} {m mg mb : Str → Option Value} {env : Env} {news : List (Addr × Obj)} {loose : List Str} {mean : ExcName → Option Value} {R : Result → Shared → Prop} {x dx a : Addr} {od : Obj} {p : Program}
local macro_rules | `(tactic| walk_at "call ref") => `(tactic| (k_here; (with_reducible show wpAny _ _ (call (Value.ref 53) _ _) _ _ _); refine wpAny_call ?_; k_dflt (refine' push_okU ?B ?F ?X ?N ?T ?hA ?hf ?hke ?room ?U ?dx ?x2 ?sz ?od ?_; (case B | F | X | N | T => k_asm); (case hA => exact deep_frames (by assumption)); (case hf | hke => exact rfl); (case room => exact deep_depth (by assumption) (by decide)); (case U => k_updF); (case dx => k_mem); (case x2 => k_ne); (case sz => first | assumption | exact Nat.le_of_ble_eq_true rfl | (simp; omega)); (case od => exact rfl)); intro h' tk' l' F' N' l1; (try dsimp only at N'); (try k_lt l1)))
local macro_rules | `(tactic| walk_at "call ref") => `(tactic| (k_here; (with_reducible show wpAny _ _ (call (Value.ref 69) _ _) _ _ _); refine wpAny_call ?_; k_dflt (refine' pop2_okU ?B ?F ?X ?N ?T ?hA ?hf ?hke ?room ?U ?dx ?x2 ?od ?_; (case B | F | X | N | T => k_asm); (case hA => exact deep_frames (by assumption)); (case hf | hke => exact rfl); (case room => exact deep_depth (by assumption) (by decide)); (case U => k_updF); (case dx => k_mem); (case x2 => k_ne); (case od => exact rfl)); intro h' tk' F' N'; (try dsimp only at N')))
local macro_rules | `(tactic| walk_at "call ref") => `(tactic| (k_here; (with_reducible show wpAny _ _ (call (Value.ref 69) _ _) _ _ _); refine wpAny_call ?_; k_dflt (refine' pop1_okU ?B ?F ?X ?N ?T ?hA ?hf ?hke ?room ?U ?dx ?x2 ?od ?_; (case B | F | X | N | T => k_asm); (case hA => exact deep_frames (by assumption)); (case hf | hke => exact rfl); (case room => exact deep_depth (by assumption) (by decide)); (case U => k_updF); (case dx => k_mem); (case x2 => k_ne); (case od => exact rfl)); intro h' tk' F' N'; (try dsimp only at N')))
local macro_rules | `(tactic| walk_at "call ref") => `(tactic| (k_here; (with_reducible show wpAny _ _ (call (Value.ref 69) _ _) _ _ _); refine wpAny_call ?_; k_dflt (refine' pop0_okU ?B ?F ?X ?N ?T ?hA ?hf ?hke ?room ?hx ?dx ?od ?_; (case B | F | X | N | T => k_asm); (case hA => exact deep_frames (by assumption)); (case hf | hke => exact rfl); (case room => exact deep_depth (by assumption) (by decide)); (case hx | dx => k_mem); (case od => exact rfl)); intro h' tk' l' ta' tb' F' N'))
local macro_rules | `(tactic| walk_at "call ref") => `(tactic| (k_here; (with_reducible show wpAny _ _ (call (Value.ref 61) _ _) _ _ _); refine wpAny_call ?_; k_dflt (refine' from2_okU ?B ?F ?X ?N ?T ?hA ?hf ?hke ?room ?U ?sz ?_; (case B | F | X | N | T => k_asm); (case hA => exact deep_frames (by assumption)); (case hf | hke => exact rfl); (case room => exact deep_depth (by assumption) (by decide)); (case U => k_updF); (case sz => assumption)); intro h' tk' l' n' F' N' l1; (try dsimp only at N'); (try k_lt l1)))
local macro_rules | `(tactic| walk_at "call ref") => `(tactic| (k_here; (with_reducible show wpAny _ _ (call (Value.ref 91) _ _) _ _ _); refine wpAny_call ?_; k_dflt (refine' reset_okU ?B ?F ?X ?N ?T ?hA ?hf ?hke ?room ?U ?U2 ?v ?x2 ?x3 ?x4 ?sz ?_; (case B | F | X | N | T => k_asm); (case hA => exact deep_frames (by assumption)); (case hf | hke => exact rfl); (case room => exact deep_depth (by assumption) (by decide)); (case U => k_updF); (case U2 => intro n'; k_updF); (case v => k_mem); (case x2 | x3 | x4 => k_ne); (case sz => (simp; omega))); intro h' tk' n' t' F' N'; (try dsimp only at N')))
local macro_rules | `(tactic| walk_at "call ref") => `(tactic| (k_here; (with_reducible show wpAny _ _ (call (Value.ref 109) _ _) _ _ _); refine wpAny_call ?_; k_dflt (refine' make_ok ?B ?F ?X ?N ?T ?hA ?hf ?hke ?room ?_; (case B | F | X | N | T => k_asm); (case hA => exact deep_frames (by assumption)); (case hf | hke => exact rfl); (case room => exact deep_depth (by assumption) (by decide))); intro h' tk' tk2 x' dx' F' N' l1 l2; have l3 := fun p hp => Nat.lt_trans (l1 p hp) l2))
theorem tr_one (j : Nat) (ds : List Nat) (t : Tok) : TrOk [((j : Int), .str (pathS ds) t)] [(j, ds)] := by
  intro i
  by_cases hij : i = j
  · subst hij
    simp only [List.lookup_cons, beq_self_eq_true]
    exact ⟨t, by simp [valueAt]⟩
  · have hb : (i == j) = false := by simpa using hij
    have hji : ¬ ((j : Int) = (i : Int)) := by omega
    simp only [List.lookup_cons, hb, List.lookup_nil]
    simp [valueAt, hji]
local macro_rules | `(tactic| walk_at "call ref") => `(tactic| (k_here; (with_reducible show wpAny _ _ (call (Value.ref 123) _ _) _ _ _); refine wpAny_call ?_; k_dflt (refine' iseof_val ?B ?F ?X ?N ?T ?hA ?hf ?hke ?room ?hb ?_; (case hb => with_reducible assumption); (case B | F | X | N | T => k_asm); (case hA => exact deep_frames (by assumption)); (case hf | hke => exact rfl); (case room => exact deep_depth (by assumption) (by decide))); intro h' tk' F' N'))
local macro_rules | `(tactic| walk_at "subscriptTail Name Name ref int") => `(tactic| (k_here; (with_reducible show wpAny _ _ (subscriptTail _ _ (Value.ref _) (Value.int _ _)) _ _ _); k_dflt (refine' op_dget ?dN ?dd ?dk ?dv ?_ ?ds; (case dN => k_asm); (case dv => with_reducible assumption); (case dd => k_mem); (case dk => with_reducible assumption); (case ds => with_unfolding_all rfl))))
local macro_rules | `(tactic| walk_at "subscriptTail Name Name ref int") => `(tactic| (k_here; (with_reducible show wpAny _ _ (subscriptTail _ _ (Value.ref _) (Value.int _ _)) _ _ _); k_dflt (refine' op_after ?dN ?dm ?dv ?de ?dj ?_ ?ds; (case dN => k_asm); (case dv => with_reducible assumption); (case dm => k_mem); (case de => first | exact rfl | with_reducible assumption); (case dj => with_reducible assumption); (case ds => with_unfolding_all rfl)); intro t'))
local macro_rules | `(tactic| walk_at "compareOp NotIn int ref") => `(tactic| (k_here; k_dflt (refine' op_notin0 ?dN ?dd ?dl ?dk ?dv ?_; (case dN => k_asm); (case dv => with_reducible assumption); (case dd => k_mem); (case dl | dk => with_reducible assumption))))
local macro_rules | `(tactic| walk_at "compareOp NotIn int ref") => `(tactic| (k_here; k_dflt (refine' op_notin1 ?dN ?dd ?dl ?dk ?dv ?_; (case dN => k_asm); (case dv => with_reducible assumption); (case dd => k_mem); (case dl | dk => with_reducible assumption))))
local macro_rules | `(tactic| walk_at "setItem ref int") => `(tactic| (k_here; k_dflt (refine' op_dset ?dF ?dN ?dU ?dk ?df ?dz ?_; (case dF | dN => k_asm); (case dU => k_updF); (case dk | df | dz => with_reducible assumption)); intro h' o' D' F' N' hd' hf'; (try dsimp only at N')))
local macro_rules | `(tactic| walk_at "call type:str") => `(tactic| (k_here; k_dflt (refine' op_strk ?dj ?_; (case dj => with_reducible assumption))))
local macro_rules | `(tactic| walk_at "binaryOp Add str str") => `(tactic| (k_here; (with_reducible show wpAny _ _ (binaryOp _ (Value.str (pathS _) _) (Value.str (digS _) _)) _ _ _); k_dflt (refine' op_addp ?dl ?_; (case dl => with_reducible assumption)); intro t' tk'))
local macro_rules | `(tactic| walk_at "eval IfExp") => `(tactic| (k_here; refine halt ?_))
theorem looks_ok {vs : Array Value} {n : Nat} {pz : Array Value} {af res : List Nat} (B : Below A₀ base outer h₀) (F : Fr h₀ L s.heap m) (X : (MineH.hd.heap_1 w.params).In h₀) (N : News h₀ L s.heap ((a, listOf vs n) :: (71, tabObj pz) :: news)) (T : Top p loose mean mg mb h₀) (G : AllBare s.gens)
    (hA : A.frames = some (env :: outer)) (hf : env.frame = some L) (hke : env.scope.kind = .function) (hroom : A.depth < 880) (hh : A.handled = none) (hC : CodeHd h₀ 75 71) (htab : TabOk tabPos pz)
    (hvs : ∀ i, i < 64 → ∃ t, vs[i]? = some (.int (af.getD i 0) t)) (haf : ∀ i, i < 64 → af.getD i 0 < 64) (hloop : loopP af 90 [(63, [])] [63] = some res) (ha71 : a ≠ 71) (hna : ∀ p ∈ news, p.1 ≠ a) (hn71 : ∀ p ∈ news, p.1 ≠ 71)
    (h : ∀ h' tk gs t pz', Fr h₀ L h' m → News h₀ L h' ((a, listOf vs n) :: (71, tabObj pz') :: news) → TabOk tabPos pz' → AllBare gs → R (.ok (.ret (.str (pathS res) t))) { s with heap := h', toks := tk, gens := gs }) :
    codeAny (model PySem.Challenge.rw_wk0026_01.row.prog w) A (.call (.ref 147) ⟨[.ref a], []⟩) R s := by
  revert X; k_fill; intro X
  k_dflt (walk_at "my_enterL")
  k_steps
  rename_i g1 L1 h6 FG B1 X1 T1 st1 l1a tk9 h5 o1 lo1 hd1 hf1 ap1 l1b h4 h3 tk8 tk7 x1 dx1 l1c l2a l3a h2 F2 N2 h1 tk1 lS F1 N1 l1d h0 tk0 lQ F0 N0 l1e
  have hap71 : (71 : Nat) ≠ h6.objs.size := ap1 (71, tabObj pz) (.tail _ (.head _))
  have lt71 : 71 < dx1 := l1c (71, tabObj pz) (.tail _ (.tail _ (.head _)))
  have lta : a < dx1 := l1c (a, listOf vs n) (.tail _ (.head _))
  have ltd : h6.objs.size < dx1 := l1c (h6.objs.size, o1) (.head _)
  have ltn : ∀ p ∈ news, p.1 < dx1 := fun p hp => l1c p (.tail _ (.tail _ (.tail _ hp)))
  have ltnd : ∀ p ∈ news, p.1 ≠ h6.objs.size := fun p hp => ap1 p (.tail _ (.tail _ hp))
  have NN := nwc N0 (.tail _ (.tail _ (.head _))) (nwc N0 (.tail _ (.tail _ (.tail _ (.head _)))) (nwc N0 (.tail _ (.tail _ (.tail _ (.tail _ (.head _))))) (nwc N0 (.tail _ (.tail _ (.tail _ (.tail _ (.tail _ (.head _)))))) (nwc N0 (.tail _ (.tail _ (.tail _ (.tail _ (.tail _ (.tail _ (.head _))))))) (nwc N0 (.tail _ (.head _)) (nwc N0 (.head _) (byMem N0 (news' := news) fun p hp => .tail _ (.tail _ (.tail _ (.tail _ (.tail _ (.tail _ (.tail _ hp))))))))))))) 
  refine wpAny_While (while_my (LkJ PySem.Challenge.rw_wk0026_01.row.prog w g1 L1 x1 dx1 h6.objs.size a vs n news s af res) (n₀ := 90)
    ⟨h0, tk0, s.gens, _, _, 5, _, _, _, pz, o1, _, ⟨lS, Str.ofString "", _, Str.ofString ".", _⟩, [⟨lQ, Str.ofString "+", _, Str.ofString "=", _⟩], [63], [(63, [])], rfl, G, F0, NN, ?its, htab, .inr ⟨rfl, by simp⟩, hd1, ?tr, rfl, by simp, hloop, rfl, rfl, rfl, ⟨rfl, rfl, l1d.1⟩, ?lq, by simp, ?_, ⟨_, hf1⟩, ?tl⟩ ?turn)
  case tl =>
    intro j e he
    simp only [List.lookup_cons, List.lookup_nil] at he
    split at he
    · cases he; exact Nat.le_of_ble_eq_true rfl
    · cases he
  case lq => intro q hq; rw [List.mem_singleton.mp hq]; exact l1e.2.1
  case its => simp [refsOfT]
  case tr => exact tr_one 63 [] _
  · exact Nat.le_of_ble_eq_true rfl
  case turn =>
  intro fuel s₁ hJ
  obtain ⟨h', tk, gs, m₁, tkk, kk, tt, its, nn, pz, o, kvs, ⟨lS, sa, ta, sb, tb⟩, qs, fl, tr, rfl, G1, F1, N1, rfl, htab1, hkk, hd2, htr, hqs, hfl, hlp, ma, mt, ml, ⟨rfl, rfl, hltS⟩, hlt, hb1, hb2, hD2, htl⟩ := hJ
  dsimp only at hltS
  have hS71 : lS ≠ 71 := Nat.ne_of_gt (Nat.lt_trans lt71 (Nat.lt_trans l2a hltS))
  have hSx : lS ≠ x1 := Nat.ne_of_gt hltS
  have hx71 : x1 ≠ 71 := Nat.ne_of_gt (Nat.lt_trans lt71 l2a)
  have hdx71 : dx1 ≠ 71 := Nat.ne_of_gt lt71
  have hd71 : h6.objs.size ≠ 71 := Ne.symm hap71
  have hq71 : ∀ q ∈ qs, q.at_ ≠ 71 := fun q hq => Nat.ne_of_gt (Nat.lt_trans lt71 (Nat.lt_trans l2a (hlt q hq)))
  have ht71 : ∀ p ∈ tpsOf qs ++ news, p.1 ≠ 71 := fun p hp => (List.mem_append.mp hp).elim (fun hp => by obtain ⟨q, hq, rfl⟩ := List.mem_map.mp hp; exact hq71 q hq) (hn71 p)
  have hk05 : kk = 0 ∨ kk = 5 := hkk.elim .inl fun e => .inr e.1
  have hQ71 : ∀ q ∈ (⟨lS, Str.ofString "", ta, Str.ofString ".", tb⟩ :: qs : List Tp), q.at_ ≠ 71 := fun q hq => (List.mem_cons.mp hq).elim (fun e => by subst e; exact hS71) (hq71 q)
  have hsm : ∀ q ∈ (⟨lS, Str.ofString "", ta, Str.ofString ".", tb⟩ :: qs : List Tp), q.a.length < 9 ∧ q.b.length < 9 := fun q hq => (List.mem_cons.mp hq).elim (fun e => by subst e; exact ⟨by show 0 < 9; decide, by show 1 < 9; decide⟩) (qs_small hqs q)
  have hz : kk + ((⟨lS, Str.ofString "", ta, Str.ofString ".", tb⟩ :: qs : List Tp).map fun q => ((q.a.length + q.b.length : Nat) : Int)).sum = kk + 1 + 2 * fl.length := by
    rw [List.map_cons, List.sum_cons, qs_sum hqs]
    show kk + (((0 + 1 : Nat) : Int) + _) = _
    omega
  have hC1 := hC.keeps st1
  have htx : ∀ p ∈ tpsOf qs ++ news, p.1 ≠ x1 := fun p hp => (List.mem_append.mp hp).elim (fun hp => by obtain ⟨q, hq, rfl⟩ := List.mem_map.mp hp; exact Nat.ne_of_gt (hlt q hq)) (fun hp => Nat.ne_of_lt (Nat.lt_trans (ltn p hp) l2a))
  have htdx : ∀ p ∈ tpsOf qs ++ news, p.1 ≠ dx1 := fun p hp => (List.mem_append.mp hp).elim (fun hp => by obtain ⟨q, hq, rfl⟩ := List.mem_map.mp hp; exact Nat.ne_of_gt (Nat.lt_trans l2a (hlt q hq))) (fun hp => Nat.ne_of_lt (ltn p hp))
  have htd : ∀ p ∈ tpsOf qs ++ news, p.1 ≠ h6.objs.size := fun p hp => (List.mem_append.mp hp).elim (fun hp => by obtain ⟨q, hq, rfl⟩ := List.mem_map.mp hp; exact Nat.ne_of_gt (Nat.lt_trans ltd (Nat.lt_trans l2a (hlt q hq)))) (ltnd p)
  have hSdx : lS ≠ dx1 := Nat.ne_of_gt (Nat.lt_trans l2a hltS)
  have hSd : lS ≠ h6.objs.size := Nat.ne_of_gt (Nat.lt_trans ltd (Nat.lt_trans l2a hltS))
  have hax : a ≠ x1 := Nat.ne_of_lt (Nat.lt_trans lta l2a)
  have hdx : h6.objs.size ≠ x1 := Nat.ne_of_lt (Nat.lt_trans ltd l2a)
  have had : a ≠ h6.objs.size := Nat.ne_of_lt l1b.1
  cases fuel with
  | zero => simp [loopP] at hlp
  | succ fuel =>
  cases fl with
  | nil =>
    have hq0 : qs = [] := by simpa [QsOk] using hqs
    subst hq0
    have hk0 : kk = 0 := hkk.elim id fun e => absurd rfl e.2
    subst hk0
    have hres : res = [] := by simpa [loopP] using hlp.symm
    subst hres
    have hz' : (0 : Int) + (([⟨lS, Str.ofString "", ta, Str.ofString ".", tb⟩] : List Tp).map fun q => ((q.a.length + q.b.length : Nat) : Int)).sum = 1 := hz
    clear hz
    k_steps
    rename TabOk _ _ => htab9
    rename Fr h₀ _ _ _ => F9
    rename News h₀ _ _ _ => N9
    refine h _ _ _ _ _ F9 (byMem N9 fun p hp => ?_) htab9 (by assumption)
    rcases List.mem_cons.mp hp with rfl | hp
    · simp
    · rcases List.mem_cons.mp hp with rfl | hp
      · simp
      · simp [hp]
  | cons f fl =>
    cases qs with
    | nil => simp [QsOk] at hqs
    | cons q1 qs =>
    obtain ⟨a1, q1a, q1t, q1b, q1u⟩ := q1
    have hqs' := hqs
    simp only [QsOk, List.map_cons, List.cons.injEq, Prod.mk.injEq] at hqs'
    obtain ⟨⟨rfl, rfl⟩, hqs2⟩ := hqs'
    have hqlen : qs.length = fl.length := by simpa using congrArg List.length hqs2
    have hsz1 : (qs.map fun q => Value.ref q.at_).length + 2 ≤ sizeLine := by
      rw [sizeLine_eq, List.length_map, hqlen]
      simp only [List.length_cons] at hb1
      omega
    have hsz2 : qs.length + 2 ≤ sizeLine := by rw [List.length_map] at hsz1; exact hsz1
    have hta1 := hlt _ (.head _)
    dsimp only at hta1
    simp only [tpsOf, List.map_cons, List.cons_append] at N1 htx htdx htd ht71
    have hk3 : (1 : Int) < kk + 1 + 2 * (f :: fl).length := by
      simp only [List.length_cons]
      omega
    have hf64 : f < 64 := hfl f (.head _)
    obtain ⟨tlo, hlo⟩ := ex_low w f
    obtain ⟨tup, hup⟩ := ex_upp w f hf64
    replace N1 : News g1 L1 h' ((x1, accO dx1 (refsOfT (⟨lS, Str.ofString "", ta, Str.ofString ".", tb⟩ :: ⟨a1, lowS f, q1t, uppS f, q1u⟩ :: qs)) nn) :: (dx1, dictI w tkk kk tt) :: (h6.objs.size, o) :: (a, listOf vs n) :: (71, tabObj pz) ::
      (lS, { cls := .type "tuple", data := .seq #[.str (Str.ofString "") ta, .str (Str.ofString ".") tb] }) :: (a1, { cls := .type "tuple", data := .seq #[.str (lowS f) q1t, .str (uppS f) q1u] }) :: (tpsOf qs ++ news)) := N1
    k_steps
    rename News g1 _ _ _ => N9
    rename Fr g1 _ _ _ => F9
    rename TabOk tabPos _ => htab9
    rename AllBare _ => G9
    obtain ⟨ds, hds⟩ : ∃ ds, tr.lookup f = some ds := by
      cases e : tr.lookup f with
      | none => simp [loopP, e] at hlp
      | some ds => exact ⟨ds, rfl⟩
    simp only [loopP, hds] at hlp
    have hfe : (7 + ((f % 8 : Nat) : Int) - 7 + 8 * (15 + ((f / 8 : Nat) : Int) - 15)) = (f : Int) := by omega
    rw [hfe] at F9
    refine wpAny_For ?_
    k_steps
    rename IsRange _ _ _ _ _ _ _ _ => hr9
    rename News g1 _ _ _ => N8
    rename Fr g1 _ _ _ => F8
    have N7 := newsTail (newsTail (newsTail N8))
    have NN := nwc N7 (.head _) (nwc N7 (.tail _ (.head _)) (nwc N7 (.tail _ (.tail _ (.head _))) (nwc N7 (.tail _ (.tail _ (.tail _ (.head _)))) (nwc N7 (.tail _ (.tail _ (.tail _ (.tail _ (.head _))))) (nwc N7 (.tail _ (.tail _ (.tail _ (.tail _ (.tail _ (.head _)))))) (byMem N7 (news' := tpsOf qs ++ news) fun p hp => .tail _ (.tail _ (.tail _ (.tail _ (.tail _ (.tail _ (.tail _ hp)))))))))))) 
    have ltI := fun p hp => Heap.lt_size (NN p hp).1
    refine range_loop (n := 6) hh hr9 (by decide) (by decide) F8 NN
      (KJ PySem.Challenge.rw_wk0026_01.row.prog w x1 dx1 h6.objs.size a vs n _ ⟨lS, Str.ofString "", ta, Str.ofString ".", tb⟩ news af f ds tr fl kvs.length fuel) ⟨_, _, _, _, _, _, _, _, _, rfl, hd2, htr, hqs2, fun q hq => hfl q (.tail _ hq), fun q hq => hlt q (.tail _ hq), hds, rfl, Nat.le_refl _, Nat.le_refl _, hD2, fun j e he => by have := htl j e he; omega, ma, mt, ml, rfl⟩ ?step ?fin
    case fin =>
      intro h' tk' m' news' F3 N3 hJ2
      obtain ⟨tkk2, tt2, nn2, o2, kvs2, qs2, fl2, tr2, tf2, rfl, hd3, htr3, hqs3, hfl3, hlt3, hds3, hst3, hb3, hb4, hD3, htl3, ma3, mt3, ml3, mf3⟩ := hJ2
      rw [show (List.range 6).drop 6 = [] from rfl, stepK] at hst3
      rw [← hst3] at hlp
      dsimp only at hlp
      simp only [List.length_cons] at hb1
      k_steps
      rotate_left 2
      exact fuel
      exact Nat.lt_succ_self _
      refine ⟨_, _, _, _, _, _, _, _, _, _, _, _, _, qs2, fl2, tr2, rfl, by assumption, by assumption, by assumption, rfl, by assumption, .inl rfl, hd3, htr3, hqs3, hfl3, hlp, ma3, mt3, ml3, ⟨rfl, rfl, hltS⟩, hlt3, by omega, by omega, hD3, fun j e he => by have h1 := htl3 j e he; have h2 := htl f ds hds; omega⟩
    case step =>
      intro i tI m2 news2 h2' tk2 own oI hi hJ2 hnI hoI howI F3 N3
      obtain ⟨tkk2, tt2, nn2, o2, kvs2, qs2, fl2, tr2, tf2, rfl, hd3, htr3, hqs3, hfl3, hlt3, hds3, hst3, hb3, hb4, ⟨D3, hD3⟩, htl3, ma3, mt3, ml3, mf3⟩ := hJ2
      obtain ⟨tv3, hval3⟩ := htr3.some hds3
      have hdl3 : ds.length ≤ 100 := by have := htl3 f ds hds3; omega
      have hkl3 : kvs2.length ≤ 1000 := by omega
      have hlo3 : (h6.objs.size == sysModules) = false := lo1
      have hqsz3 : (refsOfT (⟨lS, Str.ofString "", ta, Str.ofString ".", tb⟩ :: qs2)).size ≤ sizeLine := by
        have hql : qs2.length = fl2.length := by simpa using congrArg List.length hqs3
        simp only [List.length_cons] at hb1
        rw [sizeLine_eq, List.size_toArray, List.length_map, List.length_cons, hql]
        omega
      simp only [List.cons_append, List.append_assoc] at N3
      have hdrop : ∀ i, i < 6 → (List.range 6).drop i = i :: (List.range 6).drop (i + 1) := by decide
      rw [hdrop i hi, stepK] at hst3
      have cx : x1 < _ := ltI _ (.head _)
      have cdx : dx1 < _ := ltI _ (.tail _ (.head _))
      have cd : h6.objs.size < _ := ltI _ (.tail _ (.tail _ (.head _)))
      have c71 : 71 < _ := ltI _ (.tail _ (.tail _ (.tail _ (.tail _ (.head _)))))
      have hyo : ∀ y, y < _ → ∀ p ∈ own, p.1 ≠ y := fun y hy p hp e => Nat.lt_irrefl _ (((howI p hp).symm.trans e) ▸ hy)
      have stx : ∀ p ∈ tpsOf qs2 ++ (news ++ own), p.1 ≠ x1 := fun p hp => (List.mem_append.mp hp).elim (fun hp => by obtain ⟨q, hq, rfl⟩ := List.mem_map.mp hp; exact Nat.ne_of_gt (hlt3 q hq)) (fun hp => (List.mem_append.mp hp).elim (fun hp => Nat.ne_of_lt (Nat.lt_trans (ltn p hp) l2a)) (hyo _ cx p))
      have stdx : ∀ p ∈ tpsOf qs2 ++ (news ++ own), p.1 ≠ dx1 := fun p hp => (List.mem_append.mp hp).elim (fun hp => by obtain ⟨q, hq, rfl⟩ := List.mem_map.mp hp; exact Nat.ne_of_gt (Nat.lt_trans l2a (hlt3 q hq))) (fun hp => (List.mem_append.mp hp).elim (fun hp => Nat.ne_of_lt (ltn p hp)) (hyo _ cdx p))
      have std : ∀ p ∈ tpsOf qs2 ++ (news ++ own), p.1 ≠ h6.objs.size := fun p hp => (List.mem_append.mp hp).elim (fun hp => by obtain ⟨q, hq, rfl⟩ := List.mem_map.mp hp; exact Nat.ne_of_gt (Nat.lt_trans ltd (Nat.lt_trans l2a (hlt3 q hq)))) (fun hp => (List.mem_append.mp hp).elim (ltnd p) (hyo _ cd p))
      k_steps
      · rename Builtin.bitAnd _ _ ≠ 0 => hb
        have hbit := sh_on hb
        rw [if_pos hbit] at hst3
        have hle := left_eq hbit
        have hj64 : f - 2 ^ i < 64 := Nat.lt_of_le_of_lt (Nat.sub_le _ _) hf64
        rename Fr g1 _ _ _ => F9
        rw [hle] at F9
        clear hb hbit hle
        generalize f - 2 ^ i = J at hst3 hj64 F9
        refine wp_cut (P := fun v => ∃ z' t', v = .int z' t' ∧ (z' == 0) = decide (J = 0)) ?_ (fun v tk8 hv => ?_)
        · refine wpAny_IfExp ?_
          k_steps
          · exact ⟨⟨_, _, rfl, by rw [Bool.eq_iff_iff, beq_iff_eq, decide_eq_true_iff]; omega⟩, _, rfl⟩
          · exact ⟨⟨_, _, rfl, by rw [Bool.eq_iff_iff, beq_iff_eq, decide_eq_true_iff]; omega⟩, _, rfl⟩
        · obtain ⟨z', t', rfl, hz'⟩ := hv
          by_cases hz : J = 0
          · rw [decide_eq_true hz] at hz'
            rw [if_pos hz] at hst3
            rw [← hst3] at hlp
            have hres : ds ++ [i] = res := Option.some.inj hlp
            k_steps
            dsimp only [TurnM]
            k_steps
            rename TabOk tabPos _ => htab8
            rename Fr h₀ _ _ _ => F9
            rename News h₀ _ _ _ => N9
            rw [hres]
            exact h _ _ _ _ _ F9 (byMem N9 fun p hp => by
              rcases List.mem_cons.mp hp with rfl | hp
              · exact .tail _ (.tail _ (.tail _ (.head _)))
              · rcases List.mem_cons.mp hp with rfl | hp
                · exact .tail _ (.tail _ (.tail _ (.tail _ (.head _))))
                · exact .tail _ (.tail _ (.tail _ (.tail _ (.tail _ (.tail _ (List.mem_append_right _ (List.mem_append_left _ hp)))))))) htab8 (by assumption)
          · rw [decide_eq_false hz] at hz'
            rw [if_neg hz] at hst3
            have hj0 : af.getD J 0 < 64 := haf J hj64
            cases hlk : tr2.lookup (af.getD J 0) with
            | none =>
              have hnv := htr3.none hlk
              simp only [hlk] at hst3
              k_steps
              rename News g1 _ _ _ => N9
              rename Fr g1 _ _ _ => F9
              rename Obj.IsDictOf _ _ _ => hd9
              rename PyProof.V.FlatPairs _ _ _ => hf9
              rename x1 < _ ∧ _ => l9
              rw [low_item _ hj0, upp_item _ hj0] at N9
              have hne : (f == af.getD J 0) = false := by
                rw [beq_eq_false_iff_ne]
                intro e
                rw [← e, hds3] at hlk
                cases hlk
              have hN2 := push_shape (q := ⟨_, lowS (af.getD J 0), _, uppS (af.getD J 0), _⟩) rfl N9
              refine ⟨_, _, _, _, rfl, F9, hN2, ne_shape (show x1 ≠ _ from hnI _ (.head _)) (hnI _ (.tail _ (.head _))) (show h6.objs.size ≠ _ from hnI _ (.tail _ (.tail _ (.head _)))) (hnI _ (.tail _ (.tail _ (.tail _ (.head _))))) (hnI _ (.tail _ (.tail _ (.tail _ (.tail _ (.head _)))))) (hnI _ (.tail _ (.tail _ (.tail _ (.tail _ (.tail _ (.head _))))))) (fun p hp => hnI p (.tail _ (.tail _ (.tail _ (.tail _ (.tail _ (.tail _ hp))))))) (Nat.ne_of_gt (allLt_mem l9.2.2.2.2.2.2 _ (List.mem_append_right _ (List.mem_append_right _ hoI)))),
                tkk2, tt2, nn2 + 1, _, _, qs2 ++ [_], fl2 ++ [af.getD J 0], (af.getD J 0, ds ++ [i]) :: tr2, tf2, rfl, hd9, htr3.put hlk (ds ++ [i]) _, ?_, ?_, ?_, ?_, hst3, ?_, ?_, ⟨_, hf9⟩, ?_, ?_, ?_, ?_, ?_⟩
              · have h9 := hqs3
                simp only [QsOk, List.map_append, List.map_cons, List.map_nil] at h9 ⊢
                rw [h9]
              · intro y hy
                rcases List.mem_append.mp hy with hy | hy
                · exact hfl3 y hy
                · rw [List.mem_singleton.mp hy]; exact hj0
              · intro y hy
                rcases List.mem_append.mp hy with hy | hy
                · exact hlt3 y hy
                · rw [List.mem_singleton.mp hy]; exact l9.1
              · simp only [List.lookup_cons, hne]; exact hds3
              · rw [List.length_append, List.length_cons, List.length_nil]; omega
              · rw [stored_absent hnv, List.length_append, List.length_cons, List.length_nil]; omega
              · intro j9 e9 he9
                simp only [List.lookup_cons] at he9
                split at he9
                · cases he9
                  have h9 := htl f ds hds
                  rw [List.length_append, List.length_cons, List.length_nil]; omega
                · exact htl3 j9 e9 he9
              all_goals ((try dsimp only); (repeat (refine look_on (by decide +kernel) ?_)); with_reducible assumption)
            | some e9 =>
              obtain ⟨tv9, hval9⟩ := htr3.some hlk
              simp only [hlk] at hst3
              k_steps
              rename News g1 _ _ _ => N9
              rename Fr g1 _ _ _ => F9
              refine ⟨_, _, _, (x1, accO dx1 (refsOfT (⟨lS, Str.ofString "", ta, Str.ofString ".", tb⟩ :: qs2)) nn2) :: (dx1, dictI w tkk2 0 tt2) :: (h6.objs.size, o2) :: (a, listOf vs n) :: (71, tabObj _) :: (lS, (⟨lS, Str.ofString "", ta, Str.ofString ".", tb⟩ : Tp).obj) :: (tpsOf qs2 ++ news), rfl, F9, keep_shape N9, fun p hp hm => hnI p hp (List.mem_singleton.mp hm),
                tkk2, tt2, nn2, o2, kvs2, qs2, fl2, tr2, tf2, rfl, hd3, htr3, hqs3, hfl3, hlt3, hds3, hst3, by omega, by omega, ⟨D3, hD3⟩, htl3, ?_, ?_, ?_, ?_⟩
              all_goals ((try dsimp only); (repeat (refine look_on (by decide +kernel) ?_)); with_reducible assumption)
      · rename Builtin.bitAnd _ _ = 0 => hb
        have hbit := sh_off hb
        rw [if_neg hbit] at hst3
        clear hb hbit
        rename News g1 _ _ _ => N9
        rename Fr g1 _ _ _ => F9
        refine ⟨_, _, _, (x1, accO dx1 (refsOfT (⟨lS, Str.ofString "", ta, Str.ofString ".", tb⟩ :: qs2)) nn2) :: (dx1, dictI w tkk2 0 tt2) :: (h6.objs.size, o2) :: (a, listOf vs n) :: (71, tabObj _) :: (lS, (⟨lS, Str.ofString "", ta, Str.ofString ".", tb⟩ : Tp).obj) :: (tpsOf qs2 ++ news), rfl, F9, keep_shape N9, fun p hp hm => hnI p hp (List.mem_singleton.mp hm),
          tkk2, tt2, nn2, o2, kvs2, qs2, fl2, tr2, tf2, rfl, hd3, htr3, hqs3, hfl3, hlt3, hds3, hst3, by omega, by omega, ⟨D3, hD3⟩, htl3, ?_, ?_, ?_, ?_⟩
        all_goals ((try dsimp only); (repeat (refine look_on (by decide +kernel) ?_)); with_reducible assumption)
end
end Mine
end
end
section
set_option maxRecDepth 100000
set_option maxHeartbeats 8000000
open PySem PySem.W PyProof.Rows PySem.Calls
namespace Mine
local macro_rules | `(tactic| walk_at "my_enter") => `(tactic| (refine' code_def ?k1 ?k2 ?k3 ?k4 ?k5 ?kA ?kF ?kK ?k6 ?k7 ?k8 ?k9 ?kB ?_ ?c2 ?c3 ?c4 ?c5; (case kA | kF | kK | k1 | k2 | k3 | k4 | k5 => assumption); (case k6 | k7 => k_is); (case k8 => exact Nat.lt_of_lt_of_le (by assumption) (by decide)); (case k9 => first | exact BindsTo.of_eq rfl | exact binds_K (by k_in) rfl (by k_is) rfl rfl rfl); (case c5 => decide); (case kB => exact locs rfl); (case c2 | c3 | c4 => exact rfl); k_whole; intro g' L' h' FG' F' N' B' X' T'; (try dsimp only); (try k_fold)))
local macro_rules | `(tactic| walk_at "exec While") => `(tactic| (k_here; refine halt ?_))
local macro_rules | `(tactic| walk_at "exec For") => `(tactic| (k_here; refine halt ?_))
local macro_rules | `(tactic| walk_at "pyIter ref") => `(tactic| (k_here; refine halt ?_))
local macro_rules | `(tactic| walk_at "eval Name") => `(tactic| (k_here; (with_reducible show wpAny _ _ (eval (Expr.Name _ _) (envOf _ _ _ _ _)) _ _ _); k_dflt (refine' ldK ?F ?hv ?_; (case F => k_asm); (case hv => first | (with_reducible assumption) | ((try dsimp only); (repeat (refine look_on (by decide +kernel) ?_)); first | exact look_here (by decide +kernel) rfl | (with_reducible assumption) | rfl)))))

def flagD : List (Int × PyData) := [(1, .str "OPTIMIZED"), (2, .str "NEWLOCALS"), (4, .str "VARARGS"), (8, .str "VARKEYWORDS"), (16, .str "NESTED"), (32, .str "GENERATOR"), (64, .str "NOFREE"), (128, .str "COROUTINE"), (256, .str "ITERABLE_COROUTINE"), (512, .str "ASYNC_GENERATOR")]
theorem key_flags {w : World} {h : Heap} (X : (MineH.hd.heap_1 w.params).In h) : KTD.Keyed h 22 flagD := kt_keyed_in X (by kernel_rfl)
def hexP (n : Nat) : Str := baseText "0x" 16 (n : Int)
def nmP (i : Nat) : Str := match KTD.datumAt ((2 ^ i : Nat) : Int) flagD with | some (.str s) => s | _ => hexP (2 ^ i)
def isStrD : Option PyData → Bool | none => true | some (.str _) => true | _ => false
theorem nm_str : ∀ i, i < 32 → isStrD (KTD.datumAt ((2 ^ i : Nat) : Int) flagD) = true := by decide +kernel
theorem nm_get {i : Nat} (hi : i < 32) : (KTD.datumAt ((2 ^ i : Nat) : Int) flagD).getD (.str (hexP (2 ^ i))) = .str (nmP i) := by
  have := nm_str i hi
  unfold nmP
  revert this
  generalize KTD.datumAt ((2 ^ i : Nat) : Int) flagD = o
  cases o with
  | none => intro _; rfl
  | some d => cases d <;> intro h <;> first | rfl | cases h
theorem get2_flag {prog : Program} {w : World} {A : Around} {s : Shared} {tk u : Tok} {E Q : Value → Shared → Prop} {i : Nat} (hi : i < 32) (X : (MineH.hd.heap_1 w.params).In s.heap) (h : ∀ t', Q (.str (nmP i) t') { s with toks := s.toks + 1 }) :
    wpAny (model prog w) A (call (.builtin "dict.get") [.ref 22, .int (1 * 2 ^ (i : Int).toNat) tk, .str (baseText "0x" 16 (1 * 2 ^ (i : Int).toNat)) u]) Q E s := by
  have e : (1 * 2 ^ (i : Int).toNat : Int) = ((2 ^ i : Nat) : Int) := by rw [Int.one_mul, Int.toNat_natCast]; exact (Int.natCast_pow 2 i).symm
  rw [e]
  refine call_get2_intTab (key_flags X prog w) (PyProof.V.Flat.str _ _) fun v hv => ?_
  rw [KTD.lookup_keyed] at hv
  have hv' : PyProof.V.Flat v (.str (nmP i)) := by rw [← nm_get hi]; exact hv
  obtain ⟨t, rfl⟩ := hv'.str_inv
  exact h t
local macro_rules | `(tactic| walk_at "loadName") => `(tactic| (k_here; k_dflt (refine' ldn ?F ?hv ?_; (case F => k_asm); (case hv => first | (with_reducible assumption) | ((try dsimp only); (repeat (refine look_on (by decide +kernel) ?_)); first | exact look_here (by decide +kernel) rfl | (with_reducible assumption) | rfl)))))
/-- the names of the set places below i -/
def prettyTo (f : Nat) : Nat → List Str
  | 0 => []
  | i + 1 => prettyTo f i ++ (if f / 2 ^ i % 2 = 1 then [nmP i] else [])
def pq (f n : Nat) : List Str := prettyTo f n ++ (if f / 2 ^ n * 2 ^ n ≠ 0 ∨ f = 0 then [hexP (f / 2 ^ n * 2 ^ n)] else [])
def prettyP (f : Nat) : List Str := pq f 32
def PJ (l : Addr) (f : Nat) (rest : List (Addr × Obj)) (i : Nat) (m₁ : Str → Option Value) (nw : List (Addr × Obj)) : Prop :=
  ∃ vs n t, nw = (l, listOf (List.toArray vs) n) :: rest ∧ StrsAre vs (prettyTo f i) ∧ vs.length ≤ i ∧ m₁ ("names" : Str) = some (.ref l) ∧ m₁ ("flags" : Str) = some (.int ((f / 2 ^ i * 2 ^ i : Nat) : Int) t) ∧ (f / 2 ^ i * 2 ^ i ≠ 0 ∨ f = 0)
local macro_rules | `(tactic| walk_at "call builtin:dict.get") => `(tactic| (k_here; k_dflt (refine' get2_flag ?i ?X ?_; (case i => assumption); (case X => k_in)); intro t'))
local macro_rules | `(tactic| walk_at "call builtin:list.append") => `(tactic| (k_here; k_dflt (refine' op_appendL ?F ?N ?U ?z ?_; (case F | N => k_asm); (case U => k_upd); (case z => (rw [sizeLine_eq, List.size_toArray]; omega))); intro h' F' N'; rw [List.push_toArray] at N'))
local macro_rules | `(tactic| k_all) => `(tactic| first | assumption | exact fun p hp => Nat.ne_of_lt (allLt_mem (by assumption) p hp))
theorem bt_len {pre : String} (hp : (Str.ofString pre).length ≤ 2) {n : Nat} (h : n < 2 ^ 64) : (baseText pre 16 (n : Int)).length ≤ 67 := by
  have e64 : (2 : Nat) ^ 64 ≤ 16 ^ 64 := Nat.pow_le_pow_left (by decide : 2 ≤ 16) 64
  have h64 : (n : Int).natAbs < 16 ^ 64 := by rw [Int.natAbs_natCast]; exact Nat.lt_of_lt_of_le h e64
  have h1 := toDigits_len_pow (by decide : 2 ≤ 16) (by decide : 1 ≤ 64) h64
  unfold baseText
  rw [Str.length_append, Str.length_append, ofString_ofList_length]
  have h3 : (Str.ofString (if (n : Int) < 0 then "-" else "")).length ≤ 1 := by
    split <;> (rw [PyProof.Rows.ofString_len]; decide)
  omega
theorem hexP_len {n : Nat} (h : n < 2 ^ 64) : (hexP n).length ≤ 67 := bt_len (by rw [PyProof.Rows.ofString_len]; decide) h
theorem nm_len : ∀ i, i < 32 → (nmP i).length ≤ 18 := by decide +kernel
theorem prettyTo_len (f : Nat) : ∀ i, i ≤ 32 → ((prettyTo f i).map (·.length)).sum + (prettyTo f i).length ≤ 19 * i
  | 0, _ => by simp [prettyTo]
  | i + 1, h => by
    have ih := prettyTo_len f i (by omega)
    have h1 := nm_len i (by omega)
    unfold prettyTo
    split
    · simp only [List.map_append, List.sum_append, List.length_append, List.map_cons, List.map_nil, List.sum_cons, List.sum_nil, List.length_cons, List.length_nil]
      omega
    · simp only [List.append_nil]
      omega
theorem pp_len {P : List Str} {H : Str} (c : Prop) [Decidable c] (h1 : (P.map (·.length)).sum + P.length ≤ 608) (h3 : H.length ≤ 67) : ((P ++ if c then [H] else []).map (·.length)).sum + (P ++ if c then [H] else []).length ≤ 1048576 := by
  split
  · simp only [List.map_append, List.sum_append, List.length_append, List.map_cons, List.map_nil, List.sum_cons, List.sum_nil, List.length_cons, List.length_nil]
    omega
  · simp only [List.append_nil]
    omega
theorem prettyP_len {f : Nat} (h : f < 2 ^ 64) : ((prettyP f).map (·.length)).sum + (prettyP f).length ≤ 1048576 :=
  pp_len _ (prettyTo_len f 32 (Nat.le_refl _)) (hexP_len (Nat.lt_of_le_of_lt (Nat.div_mul_le_self f (2 ^ 32)) h))
theorem zeros (f : Nat) : ∀ (k i : Nat), f / 2 ^ i * 2 ^ i = 0 → prettyTo f (i + k) = prettyTo f i ∧ f / 2 ^ (i + k) * 2 ^ (i + k) = 0
  | 0, i, h => ⟨rfl, h⟩
  | k + 1, i, h => by
    obtain ⟨h1, h2⟩ := zeros f k i h
    have hp : 0 < 2 ^ (i + k) := Nat.pow_pos (by decide)
    have h3 : f / 2 ^ (i + k) = 0 := (Nat.mul_eq_zero.mp h2).elim id fun e => absurd e (Nat.ne_of_gt hp)
    constructor
    · show prettyTo f (i + k) ++ (if f / 2 ^ (i + k) % 2 = 1 then [nmP (i + k)] else []) = _
      rw [h3, h1]; simp
    · show f / 2 ^ (i + k + 1) * 2 ^ (i + k + 1) = 0
      rw [up_next, h2, Nat.zero_sub]
theorem prettyTo_on {f i : Nat} (h : f / 2 ^ i % 2 = 1) : prettyTo f (i + 1) = prettyTo f i ++ [nmP i] := by
  show prettyTo f i ++ (if f / 2 ^ i % 2 = 1 then [nmP i] else []) = _
  rw [if_pos h]
theorem prettyTo_off {f i : Nat} (h : f / 2 ^ i % 2 = 0) : prettyTo f (i + 1) = prettyTo f i := by
  show prettyTo f i ++ (if f / 2 ^ i % 2 = 1 then [nmP i] else []) = _
  rw [if_neg (fun e => by rw [h] at e; cases e), List.append_nil]
theorem pq_stop {f i k : Nat} (hz : f / 2 ^ (i + 1) * 2 ^ (i + 1) = 0) (hf : f ≠ 0) : pq f (i + 1 + k) = prettyTo f (i + 1) := by
  obtain ⟨h1, h2⟩ := zeros f k (i + 1) hz
  unfold pq
  rw [h1, if_neg, List.append_nil]
  rintro (h | h)
  · exact h h2
  · exact hf h
theorem pretty_stop {f i : Nat} (hi : i < 32) (hz : f / 2 ^ (i + 1) * 2 ^ (i + 1) = 0) (hf : f ≠ 0) : prettyP f = prettyTo f (i + 1) := by
  obtain ⟨k, hk⟩ : ∃ k, 32 = i + 1 + k := ⟨31 - i, by omega⟩
  show pq f 32 = _
  rw [hk]
  exact pq_stop hz hf
theorem pq_end {f n : Nat} (hz : f / 2 ^ n * 2 ^ n ≠ 0 ∨ f = 0) : pq f n = prettyTo f n ++ [hexP (f / 2 ^ n * 2 ^ n)] := by
  unfold pq; rw [if_pos hz]
def StrsSnoc (vs : List Value) (a : Str) (ys : List Str) : Prop := ∀ t, StrsAre (vs ++ [.str a t]) ys
theorem StrsSnoc.at {vs : List Value} {a : Str} {ys : List Str} {t : Tok} (h : StrsSnoc vs a ys) : StrsAre (vs ++ [.str a t]) ys := h t
theorem join_my {prog : Program} {w : World} {A : Around} {s : Shared} {tk : Tok} {E Q : Value → Shared → Prop} {h₀ : Heap} {L D : Addr} {news : List (Addr × Obj)} {vs : List Value} {n : Nat} {ss : List Str} {x : Str} (N : News h₀ L s.heap news) (hm : (D, listOf (List.toArray vs) n) ∈ news) (hs : StrsAre vs ss) (hx : x.length ≤ 16) (hl : (ss.map (·.length)).sum + ss.length ≤ 1048576)
    (h : ∀ t' k, Q (.str (Txt.join x ss) t') { s with toks := k }) : wpAny (model prog w) A (call (.builtin "str.join") [.str x tk, .ref D]) Q E s :=
  join_listW ⟨_, (N _ hm).1, rfl, n, rfl⟩ hs hx hl h
local macro_rules | `(tactic| walk_at "call builtin:str.join") => `(tactic| (k_here; k_dflt (refine' join_my ?jN ?jm ?jS ?jx ?jl ?_; (case jN => k_asm); (case jm => repeat (first | exact List.Mem.head _ | apply List.Mem.tail)); (case jS => first | (with_reducible assumption) | exact StrsSnoc.at (by with_reducible assumption)); (case jx => decide +kernel); (case jl => with_reducible assumption)); intro t' k'))
section
variable {p : Program} {w : World} {A₀ A : Around} {s : Shared} {base h₀ : Heap} {outer : List Env} {L : Addr} {m mg mb : Str → Option Value} {env : Env} {news : List (Addr × Obj)} {loose : List Str} {mean : ExcName → Option Value} {R : Result → Shared → Prop} {x dx : Addr} {od : Obj}
theorem pretty_ok {f : Nat} {t : Tok} (B : Below A₀ base outer h₀) (F : Fr h₀ L s.heap m) (X : (MineH.hd.heap_1 w.params).In h₀) (N : News h₀ L s.heap news) (T : Top p loose mean mg mb h₀)
    (hA : A.frames = some (env :: outer)) (hf : env.frame = some L) (hke : env.scope.kind = .function) (hroom : A.depth < 900) (hh : A.handled = none) (hf64 : f < 2 ^ 64)
    (h : ∀ h' tk t', Fr h₀ L h' m → News h₀ L h' news → R (.ok (.ret (.str (Txt.join (Str.ofString ", ") (prettyP f)) t'))) { s with heap := h', toks := tk }) :
    codeAny (model PySem.Challenge.rw_wk0026_01.row.prog w) A (.call (.ref 29) ⟨[.int f t], []⟩) R s := by
  revert X; k_fill; intro X
  k_dflt (walk_at "my_enter")
  k_steps
  refine wpAny_For ?_
  k_steps
  rename IsRange _ _ _ _ _ _ _ _ => hr9
  rename News _ _ _ _ => N9
  rename Fr _ _ _ _ => F9
  rename ∀ p ∈ news, p.1 < _ => hlt
  have hlen := prettyP_len hf64
  refine range_loop (n := 32) hh hr9 (by decide) (by decide) F9 N9 (PJ _ f news) ⟨[], _, _, rfl, .nil, Nat.le_refl _, rfl, (by show _ = some (Value.int ((f / 2 ^ 0 * 2 ^ 0 : Nat) : Int) _); rw [Nat.pow_zero, Nat.div_one, Nat.mul_one]; rfl), by rw [Nat.pow_zero, Nat.div_one, Nat.mul_one]; omega⟩ ?step ?fin
  case fin =>
    intro h' tk m' news' F3 N3 hJ
    obtain ⟨vs, n, tf, rfl, hvs, hvl, m1, m2, hnz⟩ := hJ
    have hp : prettyP f = prettyTo f 32 ++ [hexP (f / 2 ^ 32 * 2 ^ 32)] := pq_end hnz
    have hU := Nat.lt_of_le_of_lt (Nat.div_mul_le_self f (2 ^ 32)) hf64
    clear hnz
    revert hp hU m2
    generalize f / 2 ^ 32 * 2 ^ 32 = U
    intro m2 hp hU
    have hsz : (baseText "0x" 16 (U : Int)).length ≤ sizeLine := by
      have := hexP_len hU
      rw [sizeLine_eq]; exact Nat.le_trans this (by decide)
    have hsn : StrsSnoc vs (baseText "0x" 16 (U : Int)) (prettyP f) := fun t => by rw [hp]; exact hvs.append' (.cons _ _ .nil)
    clear hp hU
    k_steps
    exact h _ _ _ (by assumption) (byMem (by assumption) fun p hp => .tail _ hp)
  case step =>
    intro i tI m2 news2 h2' tk2 own oI hi hJ2 hnI hoI howI F3 N3
    obtain ⟨vs, n, tf, rfl, hvs, hvl, m1, m2, hnz⟩ := hJ2
    simp only [List.cons_append] at N3
    have hl : ∀ p ∈ news ++ own, p.1 ≠ _ := fun p hp => (List.mem_append.mp hp).elim (fun hp => Nat.ne_of_lt (hlt p hp)) (fun hp => by rw [howI p hp]; exact Nat.ne_of_gt (Heap.lt_size (N9 _ (.head _)).1))
    have h2n : (2 : Nat) ^ i < 2 ^ 32 := Nat.pow_lt_pow_right (by decide) hi
    have h2i : (2 : Int) ^ ((i : Int).toNat) < 4294967296 := by
      have e := pow_int i
      rw [Int.one_mul] at e
      rw [e]; omega
    have h2p : 0 < (2 : Int) ^ ((i : Int).toNat) := Int.pow_pos (by decide)
    have hnI2 : ∀ p ∈ news, p.1 ∉ [_] := fun p hp hm => hnI p (.tail _ hp) (List.mem_singleton.mp hm)
    have hnI3 := hnI _ (.head _)
    k_steps
    · rename Builtin.bitAnd _ _ ≠ 0 => hb
      obtain ⟨hb1, hb2⟩ := bit_on hb
      rename Builtin.bitXor _ _ ≠ 0 => hx
      rename Fr _ _ _ _ => F9
      rename News _ _ _ _ => N8
      rw [hb2] at F9 hx
      refine ⟨_, _, _, (_, listOf (List.toArray (vs ++ [_])) (n + 1)) :: news, rfl, F9, N8, ?_, vs ++ [_], n + 1, _, rfl, ?_, ?_, m1, rfl, ?_⟩
      · intro p hp
        rcases List.mem_cons.mp hp with rfl | hp
        · exact fun hm => hnI3 (List.mem_singleton.mp hm)
        · exact hnI2 p hp
      · rw [prettyTo_on hb1]; exact hvs.append' (.cons _ _ .nil)
      · simp only [List.length_append, List.length_cons, List.length_nil]; omega
      · exact .inl fun e => hx (by rw [e]; rfl)
    · rename Builtin.bitAnd _ _ ≠ 0 => hb
      obtain ⟨hb1, hb2⟩ := bit_on hb
      rename Builtin.bitXor _ _ = 0 => hx
      rename Fr _ _ _ _ => F9
      rename News _ _ _ _ => N8
      rw [hb2] at hx
      have hz := Int.ofNat.inj hx
      have hf0 : f ≠ 0 := fun e => by rw [e, Nat.zero_div] at hb1; cases hb1
      have hpe : prettyP f = prettyTo f i ++ [nmP i] := by rw [pretty_stop hi hz hf0, prettyTo_on hb1]
      have hsn : StrsSnoc vs (nmP i) (prettyP f) := fun t => by rw [hpe]; exact hvs.append' (.cons _ _ .nil)
      rw [hb2] at F9
      clear hb hb1 hb2 hx hz hpe hnz hf0 m2
      dsimp only [TurnM]
      k_steps
      exact h _ _ _ (by assumption) (byMem (by assumption) fun p hp => .tail _ (List.mem_append_left _ hp))
    · rename Builtin.bitAnd _ _ = 0 => hb
      obtain ⟨hb1, hb2⟩ := bit_off hb
      rename Fr _ _ _ _ => F9
      rename News _ _ _ _ => N8
      exact ⟨_, _, _, (_, listOf (List.toArray vs) n) :: news, rfl, F9, N8, (fun p hp => by
        rcases List.mem_cons.mp hp with rfl | hp
        · exact fun hm => hnI3 (List.mem_singleton.mp hm)
        · exact hnI2 p hp), vs, n, _, rfl, (by rw [prettyTo_off hb1]; exact hvs), by omega, m1, by rw [hb2]; exact m2, by rw [hb2]; exact hnz⟩
end
end Mine
end
section
set_option maxRecDepth 100000
set_option maxHeartbeats 1000000
open PySem PySem.W PyProof.Rows PySem.Calls
namespace Mine
theorem dig_int : ∀ k : Nat, k < 6 → PySem.intText? (digS k) = some (k : Int) := by decide +kernel
section
variable {prog : Program} {w : World} {A : Around} {s : Shared} {env : Env} {h₀ : Heap}
theorem op_intk {k : Nat} {t : Tok} {E Q : Value → Shared → Prop} (hk : k < 6) (h : Q (.int (k : Int) s.toks) { s with toks := s.toks + 1 }) : wpAny (model prog w) A (call (.type "int") [.str (digS k) t]) Q E s :=
  KIN.call_text (dig_int k hk) (by show 1 ≤ 640; decide) h
theorem str_loop {R : Result → Shared → Prop} {E : Value → Shared → Prop} {y : Str} {px : Pos} {body orelse : List Stmt} {ds : List Nat} {t : Tok} {m : Str → Option Value} {news : List (Addr × Obj)}
    (hh : A.handled = none) (F : Fr h₀ env.locals s.heap m) (N : News h₀ env.locals s.heap news)
    (J : Nat → (Str → Option Value) → List (Addr × Obj) → Prop) (h0 : J 0 m news)
    (step : ∀ (i : Nat) d t m₁ news₁ h₁ tk₁ own oI, i < ds.length → ds[i]? = some d → J i m₁ news₁ → (∀ p ∈ news₁, p.1 ≠ s.heap.objs.size) → (s.heap.objs.size, oI) ∈ own → (∀ p ∈ own, p.1 = s.heap.objs.size) →
      Fr h₀ env.locals h₁ m₁ → News h₀ env.locals h₁ (news₁ ++ own) →
      wpAny (model prog w) A (assign (.Name y px) env (.str (digS d) t)) (fun _ s₂ => wpAny (model prog w) A (execs body env) (TurnM h₀ env.locals [s.heap.objs.size] own (J (i + 1)) R { s with heap := h₁, toks := tk₁ }) (notedBy (model prog w) A env fun e s' => R (.error e) s') s₂) (notedBy (model prog w) A env fun e s' => R (.error e) s') { s with heap := h₁, toks := tk₁ })
    (hR : ∀ h' tk m' news', Fr h₀ env.locals h' m' → News h₀ env.locals h' news' → J ds.length m' news' → wpAny (model prog w) A (execs orelse env) (fun f s₃ => R (.ok f) s₃) (notedBy (model prog w) A env fun e s' => R (.error e) s') { s with heap := h', toks := tk }) :
    wpAny (model prog w) A (pyIter (.str (pathS ds) t)) (fun it s₂ => codeAny (model prog w) A (.forLoop (.Name y px) it body orelse env) R s₂) E s := by
  have hI0 : h₀.get? s.heap.objs.size = none := by
    cases q : h₀.get? s.heap.objs.size with
    | none => rfl
    | some o => exact absurd (Heap.lt_size (F.keep _ _ q)) (Nat.lt_irrefl _)
  have hsz : (pathS ds).cps.size = ds.length := by show (List.toArray _).size = _; simp
  have go : ∀ (o : Obj) (St : Nat → Heap → Prop), Walks prog w A s.heap.objs.size [s.heap.objs.size] [s.heap.objs.size] (pathS ds).cps.size (SignAt (pathS ds)) St → (∀ i h, St i h → ∃ o, h.get? s.heap.objs.size = some o) → St 0 (s.heap.push o) →
      codeAny (model prog w) A (.forLoop (.Name y px) (.ref s.heap.objs.size) body orelse env) R { s with heap := s.heap.push o } := by
    intro o St W hSt hst0
    rw [hsz] at W
    refine for_kt (s := { s with heap := s.heap.push o }) (KTurns.ofWalks W fun i v s Q E _ q => wpAny_pure q) ?_ ?_ ?_ hst0 (F.push o) (N.grown fun _ _ e => Heap.get?_push_of_some _ e) J h0 ?_ hR
    · intro hm
      exact absurd F.ns.lt (List.mem_singleton.mp hm ▸ Nat.lt_irrefl _)
    · intro b hb
      rw [List.mem_singleton.mp hb]; exact hI0
    · intro p hp hm
      exact absurd (Heap.lt_size (N p hp).1) (List.mem_singleton.mp hm ▸ Nat.lt_irrefl _)
    · rintro i v m₁ news₁ h₁ tk₁ own hi ⟨c, u, hc, rfl⟩ hJ hnw how hin hst F₁ N₁
      obtain ⟨oI, hoI⟩ := hSt _ _ hst
      have hd : ds[i]? = some ds[i] := List.getElem?_eq_getElem hi
      have hcd : c = 48 + ds[i] := by
        have h1 : (pathS ds).cps[i]? = some (48 + ds[i]) := by
          show (List.toArray (ds.map (48 + ·)))[i]? = _
          simp [hd]
        rw [h1] at hc
        exact (Option.some.inj hc).symm
      subst hcd
      exact step i ds[i] u m₁ news₁ h₁ tk₁ own oI hi hd hJ (fun p hp e => hnw p hp (e ▸ List.mem_singleton.mpr rfl)) (hin _ (.head _) hI0 _ hoI) (fun p hp => List.mem_singleton.mp (how p hp)) F₁ N₁
  cases ha : (pathS ds).cps.all (· < 128)
  · exact wpAny_pyIter_wide ha (go _ _ (Walks.strWide hh _ _ t) (fun i h st => let ⟨o, ho, _⟩ := st; ⟨o, ho⟩) ⟨_, Heap.get?_push_size _ rfl, rfl, rfl⟩)
  · exact wpAny_pyIter_ascii ha (go _ _ (Walks.strAscii hh _ _ t) (fun i h st => let ⟨o, ho, _⟩ := st; ⟨o, ho⟩) ⟨_, Heap.get?_push_size _ rfl, rfl, rfl⟩)
theorem bitOr_nat (a b : Nat) : Builtin.bitOr (a : Int) (b : Int) = ((a ||| b : Nat) : Int) := by
  have h1 : ¬ (0 : Int) ≤ Builtin.bitNot (a : Int) := by unfold Builtin.bitNot; omega
  have h2 : ¬ (0 : Int) ≤ Builtin.bitNot (b : Int) := by unfold Builtin.bitNot; omega
  have h3 : ∀ x : Int, Builtin.bitNot (Builtin.bitNot x) = x := fun x => by unfold Builtin.bitNot; omega
  show Builtin.bitNot (Builtin.bitAnd (Builtin.bitNot (a : Int)) (Builtin.bitNot (b : Int))) = _
  rw [bitAnd_nn h1 h2, h3, h3, h3, Int.toNat_natCast, Int.toNat_natCast]
theorem add_pow_int (a b : Nat) : (1 * 2 ^ ((a : Int) + (b : Int)).toNat : Int) = ((2 ^ (a + b) : Nat) : Int) := by
  rw [← Int.natCast_add]; exact pow_int _
end
end Mine
end
open PySem PySem.W PyProof.Rows PySem.Calls Mine
local macro_rules | `(tactic| walk_at "exec While") => `(tactic| (k_here; refine halt ?_))
local macro_rules | `(tactic| walk_at "exec For") => `(tactic| (k_here; refine halt ?_))
local macro_rules | `(tactic| walk_at "exec For Name Name cons nil") => `(tactic| (k_here; refine halt ?_))
local macro_rules | `(tactic| walk_at "exec For Name Call cons nil") => `(tactic| (k_here; refine halt ?_))
local macro_rules | `(tactic| walk_at "exec For Tuple Name cons nil") => `(tactic| (k_here; refine halt ?_))
local macro_rules | `(tactic| walk_at "exec For Tuple Call cons nil") => `(tactic| (k_here; refine halt ?_))
local macro_rules | `(tactic| walk_at "pyIter ref") => `(tactic| (k_here; refine halt ?_))
local macro_rules | `(tactic| walk_at "pyIter str") => `(tactic| (k_here; refine halt ?_))
local macro_rules | `(tactic| walk_at "eval Name") => `(tactic| (k_here; (with_reducible show wpAny _ _ (eval (Expr.Name _ _) (envOf _ _ _ _ _)) _ _ _); k_dflt (refine' ldK ?F ?hv ?_; (case F => k_asm); (case hv => first | (with_reducible assumption) | ((try dsimp only); (repeat (refine look_on (by decide +kernel) ?_)); first | exact look_here (by decide +kernel) rfl | (with_reducible assumption) | rfl)))))
local macro_rules | `(tactic| walk_at "loadName") => `(tactic| (k_here; k_dflt (refine' ldn ?F ?hv ?_; (case F => k_asm); (case hv => first | (with_reducible assumption) | ((try dsimp only); (repeat (refine look_on (by decide +kernel) ?_)); first | exact look_here (by decide +kernel) rfl | (with_reducible assumption) | rfl)))))
local macro_rules | `(tactic| walk_at "call builtin:list.append") => `(tactic| (k_here; k_dflt (refine' op_appendL ?F ?N ?U ?z ?_; (case F | N => k_asm); (case U => k_upd); (case z => with_reducible assumption)); intro h' F' N'; rw [List.push_toArray] at N'))
local macro_rules | `(tactic| k_all) => `(tactic| first | (with_reducible assumption) | exact fun p hp => Nat.ne_of_lt (allLt_mem (by with_reducible assumption) p hp))
section
set_option maxRecDepth 100000
set_option maxHeartbeats 1000000
open PySem PySem.W PyProof.Rows PySem.Calls
namespace Mine
local macro_rules | `(tactic| walk_at "my_enter") => `(tactic| (refine' code_def ?k1 ?k2 ?k3 ?k4 ?k5 ?kA ?kF ?kK ?k6 ?k7 ?k8 ?k9 ?kB ?_ ?c2 ?c3 ?c4 ?c5; (case kA | kF | kK | k1 | k2 | k3 | k4 | k5 => assumption); (case k6 | k7 => k_is); (case k8 => exact Nat.lt_of_lt_of_le (by assumption) (by decide)); (case k9 => first | exact BindsTo.of_eq rfl | exact binds_K (by k_in) rfl (by k_is) rfl rfl rfl); (case c5 => decide); (case kB => exact locs rfl); (case c2 | c3 | c4 => exact rfl); k_whole; intro g' L' h' FG' F' N' B' X' T'; (try dsimp only); (try k_fold)))
def flF (low : Nat) (ds : List Nat) : Nat := ds.foldl (fun f d => f ||| 2 ^ (low + d)) 0
def rmF (af : List Nat) (ds : List Nat) : Nat := ds.foldl (fun r d => af.getD (r &&& (63 - 2 ^ d)) 0) 63
theorem flF_step {low i d : Nat} {ds : List Nat} (h : ds[i]? = some d) : flF low (ds.take (i + 1)) = flF low (ds.take i) ||| 2 ^ (low + d) := by
  unfold flF; rw [List.take_add_one, h]; simp
theorem rmF_step {i d : Nat} {af ds : List Nat} (h : ds[i]? = some d) : rmF af (ds.take (i + 1)) = af.getD (rmF af (ds.take i) &&& (63 - 2 ^ d)) 0 := by
  unfold rmF; rw [List.take_add_one, h]; simp
def DJ (a : Addr) (vs : Array Value) (n : Nat) (af : List Nat) (low : Nat) (ds : List Nat) (rest : List (Addr × Obj)) (i : Nat) (m₁ : Str → Option Value) (nw : List (Addr × Obj)) : Prop :=
  ∃ t1 t2 u, nw = (a, listOf vs n) :: rest ∧ m₁ ("flags" : Str) = some (.int (flF low (ds.take i) : Nat) t1) ∧ m₁ ("rooms" : Str) = some (.int (rmF af (ds.take i) : Nat) t2) ∧ m₁ ("after" : Str) = some (.ref a) ∧ m₁ ("low" : Str) = some (.int (low : Int) u)
local macro_rules | `(tactic| walk_at "call type:int") => `(tactic| (k_here; (with_reducible show wpAny _ _ (call _ [Value.str (digS _) _]) _ _ _); k_dflt (refine' op_intk ?ik ?_; (case ik => with_reducible assumption))))
section
variable {p : Program} {w : World} {A₀ A : Around} {s : Shared} {base h₀ : Heap} {outer : List Env} {L : Addr} {m mg mb : Str → Option Value} {env : Env} {news : List (Addr × Obj)} {loose : List Str} {mean : ExcName → Option Value} {R : Result → Shared → Prop}
local macro_rules | `(tactic| walk_at "subscriptTail Name BinOp ref int") => `(tactic| (k_here; (with_reducible show wpAny _ _ (subscriptTail _ _ (Value.ref _) (Value.int _ _)) _ _ _); k_dflt (refine' op_after ?dN ?dm ?dv ?de ?dj ?_ ?ds; (case dN => k_asm); (case dv => with_reducible assumption); (case dm => k_mem); (case de | dj => with_reducible assumption); (case ds => with_unfolding_all rfl)); intro t'))
theorem days_ok {vs : Array Value} {n : Nat} {a : Addr} {ds af : List Nat} {low : Nat} {t u : Tok} (B : Below A₀ base outer h₀) (F : Fr h₀ L s.heap m) (X : (MineH.hd.heap_1 w.params).In h₀)  (N : News h₀ L s.heap ((a, listOf vs n) :: news)) (T : Top p loose mean mg mb h₀)
    (hA : A.frames = some (env :: outer)) (hf : env.frame = some L) (hke : env.scope.kind = .function) (hroom : A.depth < 900) (hh : A.handled = none) (hlow : low < 40) (hds : ∀ d ∈ ds, d < 6) (hvs : ∀ i, i < 64 → ∃ t, vs[i]? = some (.int ((af.getD i 0 : Nat) : Int) t))
    (h : ∀ h' tk l t1 t2, Fr h₀ L h' m → News h₀ L h' ((l, { cls := .type "tuple", data := .seq #[.int (flF low ds : Nat) t1, .int (rmF af ds : Nat) t2] }) :: (a, listOf vs n) :: news) → (∀ p ∈ (a, listOf vs n) :: news, p.1 < l) → R (.ok (.ret (.ref l))) { s with heap := h', toks := tk }) :
    codeAny (model PySem.Challenge.rw_wk0026_01.row.prog w) A (.call (.ref 159) ⟨[.ref a, .str (pathS ds) t, .int (low : Int) u], []⟩) R s := by
  revert X; k_fill; intro X
  k_dflt (walk_at "my_enter")
  k_steps
  refine wpAny_For ?_
  k_steps
  rename News _ _ _ _ => N9
  rename Fr _ _ _ _ => F9
  refine str_loop hh F9 N9 (DJ a vs n af low ds news) ⟨_, _, _, rfl, rfl, rfl, rfl, rfl⟩ ?step ?fin
  case fin =>
    intro h' tk' m' news' F3 N3 hJ
    obtain ⟨t1, t2, u2, rfl, m1, m2, m3, m4⟩ := hJ
    rw [List.take_length] at m1 m2
    k_steps
    rename a < _ ∧ _ => l9
    exact h _ _ _ _ _ (by assumption) (by assumption) fun p hp => (List.mem_cons.mp hp).elim (fun e => e ▸ l9.1) (allLt_mem l9.2 p)
  case step =>
    intro i d tI m2 news2 h2' tk2 own oI hi hdi hJ2 hnI hoI howI F3 N3
    obtain ⟨t1, t2, u2, rfl, m1, m2, m3, m4⟩ := hJ2
    simp only [List.cons_append] at N3
    have hd6 : d < 6 := hds d (List.mem_of_getElem? hdi)
    have h2d : 2 ^ d ≤ 32 := Nat.pow_le_pow_right (by decide) (by omega : d ≤ 5)
    have hde : Builtin.bitAnd ((rmF af (ds.take i) : Nat) : Int) (63 - 1 * 2 ^ (d : Int).toNat) = ((rmF af (ds.take i) &&& (63 - 2 ^ d) : Nat) : Int) := by
      rw [pow_int, show (63 - ((2 ^ d : Nat) : Int)) = ((63 - 2 ^ d : Nat) : Int) from by omega, bitAnd_nat]
    have hdj : rmF af (ds.take i) &&& (63 - 2 ^ d) < 64 := Nat.lt_of_le_of_lt Nat.and_le_right (Nat.lt_of_le_of_lt (Nat.sub_le _ _) (by decide))
    have hnI2 : ∀ p ∈ (a, listOf vs n) :: news, p.1 ∉ [_] := fun p hp hm => hnI p hp (List.mem_singleton.mp hm)
    clear h2d
    k_steps
    rename News _ _ _ _ => N9
    rename Fr _ _ _ _ => F9
    rw [add_pow_int, bitOr_nat, ← flF_step hdi, ← rmF_step hdi] at F9
    exact ⟨_, _, _, (a, listOf vs n) :: news, rfl, F9, N9, hnI2, _, _, u2, rfl, rfl, rfl, m3, m4⟩
end
end Mine
end
section
set_option maxRecDepth 100000
set_option maxHeartbeats 1000000
open PySem PySem.W PyProof.Rows PySem.Calls
namespace Mine
section
variable {prog : Program} {w : World} {A : Around} {s : Shared} {env : Env} {h₀ : Heap} {L a : Addr} {m : Str → Option Value} {news : List (Addr × Obj)} {E : Value → Shared → Prop}
theorem op_lset {its : Array Value} {n j : Nat} {z : Int} {v : Value} {t : Tok} {news' : List (Addr × Obj)} {Q : Unit → Shared → Prop} (F : Fr h₀ L s.heap m) (N : News h₀ L s.heap news) (e : z = (j : Int)) (hj : j < its.size) (hfit : its.size < 1000)
    (U : Upd a (listOf its n) (listOf (its.setIfInBounds j v) n) news news') (h : ∀ h', Fr h₀ L h' m → News h₀ L h' news' → Q () { s with heap := h' }) :
    wpAny (model prog w) A (setItem (.ref a) (.int z t) v) Q E s := by
  have ho := (N _ (upd_mem U)).1
  have hl : s.heap.IsList a its := ⟨_, ho, rfl, n, rfl⟩
  have hd : (listOf its n).data = .seq its n := rfl
  obtain ⟨U1, U2⟩ := upd_F (f := Obj.mapSeq (·.setIfInBounds j v)) F N U (by simp [Obj.mapSeq]) rfl
  unfold setItem
  try with_reducible refine wpAny_holding ?_
  first | refine wpAny_bind (wpAny_pure ?_) | skip
  refine wpAny_bind (wpAny_sequenceKey hl.typeIs (by decide) ?_)
  refine wpAny_bind (wpAny_callSpecial?_slot (name := Str.ofString "__setitem__") hl.typeIs slot_list_setitem
    (wpAny_call_entry slot_list_setitem hl.typeIs entry_list_setitem ?_ (args_list_setitem _ _ _)))
  show wpAny _ _ (Builtin.List.listSubscript? (.int z t) >>= _) _ _ s
  refine wpAny_bind (wpAny_listSubscript_int (fitsIndex_of (by omega) (by omega)) ?_)
  clear hfit
  subst e
  have hx' : its[j]? = some its[j] := Array.getElem?_eq_getElem hj
  show wpAny _ _ ((seqItemAt a j >>= fun r => pure (r.map (j, ·))) >>= _) _ _ s
  refine wpAny_bind (wpAny_bind (wpAny_seqItemAt ho hd (wpAny_pure ?_)))
  rw [hx']
  show wpAny _ _ (setSeqItemAt a j v >>= _) _ _ s
  refine wpAny_bind (wpAny_setSeqItemAt ho hd ?_)
  first
    | exact wpAny_bind (wpAny_pure (wpAny_pure ⟨.none, rfl, wpAny_pure (h _ U1 U2)⟩))
    | exact wpAny_pure ⟨.none, rfl, wpAny_pure (h _ U1 U2)⟩
theorem op_lget {vs : List Value} {ns : List Int} {n j : Nat} {z c : Int} {t : Tok} {Q : Value → Shared → Prop} (N : News h₀ L s.heap news) (hm : (a, listOf (List.toArray vs) n) ∈ news) (hi : IntsAre vs ns) (e : z = (j : Int)) (hj : ns[j]? = some c) (hfit : j < 1000)
    (h : ∀ t', Q (.int c t') s) : wpAny (model prog w) A (getItem (.ref a) (.int z t)) Q E s := by
  have hl : s.heap.IsList a vs.toArray := ⟨_, (N _ hm).1, rfl, n, rfl⟩
  obtain ⟨t', ht⟩ := hi.get j c hj
  exact wpAny_getItem_list hl (by omega) (by omega) (x := .int c t') (by rw [e, Int.toNat_natCast]; simpa using ht) (h t')
theorem fi_iadd : fillsInplaceSlot (.type "list") "add" (Operator.Add == .Add) = pure false := by
  unfold fillsInplaceSlot
  show (typeLookup (.type "list") (dunderI "add") >>= fun fi => pure (fi.isSome && !isSeqSlot fi)) = pure false
  rw [PySem.F.slot_list_iadd.lookup]
  kernel_rfl
theorem si_iadd : seqSlot? (.type "list") (dunderI "add") = pure (some (.builtin "list.__iadd__")) := PySem.seqSlot_of PySem.F.slot_list_iadd.lookup (by decide +kernel)
theorem op_iadd {b : Addr} {its its2 : Array Value} {n n2 : Nat} {news' : List (Addr × Obj)} {Q : Value → Shared → Prop} (F : Fr h₀ L s.heap m) (N : News h₀ L s.heap news) (hb : (b, ({ cls := .type "list", data := .seq its2 n2 } : Obj)) ∈ news) (hne : its2.size ≠ 0) (hsz : its.size + its2.size ≤ 1000)
    (U : Upd a (listOf its n) (listOf (its ++ its2) (n + 1)) news news') (h : ∀ h', Fr h₀ L h' m → News h₀ L h' news' → Q (.ref a) { s with heap := h' }) :
    wpAny (model prog w) A (inplaceOp .Add (.ref a) (.ref b)) Q E s := by
  have ho := (N _ (upd_mem U)).1
  have hb1 := (N _ hb).1
  have ha : s.TypeIs (.ref a) "list" := ⟨_, ho, rfl⟩
  have hbT : s.TypeIs (.ref b) "list" := ⟨_, hb1, rfl⟩
  obtain ⟨U1, U2⟩ := upd_F (f := Obj.mapSeq fun x => x ++ its2) F N U (by
    have e : (its ++ its2).size ≠ its.size := by rw [Array.size_append]; omega
    have e2 : ¬ (its2 = #[]) := fun c => hne (by rw [c]; rfl)
    simp [Obj.mapSeq, e2]) rfl
  unfold inplaceOp
  refine wpAny_holding ?_
  refine wpAny_bind (wpAny_typeOf ha (wpAny_bind (wpAny_of_eq fi_iadd ?_)))
  rw [if_neg (by decide)]
  refine wpAny_bind (binaryOp1_none (nm := "add") ha hbT PySem.noFill_list_add ?_)
  dsimp only
  refine wpAny_bind (wpAny_of_eq si_iadd ?_)
  dsimp only
  refine wpAny_bind (wpAny_rule ?_)
  refine (call_meets PySem.F.slot_list_iadd ha PySem.F.entry_list_iadd (PySem.F.args_list_iadd_2 _ _) (PySem.AutoSeq1.list___iadd___list_list_0 a its n b its2 n2 ?_ ?_ ?_) ⟨ho, hb1, ?_⟩)
  · unfold Builtin.List.listTooLong
    simp only [Bool.and_eq_true, not_and]
    intro _
    have := sizeLine_eq
    simp
    omega
  · rw [sizeLine_eq]; omega
  · rw [sizeLine_eq]; omega
  · exact h _ U1 U2
theorem enum_loop {l : Addr} {its : Array Value} {kk : Nat} {m : Str → Option Value} {news : List (Addr × Obj)}
    (hh : A.handled = none) (F : Fr h₀ L s.heap m) (N : News h₀ L s.heap news) (hax : (l, listOf its kk) ∈ news) {Q : Value → Shared → Prop}
    (hQ : ∀ h', Fr h₀ L h' m → News h₀ L h' news → (∀ {env : Env} {R : Result → Shared → Prop} {E' : Value → Shared → Prop} {elts : List PySem.Expr} {kx : Nat} {px : Pos} {body orelse : List Stmt} {tk : Nat}, env.locals = L → ∀ (J : Nat → (Str → Option Value) → List (Addr × Obj) → Prop), J 0 m news →
      (∀ (i : Nat) T t v m₁ news₁ h₁ tk₁ own, i < its.size → its[i]? = some v → J i m₁ news₁ → (∀ p ∈ news₁, p.1 ∉ [s.heap.objs.size + 1, s.heap.objs.size]) → (∃ o, (s.heap.objs.size, o) ∈ own) → (∃ o, (s.heap.objs.size + 1, o) ∈ own) →
        (∀ p ∈ own, p.1 ∈ [s.heap.objs.size + 1, s.heap.objs.size, l]) → h₁.IsTuple T #[.int (i : Int) t, v] →
        Fr h₀ L h₁ m₁ → News h₀ L h₁ (news₁ ++ own) →
        wpAny (model prog w) A (assign (.Tuple elts kx px) env (.ref T)) (fun _ s₂ => wpAny (model prog w) A (execs body env) (TurnM h₀ L [s.heap.objs.size + 1, s.heap.objs.size] own (J (i + 1)) R { s with heap := h₁, toks := tk₁ }) (notedBy (model prog w) A env fun e s' => R (.error e) s') s₂) (notedBy (model prog w) A env fun e s' => R (.error e) s') { s with heap := h₁, toks := tk₁ }) →
      (∀ h' tk m' news', Fr h₀ L h' m' → News h₀ L h' news' → J its.size m' news' → wpAny (model prog w) A (execs orelse env) (fun f s₃ => R (.ok f) s₃) (notedBy (model prog w) A env fun e s' => R (.error e) s') { s with heap := h', toks := tk }) →
      wpAny (model prog w) A (pyIter (.ref (s.heap.objs.size + 1))) (fun it s₂ => codeAny (model prog w) A (.forLoop (.Tuple elts kx px) it body orelse env) R s₂) E' { s with heap := h', toks := tk }) → Q (.ref (s.heap.objs.size + 1)) { s with heap := h' }) :
    wpAny (model prog w) A (call (.type "enumerate") [.ref l]) Q E s := by
  have hls : s.heap.IsList l its := ⟨_, (N _ hax).1, rfl, kk, rfl⟩
  have hlt : l < s.heap.objs.size := Heap.lt_size (N _ hax).1
  have none_of : ∀ b, s.heap.objs.size ≤ b → h₀.get? b = none := fun b hb => by
    cases q : h₀.get? b with
    | none => rfl
    | some o => exact absurd (Nat.lt_of_lt_of_le (Heap.lt_size (F.keep _ _ q)) hb) (Nat.lt_irrefl _)
  refine call_enumerate_list hls fun h' he hit hsz hk => hQ h' ⟨F.ns.at' fun o e => hk _ o e, fun b o e => hk b o (F.keep b o e), F.above⟩ (N.grown hk) fun {env R E' elts kx px body orelse tk} hL J h0 step hR => ?_
  subst hL
  refine wpAny_pyIter_enum he ?_
  have W := (WalksT.enumerate (prog := prog) (w := w) hh (s.heap.objs.size + 1) s.heap.objs.size l (Nat.succ_ne_self _) (Nat.ne_of_lt (Nat.lt_succ_of_lt hlt)) (Nat.ne_of_lt hlt) its).toU
  refine for_kt (s := { s with heap := h', toks := tk }) (KTurns.ofWalksU (elts := elts) (k := kx) (pos := px) W) ?_ ?_ ?_ ⟨⟨_, he⟩, hit, hls.at fun o e => hk _ o e⟩ ⟨F.ns.at' fun o e => hk _ o e, fun b o e => hk b o (F.keep b o e), F.above⟩ (N.grown hk) J h0 ?_ hR
  · intro hm
    have hL := F.ns.lt
    simp only [List.mem_cons, List.not_mem_nil, or_false] at hm
    rcases hm with e | e | e
    · rw [e] at hL; exact absurd hL (Nat.not_lt.mpr (Nat.le_succ _))
    · rw [e] at hL; exact Nat.lt_irrefl _ hL
    · exact (N _ hax).2.1 e.symm
  · intro b hb
    simp only [List.mem_cons, List.not_mem_nil, or_false] at hb
    rcases hb with e | e
    · rw [e]; exact none_of _ (Nat.le_succ _)
    · rw [e]; exact none_of _ (Nat.le_refl _)
  · intro p hp hm
    have hL := Heap.lt_size (N p hp).1
    simp only [List.mem_cons, List.not_mem_nil, or_false] at hm
    rcases hm with e | e
    · rw [e] at hL; exact absurd hL (Nat.not_lt.mpr (Nat.le_succ _))
    · rw [e] at hL; exact Nat.lt_irrefl _ hL
  · rintro i v m₁ news₁ h₁ tk₁ own hi ⟨T, vals, rfl, ⟨t, x, hx, rfl⟩, hT⟩ hJ hnw how hin hst F₁ N₁
    obtain ⟨⟨old, he1⟩, ⟨oi, hoi, _⟩, _⟩ := hst
    exact step i T t x m₁ news₁ h₁ tk₁ own hi hx hJ hnw ⟨_, hin _ (.tail _ (.head _)) (none_of _ (Nat.le_refl _)) _ hoi⟩ ⟨_, hin _ (.head _) (none_of _ (Nat.le_succ _)) _ he1⟩ how hT F₁ N₁
end
end Mine
end
section
set_option maxRecDepth 100000
set_option maxHeartbeats 1000000
open PySem PySem.W PyProof.Rows PySem.Calls
namespace Mine
local macro_rules | `(tactic| walk_at "my_enter") => `(tactic| (refine' code_def ?k1 ?k2 ?k3 ?k4 ?k5 ?kA ?kF ?kK ?k6 ?k7 ?k8 ?k9 ?kB ?_ ?c2 ?c3 ?c4 ?c5; (case kA | kF | kK | k1 | k2 | k3 | k4 | k5 => assumption); (case k6 | k7 => k_is); (case k8 => exact Nat.lt_of_lt_of_le (by assumption) (by decide)); (case k9 => first | exact BindsTo.of_eq rfl | exact binds_K (by k_in) rfl (by k_is) rfl rfl rfl); (case c5 => decide); (case kB => exact locs rfl); (case c2 | c3 | c4 => exact rfl); k_whole; intro g' L' h' FG' F' N' B' X' T'; (try dsimp only); (try k_fold)))
theorem ints_mem : ∀ {vs : List Value} {ns : List Int}, IntsAre vs ns → ∀ v ∈ vs, ∃ z t, v = .int z t
  | _, _, .nil, _, h => nomatch h
  | _, _, .cons n t h, v, hv => (List.mem_cons.mp hv).elim (fun e => ⟨n, t, e⟩) (ints_mem h v)
theorem ints_set : ∀ {vs : List Value} {ns : List Int}, IntsAre vs ns → ∀ (j : Nat) (c : Int) (t : Tok), IntsAre (vs.set j (.int c t)) (ns.set j c)
  | _, _, .nil, _, _, _ => .nil
  | _, _, .cons _ _ h, 0, c, t => .cons c t h
  | _, _, .cons n u h, j + 1, c, t => .cons n u (ints_set h j c t)
theorem slice_int {vs : List Value} {ns : List Int} (hi : IntsAre vs ns) {k i : Nat} {v : Value} (h : (slicePick vs.toArray none (some (k : Int)) none)[i]? = some v) : ∃ z t, v = .int z t := by
  rw [kmk_pick_nat _ (sliceBounds_plain none (some (k : Int)) _)] at h
  refine ints_mem hi v ?_
  have h2 := List.mem_of_getElem? (by simpa using h)
  exact List.mem_of_mem_take h2
def CJ (r : Addr) (rest : List (Addr × Obj)) (i : Nat) (m₁ : Str → Option Value) (nw : List (Addr × Obj)) : Prop :=
  ∃ vs n cs, nw = (r, listOf (List.toArray vs) n) :: rest ∧ IntsAre vs cs ∧ cs.length = 6 ∧ (∀ c ∈ cs, 0 ≤ c ∧ c ≤ 19 + 999 * (i : Int)) ∧ m₁ ("row" : Str) = some (.ref r)
theorem op_len6 {prog : Program} {w : World} {A : Around} {s : Shared} {h₀ : Heap} {L a : Addr} {news : List (Addr × Obj)} {E : Value → Shared → Prop} {vs : List Value} {ns : List Int} {n : Nat} {Q : Value → Shared → Prop} (N : News h₀ L s.heap news) (hm : (a, listOf (List.toArray vs) n) ∈ news) (hi : IntsAre vs ns) (h6 : ns.length = 6)
    (h : Q (.int 6 (s.toks + 1)) { s with toks := s.toks + 1 + 1 }) : wpAny (model prog w) A (call (.builtin "len") [.ref a]) Q E s := by
  have e : (vs.toArray.size : Int) = 6 := by rw [List.size_toArray, hi.length, h6]; rfl
  exact len_list (items := vs.toArray) ⟨_, (N _ hm).1, rfl, n, rfl⟩ (by rw [e]; decide) (by rw [e]; exact h)
theorem op_sliceB {prog : Program} {w : World} {A : Around} {s : Shared} {h₀ : Heap} {L l : Addr} {m : Str → Option Value} {news : List (Addr × Obj)} {E : Value → Shared → Prop} {its : Array Value} {lo hi : Option Int} {vl vu : Value} {value slice : PySem.Expr} {Q : Value → Shared → Prop} (F : Fr h₀ L s.heap m) (N : News h₀ L s.heap news) (hl : h₀.IsList l its) (pl : IsPart vl lo) (pu : IsPart vu hi)
    (h : ∀ D h', Fr h₀ L h' m → News h₀ L h' ((D, listOf (slicePick its lo hi none) 0) :: news) → (∀ p ∈ news, p.1 < D) → Q (.ref D) { s with heap := h' })
    (hs : subscripted slice false (.ref l) (.ref s.heap.objs.size) = operate [.ref s.heap.objs.size, .ref l] (getItem (.ref l) (.ref s.heap.objs.size))) (ht : ∀ r, letTemporaryGo value (.ref l) r = pure ()) (hz : its.size ≤ sizeLine) :
    wpAny (model prog w) A (subscriptTail value slice (.ref l) (.ref s.heap.objs.size)) Q E { s with heap := s.heap.push { cls := .type "slice", data := .fields #[vl, vu, .none] } } :=
  kmk_slice F N (hl.at fun o e => F.keep _ o e) pl pu h hs ht hz
local macro_rules | `(tactic| walk_at "subscriptTail Name Slice ref ref") => `(tactic| (k_here; k_dflt (refine' op_sliceB ?F ?N ?l ?p ?q ?_ ?s ?t ?z; (case F | N => k_asm); (case l => with_reducible assumption); (case p | q => kmk_part); (case z => with_reducible assumption); (case s => with_unfolding_all rfl); (case t => kmk_pure)); intro D' h' F' N' l1))
local macro_rules | `(tactic| walk_at "assign Tuple") => `(tactic| (k_here; (with_reducible show wpAny _ _ (assign (Expr.Tuple _ _ _) _ (Value.ref _)) _ _ _); k_dflt (refine' unpackN_ ?F ?N ?T ?k1 ?k2 ?k3 ?_; (case F | N => k_asm); (case T => with_reducible assumption); (case k1 => exact deep_hh (by with_reducible assumption)); (case k2 | k3 => exact rfl)); intro h' F' N'))
local macro_rules | `(tactic| walk_at "call builtin:len") => `(tactic| (k_here; k_dflt (refine' op_len6 ?N ?m ?i ?k ?_; (case N => k_asm); (case m => k_mem); (case i | k => with_reducible assumption))))
local macro_rules | `(tactic| walk_at "getItem ref int") => `(tactic| (k_here; k_dflt (refine' op_lget ?N ?m ?i ?e ?j ?z ?_; (case N => k_asm); (case m => k_mem); (case i | e | j | z => with_reducible assumption)); intro t'))
local macro_rules | `(tactic| walk_at "setItem ref int") => `(tactic| (k_here; k_dflt (refine' op_lset ?F ?N ?e ?j ?z ?U ?_; (case F | N => k_asm); (case U => k_upd); (case e | j | z => with_reducible assumption)); intro h' F' N'))
section
variable {p : Program} {w : World} {A₀ A : Around} {s : Shared} {base h₀ : Heap} {outer : List Env} {L : Addr} {m mg mb : Str → Option Value} {env : Env} {news : List (Addr × Obj)} {loose : List Str} {mean : ExcName → Option Value} {R : Result → Shared → Prop}
local macro_rules | `(tactic| walk_at "call type:enumerate") => `(tactic| (k_here; refine halt ?_))
theorem cells_ok {vs : List Value} {n : Nat} {a r : Addr} {its : List Value} {ns cs : List Int} (B : Below A₀ base outer h₀) (F : Fr h₀ L s.heap m) (X : (MineH.hd.heap_1 w.params).In h₀)  (N : News h₀ L s.heap ((r, listOf (List.toArray vs) n) :: news)) (T : Top p loose mean mg mb h₀)
    (hA : A.frames = some (env :: outer)) (hf : env.frame = some L) (hke : env.scope.kind = .function) (hroom : A.depth < 900) (hh : A.handled = none) (hl : h₀.IsList a its.toArray) (hi : IntsAre its ns) (hz : its.length ≤ 63) (hr : ∀ p ∈ news, p.1 ≠ r)
    (hc : IntsAre vs cs) (hc6 : cs.length = 6) (hcb : ∀ c ∈ cs, 0 ≤ c ∧ c ≤ 19)
    (h : ∀ h' tk vs' n' cs', Fr h₀ L h' m → News h₀ L h' ((r, listOf (List.toArray vs') n') :: news) → IntsAre vs' cs' → cs'.length = 6 → (∀ c ∈ cs', 0 ≤ c ∧ c ≤ 63000) → R (.ok (.ret (.ref r))) { s with heap := h', toks := tk }) :
    codeAny (model PySem.Challenge.rw_wk0026_01.row.prog w) A (.call (.ref 130) ⟨[.ref a, .ref r], []⟩) R s := by
  revert X; k_fill; intro X
  k_dflt (walk_at "my_enter")
  have hl2 : Heap.IsList _ a its.toArray := hl.at fun o e => (by assumption : Fr h₀ L _ m).keep _ _ e
  have hsz : its.toArray.size ≤ sizeLine := by rw [List.size_toArray, sizeLine_eq]; omega
  k_steps
  refine wpAny_For ?_
  k_steps
  rename News _ _ _ _ => N9
  rename Fr _ _ _ _ => F9
  rename Addr => D9
  rename ∀ p ∈ ((r, listOf (List.toArray vs) n) :: news), p.1 < _ => l9
  have N8 := nwc N9 (.tail _ (.head _)) (nwc N9 (.head _) (byMem N9 (news' := news) fun p hp => .tail _ (.tail _ hp)))
  dsimp only [Halt]
  refine enum_loop (s := ⟨_, _, _, _, _⟩) (deep_hh hh) F9 N8 (.tail _ (.head _)) fun h5 F5 N5 K => ?_
  k_steps
  dsimp only [Halt]
  refine K rfl (CJ r _) ⟨vs, n, cs, rfl, hc, hc6, fun c hcm => ⟨(hcb c hcm).1, by have := (hcb c hcm).2; omega⟩, rfl⟩ ?step ?fin
  case fin =>
    intro h' tk' m' news' F3 N3 hJ
    obtain ⟨vs2, n2, cs2, rfl, hc2, hc62, hcb2, m1⟩ := hJ
    have hsz3 : (slicePick its.toArray none (some 12) none).size ≤ 63 := Nat.le_trans (slicePick_size_le _ _ _ _) (by rw [List.size_toArray]; exact hz)
    k_steps
    rename News h₀ _ _ _ => N7
    refine h _ _ vs2 n2 cs2 (by assumption) (byMem N7 fun p hp => by
      rcases List.mem_cons.mp hp with rfl | hp
      · exact .head _
      · exact .tail _ (.tail _ hp)) hc2 hc62 fun c hcm => ⟨(hcb2 c hcm).1, by have := (hcb2 c hcm).2; omega⟩
  case step =>
    intro i T9 t9 v9 m2 news2 h2' tk2 own hi9 hv9 hJ2 hnI ⟨o1, ho1⟩ ⟨o2, ho2⟩ howI hT9 F3 N3
    obtain ⟨vs2, n2, cs2, rfl, hc2, hc62, hcb2, m1⟩ := hJ2
    obtain ⟨z9, t8, rfl⟩ := slice_int hi hv9
    simp only [List.cons_append] at N3
    have hT8 : IsTup h2' T9 #[.int (i : Int) t9, .int z9 t8] := hT9
    have hi6 : i % 6 < 6 := Nat.mod_lt _ (by decide)
    have he6 : (i : Int).fmod 6 = ((i % 6 : Nat) : Int) := by rw [Int.fmod_eq_emod_of_nonneg _ (by decide)]; rfl
    obtain ⟨c9, hc9⟩ : ∃ c, cs2[i % 6]? = some c := ⟨cs2[i % 6], List.getElem?_eq_getElem (by omega)⟩
    have hs6 : vs2.toArray.size = 6 := by rw [List.size_toArray, hc2.length, hc62]
    have hj6 : i % 6 < vs2.toArray.size := by rw [hs6]; exact hi6
    have hf6 : vs2.toArray.size < 1000 := by rw [hs6]; decide
    have hg6 : i % 6 < 1000 := Nat.lt_trans hi6 (by decide)
    have hcm := hcb2 c9 (List.mem_of_getElem? hc9)
    have hrr : ∀ p ∈ (D9, listOf (slicePick its.toArray none (some 12) none) 0) :: (news ++ own), p.1 ≠ r := by
      have hrD : r < D9 := l9 _ (.head _)
      have hrS : r < _ := Heap.lt_size (N8 _ (.head _)).1
      intro p hp
      rcases List.mem_cons.mp hp with rfl | hp
      · exact Nat.ne_of_gt hrD
      · rcases List.mem_append.mp hp with hp | hp
        · exact hr p hp
        · have q := howI p hp
          simp only [List.mem_cons, List.not_mem_nil, or_false] at q
          rcases q with q | q | q
          · rw [q]; exact Nat.ne_of_gt (Nat.lt_succ_of_lt hrS)
          · rw [q]; exact Nat.ne_of_gt hrS
          · rw [q]; exact Nat.ne_of_gt hrD
    have hs1 := ints_set hc2 (i % 6) (c9 + z9.fmod 1000)
    k_steps
    rename News _ _ _ _ => N7
    rename Fr _ _ _ _ => F7
    rw [List.setIfInBounds_toArray] at N7
    refine ⟨_, _, _, (r, listOf (List.toArray (vs2.set (i % 6) (.int (c9 + z9.fmod 1000) _))) n2) :: (D9, listOf (slicePick its.toArray none (some 12) none) 0) :: news, rfl, F7, N7, fun p hp => ?_, vs2.set (i % 6) _, n2, cs2.set (i % 6) (c9 + z9.fmod 1000), rfl, hs1 _, by rw [List.length_set]; exact hc62, fun c hcS => ?_, ?_⟩
    · rcases List.mem_cons.mp hp with rfl | hp
      · exact fun hm => hnI _ (.head _) hm
      · exact hnI p (.tail _ hp)
    · have hz0 : 0 ≤ z9.fmod 1000 := by rw [Int.fmod_eq_emod_of_nonneg _ (by decide)]; exact Int.emod_nonneg _ (by decide)
      have hz1 : z9.fmod 1000 < 1000 := by rw [Int.fmod_eq_emod_of_nonneg _ (by decide)]; exact Int.emod_lt_of_pos _ (by decide)
      rcases List.mem_or_eq_of_mem_set hcS with hcS | rfl
      · have := hcb2 c hcS; push_cast; omega
      · push_cast; omega
    · (try dsimp only); (repeat (refine look_on (by decide +kernel) ?_)); with_reducible assumption
end
end Mine
end
open PySem PySem.W PyProof.Rows PySem.Calls Mine
local macro_rules | `(tactic| walk_at "my_enter") => `(tactic| (refine' code_def ?k1 ?k2 ?k3 ?k4 ?k5 ?kA ?kF ?kK ?k6 ?k7 ?k8 ?k9 ?kB ?_ ?c2 ?c3 ?c4 ?c5; (case kA => exact rfl); (case kF | kK | k1 | k2 | k3 | k4 | k5 => assumption); (case k6 | k7 => k_is); (case k8 => first | k_room | decide); (case k9 => first | exact BindsTo.of_eq rfl | exact binds_K (by k_in) rfl (by k_is) rfl rfl rfl); (case c5 => decide); (case kB => exact locs rfl); (case c2 | c3 | c4 => exact rfl); k_whole; intro g' L' h' FG' F' N' B' X' T'; (try dsimp only); (try k_fold)))
local macro_rules | `(tactic| walk_at "my_enterC") => `(tactic| (refine' code_defC ?k1 ?k2 ?k3 ?k4 ?k5 ?kA ?kF ?kK ?k6 ?k7 ?k8 ?k9 ?kB ?kD ?_ ?c2 ?c3 ?c4; (case kA => exact rfl); (case kF | kK | k1 | k2 | k3 | k4 | k5 => assumption); (case k6 | k7 => k_is); (case k8 => first | k_room | decide); (case k9 => first | exact BindsTo.of_eq rfl | exact binds_K (by k_in) rfl (by k_is) rfl rfl rfl); (case kB => exact rfl); (case kD => decide +kernel); (case c2 | c3 | c4 => exact rfl); k_whole; intro g' L' h' tk' cells' FG' F' N' Y' B' X' T' l1; (try k_lt l1); k_cells Y'; (try simp only [List.cons_append, List.nil_append] at N'); (try dsimp only); (try k_fold)))
local macro_rules | `(tactic| walk_at "CompSrc") => `(tactic| (k_here; refine halt ?_))
local macro_rules | `(tactic| walk_at "CompEnd") => `(tactic| (k_here; refine halt ?_))
section
set_option maxRecDepth 100000
set_option maxHeartbeats 1000000
open PySem PySem.W PyProof.Rows PySem.Calls
namespace Mine
structure Dp where
  at_ : Addr
  x : Nat
  tx : Tok
  y : Nat
  ty : Tok
abbrev Dp.obj (q : Dp) : Obj := { cls := .type "tuple", data := .seq #[.int (q.x : Int) q.tx, .int (q.y : Int) q.ty] }
abbrev refsOfD (qs : List Dp) : Array Value := (qs.map fun q => Value.ref q.at_).toArray
def nearS (nr : List Nat) (d : Nat × Nat) : List Nat := (nr.set d.1 (nr.getD d.1 0 ||| 2 ^ d.2)).set d.2 ((nr.set d.1 (nr.getD d.1 0 ||| 2 ^ d.2)).getD d.2 0 ||| 2 ^ d.1)
def nearP (ds : List (Nat × Nat)) : List Nat := ds.foldl nearS [0, 0, 0, 0, 0, 0]
def afterS (af : List Nat) (x : Nat) : List Nat := af ++ af.map (· ||| x)
def afterP (nr : List Nat) : List Nat := nr.foldl afterS [0]
theorem nearS_len (nr : List Nat) (d : Nat × Nat) : (nearS nr d).length = nr.length := by simp [nearS]
def IntsSet (vs : List Value) (j : Nat) (c : Int) (ns : List Int) : Prop := ∀ t, IntsAre (vs.set j (.int c t)) (ns.set j c)
theorem IntsSet.at {vs : List Value} {j : Nat} {c : Int} {ns : List Int} {t : Tok} (h : IntsSet vs j c ns) : IntsAre (vs.set j (.int c t)) (ns.set j c) := h t
theorem go_any {prog : Program} {w : World} {A : Around} {elts : List PySem.Expr} {k : Nat} {pos : Pos} {I l : Addr} {i : Nat} {v : Value} {s : Shared} {E : Value → Shared → Prop} {Q : Unit → Shared → Prop} (hit : s.heap.IsListIter I l i) (hQ : Q () s) : wpAny (model prog w) A (letOwnedTupleGo (.Tuple elts k pos) (.ref I) v) Q E s := by
  cases v with
  | ref T => exact wpAny_letOwnedTupleGo_listiter hit hQ
  | _ => exact wpAny_pure hQ
theorem getD_int {ns : List Nat} {j : Nat} (h : j < ns.length) : (ns.map Int.ofNat)[j]? = some ((ns.getD j 0 : Nat) : Int) := by
  rw [List.getElem?_map, List.getElem?_eq_getElem h, List.getD_eq_getElem?_getD, List.getElem?_eq_getElem h]; rfl
theorem nearP_step {ds : List Dp} {i : Nat} {d : Dp} (h : ds[i]? = some d) : nearP ((ds.take (i + 1)).map fun d => (d.x, d.y)) = nearS (nearP ((ds.take i).map fun d => (d.x, d.y))) (d.x, d.y) := by
  unfold nearP; rw [List.take_add_one, h]; simp
theorem nearP_len (ds : List (Nat × Nat)) : (nearP ds).length = 6 := by
  unfold nearP
  suffices ∀ (l : List (Nat × Nat)) (nr : List Nat), nr.length = 6 → (l.foldl nearS nr).length = 6 from this ds _ rfl
  intro l
  induction l with
  | nil => exact fun _ h => h
  | cons d l ih => exact fun nr h => ih _ (by rw [nearS_len]; exact h)
theorem ne_all {l c a I : Addr} {oc oa : Obj} {news own : List (Addr × Obj)} (h : c < l ∧ a < l ∧ AllLt l news) (hI : l < I) (how : ∀ p ∈ own, p.1 = I ∨ p.1 = a) : ∀ p ∈ (c, oc) :: (a, oa) :: (news ++ own), p.1 ≠ l := by
  intro p hp
  rcases List.mem_cons.mp hp with rfl | hp
  · exact Nat.ne_of_lt h.1
  · rcases List.mem_cons.mp hp with rfl | hp
    · exact Nat.ne_of_lt h.2.1
    · rcases List.mem_append.mp hp with hp | hp
      · exact Nat.ne_of_lt (allLt_mem h.2.2 p hp)
      · rcases how p hp with e | e
        · rw [e]; exact Nat.ne_of_gt hI
        · rw [e]; exact Nat.ne_of_lt h.2.1
def NJ (l : Addr) (ds : List Dp) (rest : List (Addr × Obj)) (i : Nat) (m₁ : Str → Option Value) (nw : List (Addr × Obj)) : Prop :=
  ∃ vs n, nw = (l, listOf (List.toArray vs) n) :: rest ∧ IntsAre vs ((nearP ((ds.take i).map fun d => (d.x, d.y))).map Int.ofNat) ∧ m₁ ("near" : Str) = some (.ref l)
theorem afterP_len (nr : List Nat) : (afterP nr).length = 2 ^ nr.length := by
  unfold afterP
  suffices ∀ (l : List Nat) (af : List Nat), (l.foldl afterS af).length = af.length * 2 ^ l.length by rw [this]; simp
  intro l
  induction l with
  | nil => intro af; simp
  | cons x l ih => intro af; rw [List.foldl_cons, ih, afterS, List.length_append, List.length_map, List.length_cons, Nat.pow_succ, ← Nat.two_mul, Nat.mul_comm 2, Nat.mul_assoc, Nat.mul_comm 2]
theorem afterP_step {nr : List Nat} {i x : Nat} (h : nr[i]? = some x) : afterP (nr.take (i + 1)) = afterP (nr.take i) ++ (afterP (nr.take i)).map (· ||| x) := by
  unfold afterP; rw [List.take_add_one, h]; simp [afterS]
def AJ (l2 l1 c : Addr) (vs5 : List Value) (n5 : Nat) (nr : List Nat) (rest : List (Addr × Obj)) (i : Nat) (m₁ : Str → Option Value) (nw : List (Addr × Obj)) : Prop :=
  ∃ vs n oc cv, nw = (l2, listOf (List.toArray vs) n) :: (l1, listOf (List.toArray vs5) n5) :: (c, oc) :: rest ∧ IntsAre vs ((afterP (nr.take i)).map Int.ofNat) ∧ oc.data = .cell cv ∧ m₁ ("after" : Str) = some (.ref l2)
local macro_rules | `(tactic| walk_at "assign Tuple") => `(tactic| (k_here; (with_reducible show wpAny _ _ (assign (Expr.Tuple _ _ _) _ (Value.ref _)) _ _ _); k_dflt (refine' unpackN_ ?F ?N ?T ?k1 ?k2 ?k3 ?_; (case F | N => k_asm); (case T => with_reducible assumption); (case k1 | k2 | k3 => exact rfl)); intro h' F' N'))
local macro_rules | `(tactic| walk_at "getItem ref int") => `(tactic| (k_here; k_dflt (refine' op_lget ?gN ?gm ?gi ?ge ?gj ?gz ?_; (case gN => k_asm); (case gm => k_mem); (case gi => first | with_reducible assumption | exact IntsSet.at (by with_reducible assumption)); (case ge => exact rfl); (case gj | gz => with_reducible assumption)); intro t'))
local macro_rules | `(tactic| walk_at "setItem ref int") => `(tactic| (k_here; k_dflt (refine' op_lset ?sF ?sN ?se ?sj ?sz ?sU ?_; (case sF | sN => k_asm); (case sU => k_upd); (case se => exact rfl); (case sj | sz => first | with_reducible assumption | (rw [List.size_toArray, List.length_set]; with_reducible assumption))); intro h' F' N'; (try rw [List.setIfInBounds_toArray] at N')))
local macro_rules | `(tactic| walk_at "eval Name") => `(tactic| (k_here; (with_reducible show wpAny _ _ (eval (Expr.Name _ _) (envOfC _ _ _ _ _)) _ _ _); k_dflt (refine' nameX_L ?F ?hv ?_ ?a ?b; (case F => k_asm); (case a | b => rfl); (case hv => first | (with_reducible assumption) | ((try dsimp only); (repeat (refine look_on (by decide +kernel) ?_)); first | exact look_here (by decide +kernel) rfl | (with_reducible assumption) | rfl)))))
section
variable {p : Program} {w : World} {s : Shared} {base h₀ : Heap} {L : Addr} {m mg mb : Str → Option Value} {env : Env} {news : List (Addr × Obj)} {loose : List Str} {mean : ExcName → Option Value} {R : Result → Shared → Prop}
theorem after_ok {n : Nat} {a : Addr} {ds : List Dp} (B : Below callerA base [] h₀) (F : Fr h₀ L s.heap m) (X : (MineH.hd.heap_1 w.params).In h₀)  (N : News h₀ L s.heap ((a, listOf (refsOfD ds) n) :: news)) (T : Top p loose mean mg mb h₀)
    (hf : env.frame = some L) (hke : env.scope.kind = .function) (hds : ∀ d ∈ ds, (d.at_, d.obj) ∈ news) (hb : ∀ d ∈ ds, d.x < 6 ∧ d.y < 6)
    (h : ∀ h' tk r vs n', Fr h₀ L h' m → News h₀ L h' ((r, listOf (List.toArray vs) n') :: (a, listOf (refsOfD ds) n) :: news) → IntsAre vs ((afterP (nearP (ds.map fun d => (d.x, d.y)))).map Int.ofNat) → a < r ∧ AllLt r news → R (.ok (.ret (.ref r))) { s with heap := h', toks := tk }) :
    codeAny (model PySem.Challenge.rw_wk0026_01.row.prog w) (callerA.deeper env) (.call (.ref 140) ⟨[.ref a], []⟩) R s := by
  revert X; k_fill; intro X
  k_dflt (refine' code_defC ?k1 ?k2 ?k3 ?k4 ?k5 ?kA ?kF ?kK ?k6 ?k7 ?k8 ?k9 ?kB ?kD ?_ ?c2 ?c3 ?c4; (case kA => exact rfl); (case kF => assumption); (case kK => assumption); (case k1 => assumption); (case k2 => assumption); (case k3 => assumption); (case k4 => assumption); (case k5 => assumption); (case k6 => k_is); (case k7 => k_is); (case k8 => first | k_room | decide); (case k9 => first | exact BindsTo.of_eq rfl | exact binds_K (by k_in) rfl (by k_is) rfl rfl rfl); (case kB => exact rfl); (case kD => decide +kernel); (case c2 => exact rfl); (case c3 => exact rfl); (case c4 => exact rfl); k_whole)
  intro g1 L1 h1 tk1 cells1 FG1 F1 N1 Y1 B1 X1 T1 l1
  (try k_lt l1)
  have hc1 : ∀ p ∈ news, p.1 ≠ L1 + 1 := fun p hp => Nat.ne_of_lt (Nat.lt_succ_of_lt (allLt_mem l1.2 p hp))
  have hc2 : ∀ p ∈ news, p.1 ≠ L1 + 1 + 1 := fun p hp => Nat.ne_of_lt (Nat.lt_succ_of_lt (Nat.lt_succ_of_lt (allLt_mem l1.2 p hp)))
  have hc3 : ∀ p ∈ news, p.1 ≠ L1 + 1 + 1 + 1 := fun p hp => Nat.ne_of_lt (Nat.lt_succ_of_lt (Nat.lt_succ_of_lt (Nat.lt_succ_of_lt (allLt_mem l1.2 p hp))))
  k_cells Y1
  (try simp only [List.cons_append, List.nil_append] at N1)
  (try dsimp only)
  (try k_fold)
  k_steps
  refine wpAny_For ?_
  k_steps
  rename News _ _ _ _ => N9
  rename Fr _ _ _ _ => F9
  rename L1 + 1 < _ ∧ _ => l8
  rename Obj => oc9
  dsimp only [Halt]
  refine list_loop rfl F9 N9 (.tail _ (.tail _ (.head _))) (fun i v s' Q E st q => go_any st.1 q) (NJ _ ds _) ⟨_, _, rfl, by show IntsAre _ [0, 0, 0, 0, 0, 0]; exact .cons _ _ (.cons _ _ (.cons _ _ (.cons _ _ (.cons _ _ (.cons _ _ .nil))))), rfl⟩ ?step ?fin
  case fin =>
    intro h5 tk5 m5 news5 F5 N5 hJ
    obtain ⟨vs5, n5, rfl, hc5, m1⟩ := hJ
    rw [List.take_of_length_le (by rw [List.size_toArray, List.length_map]; exact Nat.le_refl _)] at hc5
    k_steps
    refine wpAny_For ?_
    k_steps
    rename _ < _ ∧ L1 + 1 < _ ∧ _ => l7
    rename News _ _ _ _ => N6
    rename Fr _ _ _ _ => F6
    have hI2 : _ < _ := Heap.lt_size (N6 _ (.head _)).1
    dsimp only [Halt]
    refine list_loop rfl F6 N6 (.tail _ (.head _)) (fun i v s' Q E st q => wpAny_pure q) (AJ _ _ _ vs5 n5 (nearP (ds.map fun d => (d.x, d.y))) _) ⟨_, _, oc9, _, rfl, by show IntsAre _ [0]; exact .cons _ _ .nil, by assumption, rfl⟩ ?step2 ?fin2
    case fin2 =>
      intro h5 tk5 m5 news5 F5 N5 hJ
      obtain ⟨vs6, n6, oc6, cv6, rfl, hc6, hcv6, m6⟩ := hJ
      rw [List.take_of_length_le (by rw [List.size_toArray, hc5.length, List.length_map]; exact Nat.le_refl _)] at hc6
      k_steps
      rename News h₀ L h5 _ => kN
      exact h h5 tk5 _ vs6 n6 (by assumption) (fun p hp => kN p (by
        rcases List.mem_cons.mp hp with rfl | hp
        · exact .head _
        · exact .tail _ (.tail _ (.tail _ hp)))) hc6 ⟨l7.2.2.1, l7.2.2.2⟩
    case step2 =>
      intro i v m2 news2 h2 tk2 own oI hi9 hv9 hJ2 hnI hoI hov howI F3 N3
      obtain ⟨vs2, n2, oc2, cv, rfl, hc2, hcc, m1⟩ := hJ2
      obtain ⟨z9, t9, rfl, hz8⟩ := IntsAre.at hc5 i v (by simpa using hv9)
      obtain ⟨x9, hz9, hzz⟩ : ∃ x, (nearP (ds.map fun d => (d.x, d.y)))[i]? = some x ∧ z9 = Int.ofNat x := by
        rw [List.getElem?_map, Option.map_eq_some_iff] at hz8
        obtain ⟨x, e1, e2⟩ := hz8
        exact ⟨x, e1, e2.symm⟩
      simp only [List.cons_append] at N3
      have hI1 : L1 + 1 < _ := Heap.lt_size (N6 _ (.tail _ (.tail _ (.head _)))).1
      have hcr : ∀ p ∈ (a, listOf (refsOfD ds) n) :: (news ++ own), p.1 ≠ L1 + 1 := by
        intro p hp
        rcases List.mem_cons.mp hp with rfl | hp
        · exact Nat.ne_of_lt (Nat.lt_succ_of_lt l1.1)
        · rcases List.mem_append.mp hp with hp | hp
          · exact hc1 p hp
          · rcases howI p hp with e | e
            · rw [e]; exact Nat.ne_of_gt hI1
            · rw [e]; exact Nat.ne_of_gt l8.1
      have hn7 := Nat.ne_of_gt l7.2.1
      have hn8 := Nat.ne_of_gt l8.1
      have hvl2 : vs2.length ≤ 64 := by
        rw [hc2.length, List.length_map, afterP_len]
        exact Nat.pow_le_pow_right (n := 2) (by decide) (Nat.le_trans (Nat.le_trans (List.length_take_le' _ _) (Nat.le_of_eq (nearP_len _))) (Nat.le_refl 6))
      have hsz2 : vs2.toArray.size ≤ sizeLine := by rw [List.size_toArray, sizeLine_eq]; omega
      k_steps
      all_goals (try k_data)
      rename News _ _ _ _ => N4
      rename Fr _ _ _ _ => F4
      rename _ = Data.cell (some _) => hd4
      dsimp only [Halt]
      refine LCg.CompSrc.ledger rfl F4 N4 (.head _) hsz2 ?_
      intro g4
      refine kcf_list (fun k => Builtin.bitOr k z9) hc2 (fun k t I oI C oC D m₂ ys h tk E' hk hC hx F' N' off ne mk => ?_) ?_
      · k_steps
        all_goals (try k_data)
        exact LCg.CompEnd.intro F' N' _ (fun p hp => hp) off (.inr ⟨_, .head _, rfl, _, rfl⟩) ⟨rfl, _, rfl⟩
      · intro ys hys
        unfold LCg.FinE
        intro D7 h7 tk7 F7 N7 o7
        have hyl : ys.length = vs2.length := by rw [hys.length, List.length_map, hc2.length]
        have hv0 : vs2.length ≠ 0 := by
          rw [hc2.length, List.length_map, afterP_len]
          exact Nat.ne_of_gt (Nat.pow_pos (by decide))
        refine op_iadd F7 N7 (.head _) (by rw [List.size_toArray, hyl]; exact hv0) (by rw [List.size_toArray, List.size_toArray]; omega) (.tail (Ne.symm o7.1) (.head ?hap)) ?_
        case hap =>
          intro p hp
          rcases List.mem_cons.mp hp with rfl | hp
          · exact Nat.ne_of_lt l7.1
          · rcases List.mem_cons.mp hp with rfl | hp
            · exact Nat.ne_of_lt l7.2.1
            · rcases List.mem_cons.mp hp with rfl | hp
              · exact Nat.ne_of_lt l7.2.2.1
              · rcases List.mem_append.mp hp with hp | hp
                · exact Nat.ne_of_lt (allLt_mem l7.2.2.2 p hp)
                · rcases howI p hp with e | e
                  · rw [e]; exact Nat.ne_of_gt hI2
                  · rw [e]; exact Nat.ne_of_lt l7.1
        intro h8 F8 N8
        have N8 := newsTail N8
        rw [List.append_toArray] at N8
        k_steps
        all_goals (try k_data)
        rename News _ _ _ _ => N5
        rename Fr _ _ _ _ => F5
        refine ⟨_, _, _, (_, listOf (vs2 ++ ys).toArray (n2 + 1)) :: (_, listOf vs5.toArray n5) :: (L1 + 1, _) :: (a, listOf (refsOfD ds) n) :: news, rfl, F5, N5, fun p hp hm => ?_, vs2 ++ ys, n2 + 1, _, _, rfl, ?_, by assumption, ?_⟩
        · rcases List.mem_cons.mp hp with rfl | hp
          · exact hnI _ (.head _) (List.mem_singleton.mp hm)
          · rcases List.mem_cons.mp hp with rfl | hp
            · exact hnI _ (.tail _ (.head _)) (List.mem_singleton.mp hm)
            · rcases List.mem_cons.mp hp with rfl | hp
              · exact hnI _ (.tail _ (.tail _ (.head _))) (List.mem_singleton.mp hm)
              · exact hnI _ (.tail _ (.tail _ (.tail _ hp))) (List.mem_singleton.mp hm)
        · rw [afterP_step hz9, List.map_append]
          exact IntsAre.append hc2 (by
            have e : (((afterP ((nearP (ds.map fun d => (d.x, d.y))).take i)).map Int.ofNat).map fun k => Builtin.bitOr k z9) = ((afterP ((nearP (ds.map fun d => (d.x, d.y))).take i)).map (· ||| x9)).map Int.ofNat := by
              rw [List.map_map, List.map_map]; exact List.map_congr_left fun k _ => by rw [hzz]; exact bitOr_nat _ _
            rw [← e]; exact hys)
        · (try dsimp only); (repeat (refine look_on (by decide +kernel) ?_)); first | exact look_here (by decide +kernel) rfl | with_reducible assumption
  case step =>
    intro i v m2 news2 h2 tk2 own oI hi9 hv9 hJ2 hnI hoI hov howI F3 N3
    obtain ⟨vs2, n2, rfl, hc2, m1⟩ := hJ2
    obtain ⟨d, hd9, rfl⟩ : ∃ d, ds[i]? = some d ∧ v = .ref d.at_ := by
      simp only [refsOfD, List.getElem?_toArray, List.getElem?_map, Option.map_eq_some_iff] at hv9
      obtain ⟨d, e1, e2⟩ := hv9
      exact ⟨d, e1, e2.symm⟩
    have hdm := List.mem_of_getElem? hd9
    obtain ⟨hx6, hy6⟩ := hb d hdm
    have hT8 : IsTup h2 d.at_ #[.int (d.x : Int) d.tx, .int (d.y : Int) d.ty] := News.isTup N3 (List.mem_append_left _ (.tail _ (.tail _ (.tail _ (hds d hdm)))))
    have hlen := nearP_len ((ds.take i).map fun d => (d.x, d.y))
    have hst := nearP_step hd9
    revert hc2 hlen hst
    generalize nearP ((ds.take i).map fun d => (d.x, d.y)) = nr
    intro hc2 hlen hst
    simp only [List.cons_append] at N3
    have hvl : vs2.length = 6 := by rw [hc2.length, List.length_map, hlen]
    have hg1 := getD_int (ns := nr) (j := d.x) (by omega)
    have hset : (nr.map Int.ofNat).set d.x (Builtin.bitOr ((nr.getD d.x 0 : Nat) : Int) (1 * 2 ^ (d.y : Int).toNat)) = (nr.set d.x (nr.getD d.x 0 ||| 2 ^ d.y)).map Int.ofNat := by
      rw [pow_int, bitOr_nat, List.map_set]; rfl
    have hs1 : IntsSet vs2 d.x (Builtin.bitOr ((nr.getD d.x 0 : Nat) : Int) (1 * 2 ^ (d.y : Int).toNat)) (nr.map Int.ofNat) := fun _ => ints_set hc2 d.x _ _
    have hg2 : ((nr.map Int.ofNat).set d.x (Builtin.bitOr ((nr.getD d.x 0 : Nat) : Int) (1 * 2 ^ (d.y : Int).toNat)))[d.y]? = some (((nr.set d.x (nr.getD d.x 0 ||| 2 ^ d.y)).getD d.y 0 : Nat) : Int) := by
      rw [hset]; exact getD_int (by rw [List.length_set]; omega)
    have hx1 : d.x < 1000 := by omega
    have hy1 : d.y < 1000 := by omega
    have hj1 : d.x < vs2.toArray.size := by rw [List.size_toArray]; omega
    have hj2 : d.y < vs2.length := by omega
    have hj3 : vs2.toArray.size < 1000 := by rw [List.size_toArray]; omega
    have hj4 : vs2.length < 1000 := by omega
    have hlr := ne_all (own := own) (oc := oc9) (oa := listOf (refsOfD ds) n) l8 (Heap.lt_size (N9 _ (.head _)).1) howI
    have hfin : ∀ vsx, IntsAre vsx (((nr.map Int.ofNat).set d.x (Builtin.bitOr ((nr.getD d.x 0 : Nat) : Int) (1 * 2 ^ (d.y : Int).toNat))).set d.y (Builtin.bitOr (((nr.set d.x (nr.getD d.x 0 ||| 2 ^ d.y)).getD d.y 0 : Nat) : Int) (1 * 2 ^ (d.x : Int).toNat))) → IntsAre vsx ((nearP ((ds.take (i + 1)).map fun d => (d.x, d.y))).map Int.ofNat) := by
      intro vsx hv
      rw [hset, pow_int, bitOr_nat] at hv
      rw [hst]
      unfold nearS
      rw [List.map_set]
      exact hv
    clear hst hset hds hb
    k_steps
    rename News _ _ _ _ => N7
    rename Fr _ _ _ _ => F7
    refine ⟨_, _, _, (_, listOf (List.toArray ((vs2.set d.x _).set d.y _)) n2) :: (L1 + 1, oc9) :: (a, listOf (refsOfD ds) n) :: news, rfl, F7, N7, fun p hp hm => ?_, _, n2, rfl, hfin _ (ints_set (hs1 _) d.y _ _), ?_⟩
    · rcases List.mem_cons.mp hp with rfl | hp
      · exact hnI _ (.head _) (List.mem_singleton.mp hm)
      · exact hnI p (.tail _ hp) (List.mem_singleton.mp hm)
    · (try dsimp only); (repeat (refine look_on (by decide +kernel) ?_)); with_reducible assumption
end
end Mine
end
section
set_option maxRecDepth 100000
open PySem PySem.W PyProof.Rows PySem.Calls
namespace Mine
section
variable {prog : Program} {w : World} {A : Around} {h₀ : Heap} {L : Addr} {m : Str → Option Value} {env : Env} {elt : PySem.Expr} {x : Str} {scope : Scope} {cl : List (Str × Addr)} {s : Shared} {S : List (Addr × Obj) → Prop} {P : Nat → Value → Prop} {Fin : List Value → List (Addr × Obj) → Prop} {news : List (Addr × Obj)}
theorem comp_inv {n : Nat} (J : Nat → List Value → List (Addr × Obj) → Prop) (h0 : J 0 [] news)
    (turn : ∀ i v nw I oI C oC D m₂ ys h tk (E' : Value → Shared → Prop), i < n → P i v → J i ys nw → LCg.NsObj oC m₂ → m₂ x = some v → Fr h₀ L h m → News h₀ L h ((I, oI) :: (C, oC) :: (D, LCg.lst ys) :: nw) → LCg.Off3 I C D nw → ((@Ne Nat I C) ∧ (@Ne Nat I D) ∧ (@Ne Nat C D)) →
      wpAny (model prog w) A (eval elt (compEnvC scope cl C env)) (LCg.CompEnd h₀ L m { s with heap := h, toks := tk } I oI C oC D (LCg.lst ys) S (fun y nw' => J (i + 1) (ys ++ [y]) nw')) E' { s with heap := h, toks := tk })
    (fin : ∀ ys nw, J n ys nw → Fin ys nw) : LCg.CompRest prog w A h₀ L m env elt x scope cl s S P Fin n 0 [] news := by
  have key : ∀ (j i : Nat) (ys : List Value) (nw : List (Addr × Obj)), i + j = n → J i ys nw → LCg.CompRest prog w A h₀ L m env elt x scope cl s S P Fin j i ys nw := by
    intro j
    induction j with
    | zero =>
      intro i ys nw hi hy
      obtain rfl : i = n := by omega
      exact LCg.CompRest.zero (fin ys nw hy)
    | succ j ih =>
      intro i ys nw hi hy
      refine LCg.CompRest.succ ?_
      intro v I oI C oC D m₂ h tk E' hv hC hx F N off ne
      refine wpAny_mono (turn i v nw I oI C oC D m₂ ys h tk E' (by omega) hv hy hC hx F N off ne) (fun y s₂ hq => ?_) fun _ _ e => e
      obtain ⟨h', tk', nw', e, F', N', off', hS, hJ⟩ := hq
      exact ⟨h', tk', nw', e, F', N', off', hS, ih (i + 1) _ _ (by omega) hJ⟩
  exact key n 0 [] news (by omega) h0
end
end Mine
end
section
set_option maxRecDepth 100000
open PySem PySem.W PyProof.Rows PySem.Calls
namespace Mine
theorem turn2_outer (elt t0 i0 t1 i1 : PySem.Expr) (scope : Scope) (pos : Pos) (it acc : Value) (env : Env) :
    compTurn (.ListComp elt [⟨t0, i0, [], 0⟩, ⟨t1, i1, [], 0⟩] scope pos) 0 it acc env = (standAt i0.pos >>= fun _ => pyNext it >>= fun r => match r with
      | none => pure (.done .next)
      | some v => letOwnedTupleGo t0 it v >>= fun _ => assign t0 env v >>= fun _ =>
        eval i1 env >>= fun x => standAt i1.pos >>= fun _ => foldedSetIterable i1 env x >>= fun x => holding [x] (pyIter x) >>= fun it1 =>
          runOwn (.compStart (.ListComp elt [⟨t0, i0, [], 0⟩, ⟨t1, i1, [], 0⟩] scope pos) 1 it1 acc env) env >>= fun _ =>
          again (.compLoop (.ListComp elt [⟨t0, i0, [], 0⟩, ⟨t1, i1, [], 0⟩] scope pos) 0 it acc env)) := by rfl
theorem turn2_inner (elt t0 i0 t1 i1 : PySem.Expr) (scope : Scope) (pos : Pos) (it acc : Value) (env : Env) :
    compTurn (.ListComp elt [⟨t0, i0, [], 0⟩, ⟨t1, i1, [], 0⟩] scope pos) 1 it acc env = (standAt i1.pos >>= fun _ => pyNext it >>= fun r => match r with
      | none => pure (.done .next)
      | some v => letOwnedTupleGo t1 it v >>= fun _ => assign t1 env v >>= fun _ =>
        (eval elt env >>= fun x => call (.builtin "list.append") [acc, x] >>= fun _ => pure ()) >>= fun _ =>
          again (.compLoop (.ListComp elt [⟨t0, i0, [], 0⟩, ⟨t1, i1, [], 0⟩] scope pos) 1 it acc env)) := by rfl
section
variable {prog : Program} {w : World} {A : Around} {E : Value → Shared → Prop} {R : Result → Shared → Prop} {s : Shared}
theorem loop2_inner {elt t0 i0 t1 i1 : PySem.Expr} {scope : Scope} {pos : Pos} {it acc : Value} {env : Env} (I : Nat → Shared → Prop)
    (turn : ∀ n s, I n s → ∀ E', wpAny (model prog w) A (pyNext it) (fun r s₁ => match r with
      | none => R (.ok .next) s₁
      | some v => wpAny (model prog w) A (assign t1 env v) (fun _ s₂ => wpAny (model prog w) A (eval elt env) (fun x s₄ =>
              wpAny (model prog w) A (call (.builtin "list.append") [acc, x]) (fun _ s₅ => ∃ m, m < n ∧ I m s₅) E' s₄) E' s₂) E' s₁) E' s)
    (n : Nat) (h : I n s) (ht : ∀ v, letOwnedTupleGo t1 it v = pure () := by intro _; rfl) :
    codeAny (model prog w) A (.compLoop (.ListComp elt [⟨t0, i0, [], 0⟩, ⟨t1, i1, [], 0⟩] scope pos) 1 it acc env) R s := by
  refine codeAny_loop rfl I (fun n s hI => ?_) n h
  show wpAny _ A ((compTurn (.ListComp elt [⟨t0, i0, [], 0⟩, ⟨t1, i1, [], 0⟩] scope pos) 1 it acc env).onRaise (fun x => do noteFrame x env; theTreesLotGoes x)) _ _ s
  refine wpAny_noted ?_
  rw [turn2_inner]
  refine wpAny_bind (wpAny_standAt (wpAny_bind (wpAny_mono (turn n s hI _) (fun r s₁ h₁ => ?_) fun _ _ h' => h')))
  cases r with
  | none => exact wpAny_pure h₁
  | some v =>
    refine wpAny_bind (wpAny_of_eq (ht v) ?_)
    exact wpAny_bind (wpAny_mono h₁ (fun _ s₂ h₂ => wpAny_bind (wpAny_bind (wpAny_mono h₂ (fun x s₄ h₄ => wpAny_bind (wpAny_mono h₄ (fun _ s₅ h₅ => wpAny_pure (wpAny_pure ⟨rfl, h₅⟩)) fun _ _ h' => h')) fun _ _ h' => h'))) fun _ _ h' => h')
theorem loop2_outer {elt t0 i0 t1 i1 : PySem.Expr} {scope : Scope} {pos : Pos} {it acc : Value} {env : Env} (I : Nat → Shared → Prop)
    (turn : ∀ n s, I n s → ∀ E', wpAny (model prog w) A (pyNext it) (fun r s₁ => match r with
      | none => R (.ok .next) s₁
      | some v => wpAny (model prog w) A (assign t0 env v) (fun _ s₂ => wpAny (model prog w) A (eval i1 env) (fun x s₃ =>
          wpAny (model prog w) A (pyIter x) (fun it1 s₄ => codeAny (model prog w) A (.compStart (.ListComp elt [⟨t0, i0, [], 0⟩, ⟨t1, i1, [], 0⟩] scope pos) 1 it1 acc env) (fun r s₅ => (∃ f, r = .ok f) ∧ ∃ m, m < n ∧ I m s₅) s₄) E' s₃) E' s₂) E' s₁) E' s)
    (n : Nat) (h : I n s) (ht : ∀ v, letOwnedTupleGo t0 it v = pure () := by intro _; rfl) (hs : ∀ x, foldedSetIterable i1 env x = pure x := by intro _; rfl) :
    codeAny (model prog w) A (.compLoop (.ListComp elt [⟨t0, i0, [], 0⟩, ⟨t1, i1, [], 0⟩] scope pos) 0 it acc env) R s := by
  refine codeAny_loop rfl I (fun n s hI => ?_) n h
  show wpAny _ A ((compTurn (.ListComp elt [⟨t0, i0, [], 0⟩, ⟨t1, i1, [], 0⟩] scope pos) 0 it acc env).onRaise (fun x => do noteFrame x env; theTreesLotGoes x)) _ _ s
  refine wpAny_noted ?_
  rw [turn2_outer]
  refine wpAny_bind (wpAny_standAt (wpAny_bind (wpAny_mono (turn n s hI _) (fun r s₁ h₁ => ?_) fun _ _ h' => h')))
  cases r with
  | none => exact wpAny_pure h₁
  | some v =>
    refine wpAny_bind (wpAny_of_eq (ht v) ?_)
    refine wpAny_bind (wpAny_mono h₁ (fun _ s₂ h₂ => wpAny_bind (wpAny_mono h₂ (fun x s₃ h₃ => wpAny_bind (wpAny_standAt (wpAny_bind (wpAny_of_eq (hs x) (wpAny_bind (wpAny_holding (wpAny_mono h₃ (fun it1 s₄ h₄ => ?_) fun _ _ h' => h'))))))) fun _ _ h' => h')) fun _ _ h' => h')
    refine wpAny_bind (wpAny_runOwn (by rw [Around.mark_none]; exact codeAny_mono h₄ fun r s₅ h₅ => (by
      obtain ⟨⟨f, rfl⟩, h₅⟩ := h₅
      exact wpAny_pure ⟨rfl, h₅⟩)))
theorem start2_inner {elt t0 i0 t1 i1 : PySem.Expr} {scope : Scope} {pos : Pos} {it acc : Value} {env : Env}
    (h0 : codeAny (model prog w) A (.compLoop (.ListComp elt [⟨t0, i0, [], 0⟩, ⟨t1, i1, [], 0⟩] scope pos) 1 it acc env) R s)
    (h : ∀ E', wpAny (model prog w) A (pyIter it) (fun it' s' => codeAny (model prog w) A (.compLoop (.ListComp elt [⟨t0, i0, [], 0⟩, ⟨t1, i1, [], 0⟩] scope pos) 1 it' acc env) R s') E' s) :
    codeAny (model prog w) A (.compStart (.ListComp elt [⟨t0, i0, [], 0⟩, ⟨t1, i1, [], 0⟩] scope pos) 1 it acc env) R s := by
  refine codeAny_of_tree ?_
  show wpAny _ _ ((compStart (.ListComp elt [⟨t0, i0, [], 0⟩, ⟨t1, i1, [], 0⟩] scope pos) 1 it acc env).onRaise (fun x => do noteFrame x env; standAt theWindowsPlace)) _ _ s
  refine wpAny_notedAt ?_
  unfold compStart
  show wpAny _ _ (ask >>= _) _ _ s
  refine wpAny_bind (wpAny_askSetting (wpAny_ite ?_))
  split
  · first
      | exact wpAny_bind (wpAny_pure (wpAny_pure (And.intro rfl h0)))
      | exact wpAny_pure (And.intro rfl h0)
  · first
      | exact wpAny_bind (wpAny_rule (wpAny_bind (wpAny_standAt (wpAny_bind (wpAny_mono (h _) (fun it' s' h' => wpAny_pure (And.intro rfl h')) fun _ _ x => x)))))
      | (refine wpAny_bind (wpAny_rule ?_); show wpAny _ _ (standAt i1.pos >>= _) _ _ s; exact wpAny_bind (wpAny_standAt (wpAny_bind (wpAny_mono (h _) (fun it' s' h' => wpAny_pure (And.intro rfl h')) fun _ _ x => x))))
end
end Mine
end
section
set_option maxRecDepth 100000
open PySem PySem.W PyProof.Rows PySem.Calls PyProof.Rows.LCg
namespace Mine
section
variable {prog : Program} {w : World} {A : Around} {h₀ : Heap} {L : Addr} {m : Str → Option Value} {env : Env}
theorem inner2 {elt i0 i1 : PySem.Expr} {x0 x1 : Str} {p0 p1 : Pos} {scope : Scope} {cl : List (Str × Addr)} {pos : Pos} {s₂ : Shared} {I C D : Addr} {fp : List Addr} {n : Nat} {v0 : Value} {P : Nat → Value → Prop} {St : Nat → Heap → Prop} {R : Result → Shared → Prop}
    (J : Nat → List Value → List (Addr × Obj) → Prop)
    (W : Walks prog w A I fp [I] n P St) (hIo : ∀ i h, St i h → ∃ o, h.get? I = some o)
    (hSt : ∀ i ys h h' o nw, J i ys nw → St i h → h.get? I = some o → h'.get? I = some o → News h₀ L h' nw → (∀ b o, h₀.get? b = some o → h'.get? b = some o) → St i h')
    (hJn : ∀ i ys nw, J i ys nw → i < n → ys.length ≤ sizeLine)
    (hkind : scope.kind = .function) (hx : scope.names.lookup x1 = some .local) (h01 : x0 ≠ x1)
    (hCL : C ≠ L) (hIL : L ≠ I) (hDL : D ≠ L) (hI₀ : h₀.get? I = none) (hC₀ : h₀.get? C = none) (hD₀ : h₀.get? D = none) (hCI : I ≠ C) (hDI : I ≠ D) (hCD : C ≠ D) (hCf : C ∉ fp) (hDf : D ∉ fp)
    (turn : ∀ i v nw oI oC m₂ ys h tk (E' : Value → Shared → Prop), i < n → P i v → J i ys nw → LCg.NsObj oC m₂ → m₂ x0 = some v0 → m₂ x1 = some v → Fr h₀ L h m → News h₀ L h ((I, oI) :: (C, oC) :: (D, LCg.lst ys) :: nw) → LCg.Off3 I C D nw →
      wpAny (model prog w) A (eval elt (compEnvC scope cl C env)) (LCg.CompEnd h₀ L m { s₂ with heap := h, toks := tk } I oI C oC D (LCg.lst ys) (fun _ => True) (fun y nw' => J (i + 1) (ys ++ [y]) nw')) E' { s₂ with heap := h, toks := tk })
    (fin : ∀ h tk m' ys nw, J n ys nw → Fr h₀ L h m → News h₀ L h ((D, lst ys) :: nw) → Off3 I C D nw → h.Ns C m' → m' x0 = some v0 → R (.ok .next) { s₂ with heap := h, toks := tk })
    {h tk m' ys nw} (hst : St 0 h) (hJ : J 0 ys nw) (F : Fr h₀ L h m) (N : News h₀ L h ((D, lst ys) :: nw)) (off : Off3 I C D nw) (hn : h.Ns C m') (hm0 : m' x0 = some v0) :
    codeAny (model prog w) A (.compLoop (.ListComp elt [⟨.Name x0 p0, i0, [], 0⟩, ⟨.Name x1 p1, i1, [], 0⟩] scope pos) 1 (.ref I) (.ref D) (compEnvC scope cl C env)) R { s₂ with heap := h, toks := tk } := by
  refine loop2_inner
    (fun k s' => ∃ h' tk i ys m' news', s' = { s₂ with heap := h', toks := tk } ∧ i ≤ n ∧ k = n + 1 - i ∧ J i ys news' ∧ St i h' ∧ Fr h₀ L h' m ∧ h'.Ns C m' ∧ m' x0 = some v0 ∧ News h₀ L h' ((D, lst ys) :: news') ∧ Off3 I C D news') ?_ (n + 1)
    ⟨h, tk, 0, ys, m', nw, rfl, Nat.zero_le _, rfl, hJ, hst, F, hn, hm0, N, off⟩
  rintro k s' ⟨h', tk, i, ys, m', news', rfl, hi, rfl, hJ', hst', F', hn', hm', N', off'⟩ E'
  by_cases hlt : i < n
  · refine W.item i _ _ _ hlt hst' fun v h₂ tk₂ hPv hst₂ hk₂ => ?_
    refine wpAny_assign_Name (wpAny_storeName_local (lookup_relabel_local hx) (hn'.at' fun o e => hk₂ _ o (by simpa using Ne.symm hCI) e) (fun h₃ hn₃ hs₃ => ?_) (by simp [compEnvC, relabel, hkind]))
    have hst₃ : St (i + 1) h₃ := W.frame _ _ _ hst₂ fun b hb o e => hs₃.extBut b o (fun q => hCf (by have q' : b = C := q; rw [← q']; exact hb)) e
    obtain ⟨oI, heI⟩ := hIo _ _ hst₃
    obtain ⟨oC, heC, hoC⟩ := ns_obj hn₃
    have F₃ : Fr h₀ L h₃ m := (fr_but F' hk₂ hIL hI₀).change hs₃ hCL hC₀
    have off3 := off'.mem
    have N₂ : News h₀ L h₂ ((D, lst ys) :: news') := news_but N' hk₂ fun p hp => by
      rcases List.mem_cons.mp hp with rfl | hp
      · exact Ne.symm hDI
      · exact (off3 p hp).1
    have N₃ : News h₀ L h₃ ((I, oI) :: (C, oC) :: (D, lst ys) :: news') := fun p hp => by
      rcases List.mem_cons.mp hp with rfl | hp
      · exact ⟨heI, Ne.symm hIL, hI₀⟩
      · rcases List.mem_cons.mp hp with rfl | hp
        · exact ⟨heC, hCL, hC₀⟩
        · have z := N₂ p hp
          refine ⟨hs₃.extBut _ _ ?_ z.1, z.2⟩
          rcases List.mem_cons.mp hp with rfl | hp
          · exact Ne.symm hCD
          · exact (off3 p hp).2.1
    refine wpAny_mono (turn i v news' oI oC _ ys h₃ _ _ hlt hPv hJ' hoC (by simp [h01, hm']) (by simp) F₃ N₃ off') (fun y s₄ h₄ => ?_) fun _ _ e => e
    obtain ⟨h₄, tk₄, news₄, rfl, F₄, N₄, off₄, _, J₄⟩ := h₄
    have zI := (N₄ (I, oI) List.mem_cons_self).1
    have zC := (N₄ (C, oC) (List.mem_cons_of_mem _ List.mem_cons_self)).1
    have zD := (N₄ (D, lst ys) (List.mem_cons_of_mem _ (List.mem_cons_of_mem _ List.mem_cons_self))).1
    have N₄' : News h₀ L h₄ news₄ := fun p hp => N₄ p (List.mem_cons_of_mem _ (List.mem_cons_of_mem _ (List.mem_cons_of_mem _ hp)))
    have hst₄ : St (i + 1) h₄ := hSt _ _ _ _ _ _ J₄ hst₃ heI zI N₄' F₄.keep
    refine append_at (hsz := by show ys.toArray.size ≤ sizeLine; rw [List.size_toArray]; exact hJn _ _ _ hJ' hlt) zD fun h₅ hs₅ hD₅ => ?_
    have off4 := off₄.mem
    refine ⟨n + 1 - (i + 1), by omega, h₅, tk₄, i + 1, ys ++ [y], _, news₄, rfl, hlt, rfl, J₄, W.frame _ _ _ hst₄ fun b hb o e => hs₅.extBut b o (fun q => hDf (q ▸ hb)) e, F₄.change hs₅ hDL hD₀,
      (hoC.ns zC).sameBut hs₅ hCD, by simp [h01, hm'], fun p hp => ?_, off₄⟩
    rcases List.mem_cons.mp hp with rfl | hp
    · exact ⟨hD₅.trans (congrArg some (lst_snoc ys y)), hDL, hD₀⟩
    · exact ⟨hs₅.extBut _ _ (off4 p hp).2.2 (N₄' p hp).1, (N₄' p hp).2⟩
  · obtain rfl : i = n := Nat.le_antisymm hi (Nat.not_lt.mp hlt)
    refine W.done _ _ _ hst' fun h₂ tk₂ hk₂ => ?_
    have off3 := off'.mem
    exact fin h₂ tk₂ m' ys news' hJ' (fr_but F' hk₂ hIL hI₀) (news_but N' hk₂ fun p hp => by
      rcases List.mem_cons.mp hp with rfl | hp
      · exact Ne.symm hDI
      · exact (off3 p hp).1) off' (hn'.at' fun o e => hk₂ _ o (by simpa using Ne.symm hCI) e) hm'
def Turn2 (prog : Program) (w : World) (A : Around) (h₀ : Heap) (L : Addr) (m : Str → Option Value) (e : PySem.Expr) (I C D : Addr) (oI : Obj) (cenv : Env) (s₂ : Shared) (J : List Value → List (Addr × Obj) → Prop) (x : Value) (s₃ : Shared) : Prop :=
  ∀ E', wpAny (model prog w) A (pyIter x) (fun it1 s₄ => codeAny (model prog w) A (.compStart e 1 it1 (.ref D) cenv)
    (fun r s₅ => (∃ f, r = .ok f) ∧ ∃ h' tk' ys' nw' m', s₅ = { s₂ with heap := h', toks := tk' } ∧ Fr h₀ L h' m ∧ News h₀ L h' ((I, oI) :: (D, lst ys') :: nw') ∧ Off3 I C D nw' ∧ h'.Ns C m' ∧ J ys' nw') s₄) E' s₃
theorem outer2 {elt i0 i1 : PySem.Expr} {x0 x1 : Str} {p0 p1 : Pos} {scope : Scope} {cl : List (Str × Addr)} {pos : Pos} {s₂ : Shared} {I C D : Addr} {fp : List Addr} {n : Nat} {P : Nat → Value → Prop} {St : Nat → Heap → Prop} {R : Result → Shared → Prop}
    (J : Nat → List Value → List (Addr × Obj) → Prop)
    (W : Walks prog w A I fp [I] n P St) (hIo : ∀ i h, St i h → ∃ o, h.get? I = some o)
    (hSt : ∀ i ys h h' o nw, J i ys nw → St i h → h.get? I = some o → h'.get? I = some o → News h₀ L h' nw → (∀ b o, h₀.get? b = some o → h'.get? b = some o) → St i h')
    (hkind : scope.kind = .function) (hx : scope.names.lookup x0 = some .local)
    (hCL : C ≠ L) (hIL : L ≠ I) (hDL : D ≠ L) (hI₀ : h₀.get? I = none) (hC₀ : h₀.get? C = none) (hD₀ : h₀.get? D = none) (hCI : I ≠ C) (hDI : I ≠ D) (hCD : C ≠ D) (hCf : C ∉ fp)
    (turn : ∀ i v nw oI oC m₂ ys h tk (E' : Value → Shared → Prop), i < n → P i v → J i ys nw → LCg.NsObj oC m₂ → m₂ x0 = some v → Fr h₀ L h m → News h₀ L h ((I, oI) :: (C, oC) :: (D, LCg.lst ys) :: nw) → LCg.Off3 I C D nw →
      wpAny (model prog w) A (eval i1 (compEnvC scope cl C env)) (Turn2 prog w A h₀ L m (.ListComp elt [⟨.Name x0 p0, i0, [], 0⟩, ⟨.Name x1 p1, i1, [], 0⟩] scope pos) I C D oI (compEnvC scope cl C env) s₂ (J (i + 1))) E' { s₂ with heap := h, toks := tk })
    (fin : ∀ h tk m' ys nw, J n ys nw → Fr h₀ L h m → News h₀ L h ((D, lst ys) :: nw) → Off3 I C D nw → h.Ns C m' → R (.ok .next) { s₂ with heap := h, toks := tk })
    {h tk m' ys nw} (hst : St 0 h) (hJ : J 0 ys nw) (F : Fr h₀ L h m) (N : News h₀ L h ((D, lst ys) :: nw)) (off : Off3 I C D nw) (hn : h.Ns C m')
    (hs : ∀ x, foldedSetIterable i1 (compEnvC scope cl C env) x = pure x := by intro _; rfl) :
    codeAny (model prog w) A (.compLoop (.ListComp elt [⟨.Name x0 p0, i0, [], 0⟩, ⟨.Name x1 p1, i1, [], 0⟩] scope pos) 0 (.ref I) (.ref D) (compEnvC scope cl C env)) R { s₂ with heap := h, toks := tk } := by
  refine loop2_outer
    (fun k s' => ∃ h' tk i ys m' news', s' = { s₂ with heap := h', toks := tk } ∧ i ≤ n ∧ k = n + 1 - i ∧ J i ys news' ∧ St i h' ∧ Fr h₀ L h' m ∧ h'.Ns C m' ∧ News h₀ L h' ((D, lst ys) :: news') ∧ Off3 I C D news') ?_ (n + 1)
    ⟨h, tk, 0, ys, m', nw, rfl, Nat.zero_le _, rfl, hJ, hst, F, hn, N, off⟩ (hs := hs)
  rintro k s' ⟨h', tk, i, ys, m', news', rfl, hi, rfl, hJ', hst', F', hn', N', off'⟩ E'
  by_cases hlt : i < n
  · refine W.item i _ _ _ hlt hst' fun v h₂ tk₂ hPv hst₂ hk₂ => ?_
    refine wpAny_assign_Name (wpAny_storeName_local (lookup_relabel_local hx) (hn'.at' fun o e => hk₂ _ o (by simpa using Ne.symm hCI) e) (fun h₃ hn₃ hs₃ => ?_) (by simp [compEnvC, relabel, hkind]))
    have hst₃ : St (i + 1) h₃ := W.frame _ _ _ hst₂ fun b hb o e => hs₃.extBut b o (fun q => hCf (by have q' : b = C := q; rw [← q']; exact hb)) e
    obtain ⟨oI, heI⟩ := hIo _ _ hst₃
    obtain ⟨oC, heC, hoC⟩ := ns_obj hn₃
    have F₃ : Fr h₀ L h₃ m := (fr_but F' hk₂ hIL hI₀).change hs₃ hCL hC₀
    have off3 := off'.mem
    have N₂ : News h₀ L h₂ ((D, lst ys) :: news') := news_but N' hk₂ fun p hp => by
      rcases List.mem_cons.mp hp with rfl | hp
      · exact Ne.symm hDI
      · exact (off3 p hp).1
    have N₃ : News h₀ L h₃ ((I, oI) :: (C, oC) :: (D, lst ys) :: news') := fun p hp => by
      rcases List.mem_cons.mp hp with rfl | hp
      · exact ⟨heI, Ne.symm hIL, hI₀⟩
      · rcases List.mem_cons.mp hp with rfl | hp
        · exact ⟨heC, hCL, hC₀⟩
        · have z := N₂ p hp
          refine ⟨hs₃.extBut _ _ ?_ z.1, z.2⟩
          rcases List.mem_cons.mp hp with rfl | hp
          · exact Ne.symm hCD
          · exact (off3 p hp).2.1
    refine wpAny_mono (turn i v news' oI oC _ ys h₃ _ _ hlt hPv hJ' hoC (by simp) F₃ N₃ off') (fun x s₃ ht => ?_) fun _ _ e => e
    refine wpAny_mono (ht _) (fun it1 s₄ hc => codeAny_mono hc fun r s₅ hr => ?_) fun _ _ e => e
    obtain ⟨hf, h₄, tk₄, ys₄, news₄, m₄, rfl, F₄, N₄, off₄, hn₄, J₄⟩ := hr
    have zI := (N₄ (I, oI) List.mem_cons_self).1
    have hst₄ : St (i + 1) h₄ := hSt _ _ _ _ _ _ J₄ hst₃ heI zI (fun p hp => N₄ p (.tail _ (.tail _ hp))) F₄.keep
    exact ⟨hf, n + 1 - (i + 1), by omega, h₄, tk₄, i + 1, ys₄, m₄, news₄, rfl, hlt, rfl, J₄, hst₄, F₄, hn₄, fun p hp => N₄ p (.tail _ hp), off₄⟩
  · obtain rfl : i = n := Nat.le_antisymm hi (Nat.not_lt.mp hlt)
    refine W.done _ _ _ hst' fun h₂ tk₂ hk₂ => ?_
    have off3 := off'.mem
    exact fin h₂ tk₂ m' ys news' hJ' (fr_but F' hk₂ hIL hI₀) (news_but N' hk₂ fun p hp => by
      rcases List.mem_cons.mp hp with rfl | hp
      · exact Ne.symm hDI
      · exact (off3 p hp).1) off' (hn'.at' fun o e => hk₂ _ o (by simpa using Ne.symm hCI) e)
end
end Mine
end
section
set_option maxRecDepth 100000
open PySem PySem.W PyProof.Rows PySem.Calls PyProof.Rows.LCg
namespace Mine
section
variable {prog : Program} {w : World} {A : Around} {h₀ : Heap} {L : Addr} {m : Str → Option Value} {env : Env} {E : Value → Shared → Prop}
theorem block2 {elt i0 i1 : PySem.Expr} {x0 x1 : Str} {p0 p1 : Pos} {scope : Scope} {cl : List (Str × Addr)} {pos : Pos} {s₂ : Shared} {I : Addr} {fp : List Addr} {n : Nat} {P : Nat → Value → Prop} {St : Nat → Heap → Prop} {news : List (Addr × Obj)} {RR : Value → Addr → Result → Shared → Prop}
    (J : Nat → List Value → List (Addr × Obj) → Prop)
    (W : Walks prog w A I fp [I] n P St) (hIo : ∀ i h, St i h → ∃ o, h.get? I = some o)
    (hSt : ∀ i ys h h' o nw, J i ys nw → St i h → h.get? I = some o → h'.get? I = some o → News h₀ L h' nw → (∀ b o, h₀.get? b = some o → h'.get? b = some o) → St i h')
    (hcell : ∀ y ∈ scope.names, y.2 ≠ .cell) (hkind : scope.kind = .function) (hx : scope.names.lookup x0 = some .local) (hst : St 0 s₂.heap) (hfp : ∀ b ∈ fp, b < s₂.heap.objs.size)
    (F : Fr h₀ L s₂.heap m) (N : News h₀ L s₂.heap news) (hIL : L ≠ I) (hI₀ : h₀.get? I = none) (off : ∀ p ∈ news, p.1 ≠ I) (hJ : J 0 [] news)
    (turn : ∀ C D, C ≠ L → D ≠ L → h₀.get? C = none → h₀.get? D = none → I ≠ C → I ≠ D → C ≠ D → ∀ i v nw oI oC m₂ ys h tk (E' : Value → Shared → Prop), i < n → P i v → J i ys nw → LCg.NsObj oC m₂ → m₂ x0 = some v → Fr h₀ L h m → News h₀ L h ((I, oI) :: (C, oC) :: (D, LCg.lst ys) :: nw) → LCg.Off3 I C D nw →
      wpAny (model prog w) A (eval i1 (compEnvC scope cl C env)) (Turn2 prog w A h₀ L m (.ListComp elt [⟨.Name x0 p0, i0, [], 0⟩, ⟨.Name x1 p1, i1, [], 0⟩] scope pos) I C D oI (compEnvC scope cl C env) s₂ (J (i + 1))) E' { s₂ with heap := h, toks := tk })
    (hRR : ∀ D C h tk m' ys news', Fr h₀ L h m → News h₀ L h ((D, lst ys) :: news') → Off1 D news' → h.Ns C m' → h₀.get? C = none → h₀.get? D = none → C ≠ L → D ≠ L → C ≠ D → (∀ p ∈ news', p.1 ≠ C) → J n ys news' → RR (.ref D) C (.ok .next) { s₂ with heap := h, toks := tk })
    (hs : ∀ C x, foldedSetIterable i1 (compEnvC scope cl C env) x = pure x := by intro _ _; rfl) :
    wpAny (model prog w) A (newList []) (fun acc s₃ => wpAny (model prog w) A (newFunctionEnv scope env.globals cl [] env.qual none .none (some env)) (fun cenv s₄ =>
      codeAny (model prog w) A (.compStart (.ListComp elt [⟨.Name x0 p0, i0, [], 0⟩, ⟨.Name x1 p1, i1, [], 0⟩] scope pos) 0 (.ref I) acc { cenv with scope := relabel scope env }) (RR acc cenv.locals) s₄) E s₃) E s₂ := by
  refine wpAny_newObj_type (wpAny_newFunctionEnv hcell (by intro y hy; simp at hy) (fun h₁ hns₁ hsb₁ => ?_) hkind)
  dsimp only at hns₁ hsb₁ ⊢
  generalize hH2 : s₂.heap.push { cls := .type "list", dict := none, data := .seq ([] : List Value).toArray } = H2 at hns₁ hsb₁ ⊢
  have hC : H2.objs.size = s₂.heap.objs.size + 1 := by rw [← hH2, Heap.size_push]
  have hDC : s₂.heap.objs.size ≠ H2.objs.size := by rw [hC]; exact Nat.ne_of_lt (Nat.lt_succ_self _)
  have below : ∀ b, b < s₂.heap.objs.size → b ≠ H2.objs.size ∧ b ≠ s₂.heap.objs.size := fun b hb => ⟨by rw [hC]; exact Nat.ne_of_lt (Nat.lt_succ_of_lt hb), Nat.ne_of_lt hb⟩
  have hCf : H2.objs.size ∉ fp := fun hm => by have := hfp _ hm; rw [hC] at this; exact Nat.lt_irrefl _ (Nat.lt_of_succ_lt this)
  have hIf : I ∈ fp := W.sub I (List.mem_singleton.mpr rfl)
  have hIlt : I < s₂.heap.objs.size := hfp I hIf
  have old : ∀ b o, s₂.heap.get? b = some o → h₁.get? b = some o := fun b o e => hsb₁.extBut b o (below b (Heap.lt_size e)).1 (Heap.get?_push_of_some _ (hH2 ▸ Heap.get?_push_of_some _ e))
  have hacc : h₁.get? s₂.heap.objs.size = some (lst []) := hsb₁.extBut _ _ hDC (Heap.get?_push_of_some _ (hH2 ▸ Heap.get?_push_size _ rfl))
  have hst₁ : St 0 h₁ := W.frame _ _ _ hst fun b _ o e => old b o e
  have fresh : ∀ a, s₂.heap.objs.size ≤ a → s₂.heap.get? a = none := fun a ha => by
    cases e : s₂.heap.get? a with
    | none => rfl
    | some o' => exact absurd (Heap.lt_size e) (Nat.not_lt.mpr ha)
  have fresh₀ : ∀ a, s₂.heap.objs.size ≤ a → h₀.get? a = none := fun a ha => by
    cases e : h₀.get? a with
    | none => rfl
    | some o' => have := F.keep a o' e; rw [fresh a ha] at this; cases this
  have hD₀ : h₀.get? s₂.heap.objs.size = none := fresh₀ _ (Nat.le_refl _)
  have hC₀ : h₀.get? H2.objs.size = none := fresh₀ _ (by rw [hC]; exact Nat.le_succ _)
  have hLlt : L < s₂.heap.objs.size := F.ns.lt
  have hDL : s₂.heap.objs.size ≠ L := Ne.symm (below L hLlt).2
  have hCL : H2.objs.size ≠ L := Ne.symm (below L hLlt).1
  have hCI : I ≠ H2.objs.size := (below I hIlt).1
  have hDI : I ≠ s₂.heap.objs.size := (below I hIlt).2
  have off₀ : Off3 I H2.objs.size s₂.heap.objs.size news := Off3.of fun p hp => ⟨off p hp, (below _ (Heap.lt_size (N p hp).1)).1, (below _ (Heap.lt_size (N p hp).1)).2⟩
  have N₁ : News h₀ L h₁ ((s₂.heap.objs.size, lst []) :: news) := fun p hp => by
    rcases List.mem_cons.mp hp with rfl | hp
    · exact ⟨hacc, hDL, hD₀⟩
    · exact ⟨old _ _ (N p hp).1, (N p hp).2⟩
  have loop : ∀ s₃ : Shared, s₃ = { s₂ with heap := h₁, toks := s₂.toks + ([] : List (Str × Value)).length } →
      codeAny (model prog w) A (.compLoop (.ListComp elt [⟨.Name x0 p0, i0, [], 0⟩, ⟨.Name x1 p1, i1, [], 0⟩] scope pos) 0 (.ref I) (.ref s₂.heap.objs.size) (compEnvC scope cl H2.objs.size env))
        (RR (.ref s₂.heap.objs.size) H2.objs.size) s₃ := by
    rintro s₃ rfl
    exact outer2 (s₂ := s₂) J W hIo hSt hkind hx hCL hIL hDL hI₀ hC₀ hD₀ hCI hDI (Ne.symm hDC) hCf (turn _ _ hCL hDL hC₀ hD₀ hCI hDI (Ne.symm hDC))
      (fun h tk m' ys nw hj F' N' off' hn' => hRR _ _ h tk m' ys nw F' N' off'.one hn' hC₀ hD₀ hCL hDL (Ne.symm hDC) (fun p hp => (off'.mem p hp).2.1) hj)
      hst₁ hJ (F.keeps old) N₁ off₀ hns₁ (hs := hs _)
  exact codeAny_compStart_list (loop _ rfl) (W.self 0 _ _ _ hst₁ (loop _ rfl))
end
end Mine
end
section
set_option maxRecDepth 100000
open PySem PySem.W PyProof.Rows PySem.Calls PyProof.Rows.LCg
namespace Mine
section
variable {prog : Program} {w : World} {A : Around} {h₀ : Heap} {L : Addr} {m : Str → Option Value} {env : Env} {E : Value → Shared → Prop}
def In2 (I C D : Addr) (oI : Obj) (J : Nat → List Value → List (Addr × Obj) → Prop) (i : Nat) (ys : List Value) (nw : List (Addr × Obj)) : Prop := ∃ nw₁, nw = (I, oI) :: nw₁ ∧ Off3 I C D nw₁ ∧ J i ys nw₁
theorem turn2_walk {elt i0 i1 : PySem.Expr} {x0 x1 : Str} {p0 p1 : Pos} {scope : Scope} {cl : List (Str × Addr)} {pos : Pos} {s₂ : Shared} {I C D : Addr} {n : Nat} {v0 : Value} {oI oC : Obj} {P : Nat → Value → Prop} {fp : List Addr} {St : Nat → Heap → Prop} {h H : Heap} {tk : Nat} {m₂ : Str → Option Value} {ys : List Value} {nw : List (Addr × Obj)}
    (J : Nat → List Value → List (Addr × Obj) → Prop) (J0 : List Value → List (Addr × Obj) → Prop)
    (W : Walks prog w A h.objs.size fp [h.objs.size] n P St) (hfp : ∀ b ∈ fp, b = h.objs.size ∨ (b ≠ C ∧ b ≠ D))
    (hIo : ∀ i h', St i h' → ∃ o, h'.get? h.objs.size = some o)
    (hSt : ∀ i ys h₁ h' o nw, J i ys nw → St i h₁ → h₁.get? h.objs.size = some o → h'.get? h.objs.size = some o → News h₀ L h' nw → (∀ b o, h₀.get? b = some o → h'.get? b = some o) → St i h')
    (up : ∀ b o, h.get? b = some o → H.get? b = some o) (hst : St 0 H)
    (hJn : ∀ i ys nw, J i ys nw → i < n → ys.length ≤ sizeLine)
    (hkind : scope.kind = .function) (hx : scope.names.lookup x1 = some .local) (h01 : x0 ≠ x1)
    (hCL : C ≠ L) (hDL : D ≠ L) (hC₀ : h₀.get? C = none) (hD₀ : h₀.get? D = none) (hCI : I ≠ C) (hDI : I ≠ D) (hCD : C ≠ D)
    (hC : LCg.NsObj oC m₂) (hm : m₂ x0 = some v0) (F : Fr h₀ L h m) (N : News h₀ L h ((I, oI) :: (C, oC) :: (D, LCg.lst ys) :: nw)) (off : LCg.Off3 I C D nw) (hJ : J 0 ys nw)
    (turn : ∀ i v nw I2 oI2 oC m₂ ys h tk (E' : Value → Shared → Prop), i < n → P i v → J i ys nw → LCg.NsObj oC m₂ → m₂ x0 = some v0 → m₂ x1 = some v → Fr h₀ L h m → News h₀ L h ((I2, oI2) :: (C, oC) :: (D, LCg.lst ys) :: (I, oI) :: nw) → LCg.Off3 I2 C D ((I, oI) :: nw) → LCg.Off3 I C D nw →
      wpAny (model prog w) A (eval elt (compEnvC scope cl C env)) (LCg.CompEnd h₀ L m { s₂ with heap := h, toks := tk } I2 oI2 C oC D (LCg.lst ys) (fun _ => True) (fun y nw' => In2 I C D oI J (i + 1) (ys ++ [y]) nw')) E' { s₂ with heap := h, toks := tk })
    (fin : ∀ ys nw, J n ys nw → J0 ys nw) :
    codeAny (model prog w) A (.compStart (.ListComp elt [⟨.Name x0 p0, i0, [], 0⟩, ⟨.Name x1 p1, i1, [], 0⟩] scope pos) 1 (.ref h.objs.size) (.ref D) (compEnvC scope cl C env))
    (fun r s₅ => (∃ f, r = .ok f) ∧ ∃ h' tk' ys' nw' m', s₅ = { s₂ with heap := h', toks := tk' } ∧ Fr h₀ L h' m ∧ News h₀ L h' ((I, oI) :: (D, lst ys') :: nw') ∧ Off3 I C D nw' ∧ h'.Ns C m' ∧ J0 ys' nw') { s₂ with heap := H, toks := tk } := by
  have lt : ∀ p ∈ (I, oI) :: (C, oC) :: (D, LCg.lst ys) :: nw, p.1 < h.objs.size := fun p hp => Heap.lt_size (N p hp).1
  have hI2 := lt _ (.head _)
  have hC2 := lt _ (.tail _ (.head _))
  have hD2 := lt _ (.tail _ (.tail _ (.head _)))
  have key : codeAny (model prog w) A (.compLoop (.ListComp elt [⟨.Name x0 p0, i0, [], 0⟩, ⟨.Name x1 p1, i1, [], 0⟩] scope pos) 1 (.ref h.objs.size) (.ref D) (compEnvC scope cl C env))
      (fun r s₅ => (∃ f, r = .ok f) ∧ ∃ h' tk' ys' nw' m', s₅ = { s₂ with heap := h', toks := tk' } ∧ Fr h₀ L h' m ∧ News h₀ L h' ((I, oI) :: (D, lst ys') :: nw') ∧ Off3 I C D nw' ∧ h'.Ns C m' ∧ J0 ys' nw') { s₂ with heap := H, toks := tk } := by
    refine inner2 (s₂ := s₂) (In2 I C D oI J) W hIo (fun i ys h₁ h' o nw hj st e e' N k => ?_) (fun i ys nw hj => ?_) hkind hx h01 hCL (Nat.ne_of_lt F.ns.lt) hDL (next_is_new F) hC₀ hD₀ (Nat.ne_of_gt hC2) (Nat.ne_of_gt hD2) hCD
      (fun hb => (hfp _ hb).elim (fun e => absurd e (Nat.ne_of_lt hC2)) fun e => e.1 rfl) (fun hb => (hfp _ hb).elim (fun e => absurd e (Nat.ne_of_lt hD2)) fun e => e.2 rfl)
      (fun i v nw oI2 oC m₂ ys h' tk E' hi hP hj hC hm0 hm1 F N off => ?_) (fun h' tk m' ys nw hj F N off hn hm0 => ?_) hst (nw := (I, oI) :: nw) ⟨nw, rfl, off, hJ⟩ (F.keeps up)
      (fun p hp => ?_) ?_ (((hC.ns (N _ (.tail _ (.head _))).1)).at' fun o e => up _ _ e) hm
    · obtain ⟨nw₁, rfl, _, hj⟩ := hj
      exact hSt _ _ _ _ _ _ hj st e e' (fun p hp => N p (.tail _ hp)) k
    · obtain ⟨nw₁, rfl, _, hj⟩ := hj
      exact hJn _ _ _ hj
    · obtain ⟨nw₁, rfl, o₁, hj⟩ := hj
      exact turn i v nw₁ _ oI2 oC m₂ ys h' tk E' hi hP hj hC hm0 hm1 F N off o₁
    · obtain ⟨nw₁, rfl, o₁, hj⟩ := hj
      refine ⟨⟨_, rfl⟩, h', tk, ys, nw₁, m', rfl, F, fun p hp => N p ?_, o₁, hn, fin _ _ hj⟩
      rcases List.mem_cons.mp hp with rfl | hp
      · exact .tail _ (.head _)
      · rcases List.mem_cons.mp hp with rfl | hp
        · exact .head _
        · exact .tail _ (.tail _ hp)
    · have hp' : p ∈ (I, oI) :: (C, oC) :: (D, LCg.lst ys) :: nw := by
        rcases List.mem_cons.mp hp with rfl | hp
        · exact .tail _ (.tail _ (.head _))
        · rcases List.mem_cons.mp hp with rfl | hp
          · exact .head _
          · exact .tail _ (.tail _ (.tail _ hp))
      exact ⟨up _ _ (N p hp').1, (N p hp').2⟩
    · refine ⟨⟨Nat.ne_of_lt hI2, hCI, hDI⟩, Off3.of fun p hp => ?_⟩
      exact ⟨Nat.ne_of_lt (lt p (.tail _ (.tail _ (.tail _ hp)))), (off.mem p hp).2⟩
  exact start2_inner key fun E'' => W.self 0 _ _ _ hst key
end
end Mine
end
section
set_option maxRecDepth 100000
open PySem PySem.W PyProof.Rows PySem.Calls PyProof.Rows.LCg
namespace Mine
section
variable {prog : Program} {w : World} {A : Around} {h₀ : Heap} {L : Addr} {m : Str → Option Value} {env : Env} {E : Value → Shared → Prop}
theorem turn2_range {elt i0 i1 : PySem.Expr} {x0 x1 : Str} {p0 p1 : Pos} {scope : Scope} {cl : List (Str × Addr)} {pos : Pos} {s₂ : Shared} {I C D r : Addr} {n : Nat} {v0 : Value} {oI oC : Obj} {a b : Int} {t u v : Tok} {h : Heap} {tk : Nat} {m₂ : Str → Option Value} {ys : List Value} {nw : List (Addr × Obj)}
    (J : Nat → List Value → List (Addr × Obj) → Prop) (J0 : List Value → List (Addr × Obj) → Prop)
    (hh : A.handled = none) (hr : IsRange h r a b 1 t u v) (hsm : Builtin.Range.small a b 1 = true) (hn : Builtin.Range.rangeSize a b 1 = ((n : Nat) : Int))
    (hJn : ∀ i ys nw, J i ys nw → i < n → ys.length ≤ sizeLine)
    (hkind : scope.kind = .function) (hx : scope.names.lookup x1 = some .local) (h01 : x0 ≠ x1)
    (hCL : C ≠ L) (hDL : D ≠ L) (hC₀ : h₀.get? C = none) (hD₀ : h₀.get? D = none) (hCI : I ≠ C) (hDI : I ≠ D) (hCD : C ≠ D)
    (hC : LCg.NsObj oC m₂) (hm : m₂ x0 = some v0) (F : Fr h₀ L h m) (N : News h₀ L h ((I, oI) :: (C, oC) :: (D, LCg.lst ys) :: nw)) (off : LCg.Off3 I C D nw) (hJ : J 0 ys nw)
    (turn : ∀ i v nw I2 oI2 oC m₂ ys h tk (E' : Value → Shared → Prop), i < n → (∃ t, v = .int (a + (i : Int)) t) → J i ys nw → LCg.NsObj oC m₂ → m₂ x0 = some v0 → m₂ x1 = some v → Fr h₀ L h m → News h₀ L h ((I2, oI2) :: (C, oC) :: (D, LCg.lst ys) :: (I, oI) :: nw) → LCg.Off3 I2 C D ((I, oI) :: nw) → LCg.Off3 I C D nw →
      wpAny (model prog w) A (eval elt (compEnvC scope cl C env)) (LCg.CompEnd h₀ L m { s₂ with heap := h, toks := tk } I2 oI2 C oC D (LCg.lst ys) (fun _ => True) (fun y nw' => In2 I C D oI J (i + 1) (ys ++ [y]) nw')) E' { s₂ with heap := h, toks := tk })
    (fin : ∀ ys nw, J n ys nw → J0 ys nw) :
    Turn2 prog w A h₀ L m (.ListComp elt [⟨.Name x0 p0, i0, [], 0⟩, ⟨.Name x1 p1, i1, [], 0⟩] scope pos) I C D oI (compEnvC scope cl C env) s₂ J0 (.ref r) { s₂ with heap := h, toks := tk } := by
  intro E'
  refine wpAny_pyIter_range hr hsm ?_
  refine turn2_walk J J0 (range_walks hh a n) (fun b hb => .inl (List.mem_singleton.mp hb)) (fun i h st => ⟨_, st⟩) (fun i ys h₁ h' o nw _ st e e' _ _ => ?_) (fun _ _ e => Heap.get?_push_of_some _ e)
    (by show IsRangeIter _ _ _ _ _; rw [hn]; simpa using Heap.get?_push_size _ rfl) hJn hkind hx h01 hCL hDL hC₀ hD₀ hCI hDI hCD hC hm F N off hJ turn fin
  have st' : h₁.get? _ = some _ := st
  show h'.get? _ = some _
  rw [e', ← e]; exact st'
theorem turn2_tuple {elt i0 i1 : PySem.Expr} {x0 x1 : Str} {p0 p1 : Pos} {scope : Scope} {cl : List (Str × Addr)} {pos : Pos} {s₂ : Shared} {I C D r : Addr} {v0 : Value} {oI oC : Obj} {its : Array Value} {h : Heap} {tk : Nat} {m₂ : Str → Option Value} {ys : List Value} {nw : List (Addr × Obj)}
    (J : Nat → List Value → List (Addr × Obj) → Prop) (J0 : List Value → List (Addr × Obj) → Prop)
    (hh : A.handled = none) (hr : h.IsTuple r its) (hrC : r ≠ C) (hrD : r ≠ D) (hJr : ∀ i ys nw h', J i ys nw → News h₀ L h' nw → h'.IsTuple r its)
    (hJn : ∀ i ys nw, J i ys nw → i < its.size → ys.length ≤ sizeLine)
    (hkind : scope.kind = .function) (hx : scope.names.lookup x1 = some .local) (h01 : x0 ≠ x1)
    (hCL : C ≠ L) (hDL : D ≠ L) (hC₀ : h₀.get? C = none) (hD₀ : h₀.get? D = none) (hCI : I ≠ C) (hDI : I ≠ D) (hCD : C ≠ D)
    (hC : LCg.NsObj oC m₂) (hm : m₂ x0 = some v0) (F : Fr h₀ L h m) (N : News h₀ L h ((I, oI) :: (C, oC) :: (D, LCg.lst ys) :: nw)) (off : LCg.Off3 I C D nw) (hJ : J 0 ys nw)
    (turn : ∀ i v nw I2 oI2 oC m₂ ys h tk (E' : Value → Shared → Prop), i < its.size → its[i]? = some v → J i ys nw → LCg.NsObj oC m₂ → m₂ x0 = some v0 → m₂ x1 = some v → Fr h₀ L h m → News h₀ L h ((I2, oI2) :: (C, oC) :: (D, LCg.lst ys) :: (I, oI) :: nw) → LCg.Off3 I2 C D ((I, oI) :: nw) → LCg.Off3 I C D nw →
      wpAny (model prog w) A (eval elt (compEnvC scope cl C env)) (LCg.CompEnd h₀ L m { s₂ with heap := h, toks := tk } I2 oI2 C oC D (LCg.lst ys) (fun _ => True) (fun y nw' => In2 I C D oI J (i + 1) (ys ++ [y]) nw')) E' { s₂ with heap := h, toks := tk })
    (fin : ∀ ys nw, J its.size ys nw → J0 ys nw) :
    Turn2 prog w A h₀ L m (.ListComp elt [⟨.Name x0 p0, i0, [], 0⟩, ⟨.Name x1 p1, i1, [], 0⟩] scope pos) I C D oI (compEnvC scope cl C env) s₂ J0 (.ref r) { s₂ with heap := h, toks := tk } := by
  intro E'
  have hlt : r < h.objs.size := by obtain ⟨_, e, _⟩ := hr; exact Heap.lt_size e
  refine wpAny_pyIter_tuple hr ?_
  have up : ∀ b o, h.get? b = some o → (h.push { cls := .type "tuple_iterator", data := .fields #[.ref r, .int 0 0] }).get? b = some o := fun b o e => Heap.get?_push_of_some _ e
  refine turn2_walk J J0 (Walks.tuple hh h.objs.size r (Nat.ne_of_lt hlt) its) (fun b hb => ?_) (fun i h st => by obtain ⟨o, e, _⟩ := st.1; exact ⟨o, e⟩) (fun i ys h₁ h' o nw hj st e e' N k => ?_) up
    ⟨⟨_, Heap.get?_push_size _ rfl, rfl, rfl⟩, hr.at fun o e => up _ _ e⟩ hJn hkind hx h01 hCL hDL hC₀ hD₀ hCI hDI hCD hC hm F N off hJ turn fin
  · rcases List.mem_cons.mp hb with rfl | hb
    · exact .inl rfl
    · rw [List.mem_singleton.mp hb]; exact .inr ⟨hrC, hrD⟩
  · exact ⟨by obtain ⟨o', q, r⟩ := st.1; rw [e] at q; cases q; exact ⟨o, e', r⟩, hJr _ _ _ _ hj N⟩
end
end Mine
end
section
set_option maxRecDepth 100000
open PySem PySem.W PyProof.Rows PySem.Calls PyProof.Rows.LCg
namespace Mine
section
variable {prog : Program} {w : World} {A : Around} {h₀ : Heap} {L : Addr} {m : Str → Option Value} {env : Env} {E : Value → Shared → Prop} {s : Shared}
/-- the two-generator source: at the first iterable's value -/
def Src2 (prog : Program) (w : World) (A : Around) (h₀ : Heap) (L : Addr) (m : Str → Option Value) (env : Env) (elt i0 i1 : PySem.Expr) (x0 x1 : Str) (p0 p1 : Pos) (scope : Scope) (pos : Pos) (cl : List (Str × Addr)) (Fin : Shared → List Value → List (Addr × Obj) → Prop) (xv : Value) (s₁ : Shared) : Prop :=
  ∀ (RR : Value → Addr → Result → Shared → Prop) (E' : Value → Shared → Prop),
    (∀ s₂ : Shared, (∃ h, s₂ = { s₁ with heap := h }) → ∀ D C h tk m' ys news', Fr h₀ L h m → News h₀ L h ((D, lst ys) :: news') → Off1 D news' → h.Ns C m' → h₀.get? C = none → h₀.get? D = none → C ≠ L → D ≠ L → C ≠ D → (∀ p ∈ news', p.1 ≠ C) → Fin s₂ ys news' → RR (.ref D) C (.ok .next) { s₂ with heap := h, toks := tk }) →
    wpAny (model prog w) A (pyIter xv) (fun it s₂ => wpAny (model prog w) A (newList []) (fun acc s₃ => wpAny (model prog w) A (newFunctionEnv scope env.globals cl [] env.qual none .none (some env)) (fun cenv s₄ =>
      codeAny (model prog w) A (.compStart (.ListComp elt [⟨.Name x0 p0, i0, [], 0⟩, ⟨.Name x1 p1, i1, [], 0⟩] scope pos) 0 it acc { cenv with scope := relabel scope env }) (RR acc cenv.locals) s₄) E' s₃) E' s₂) E' s₁
theorem assign2 {elt i0 i1 : PySem.Expr} {x0 x1 y : Str} {p0 p1 py : Pos} {scope : Scope} {cl : List (Str × Addr)} {pos spos : Pos} {Q : Flow → Shared → Prop} (_F₀ : Fr h₀ L s.heap m) (hLe : env.locals = L)
    (hsw : swapsWith (.ListComp elt [⟨.Name x0 p0, i0, [], 0⟩, ⟨.Name x1 p1, i1, [], 0⟩] scope pos) (some (.Name y py)) spos.line env = pure true)
    (hclos : closureFor scope env = pure cl) (hkind : scope.kind = .function)
    (hnames : ∀ z ∈ scope.names, z.2 = .local → scope.names.lookup z.1 = some .local)
    (hy : env.kindOf y = some .local) (hp : (env.scope.kind == .class || (env.scope.kind == .module && env.locals != env.globals)) = false)
    (h : wpAny (model prog w) A (eval i0 env) (Src2 prog w A h₀ L m env elt i0 i1 x0 x1 p0 p1 scope pos cl (fun s₂ => FinA h₀ L m s₂ y Q)) E s)
    (hs : ∀ x, foldedSetIterable i0 env x = pure x := by intro _; rfl) :
    wpAny (model prog w) A (exec (.Assign [.Name y py] (.ListComp elt [⟨.Name x0 p0, i0, [], 0⟩, ⟨.Name x1 p1, i1, [], 0⟩] scope pos) spos) env) Q E s := by
  subst hLe
  rw [exec_Assign_Name_used _ _ _ _ hsw]
  refine wpAny_bind (wpAny_standAt (wpAny_bind ?_))
  show wpAny _ A (do let _ ← comprehension (.ListComp elt [⟨.Name x0 p0, i0, [], 0⟩, ⟨.Name x1 p1, i1, [], 0⟩] scope pos) scope env _ (newList []) false (eval i0 env) (some (assign (.Name y py) env))) _ _ s
  refine wpAny_bind (wpAny_mono (wpAny_comprehension_free (use := some (assign (.Name y py) env)) (Q := fun _ s' => Q .next s') rfl hs hclos hkind hnames
    (wpAny_mono h (fun xv s₁ h₁ => ?_) fun _ _ e => e)) (fun _ s' hq => wpAny_pure (wpAny_pure hq)) fun _ _ e => e)
  refine h₁ (compPost (model prog w) A E (some (assign (.Name y py) env)) (fun _ s' => Q .next s')) E ?_
  intro s₂ _ D C h' tk m' ys news' F' N' o1 hn hC₀ hD₀ hCL hDL hCD offC fin
  show wpAny _ A (assign (.Name y py) env (.ref D)) _ _ _
  refine wpAny_assign_Name (wpAny_storeName_local hy F'.ns (fun h₂ hn₂ hs₂ => ?_) hp)
  have hL₀ : h₀.get? env.locals = none := Heap.get?_none_of_le F'.above
  have F₂ : Fr h₀ env.locals h₂ (fun z => if z = y then some (.ref D) else m z) := ⟨hn₂, fun b o e => hs₂.extBut b o (fun q => by rw [q, hL₀] at e; cases e) (F'.keep b o e), F'.above⟩
  refine ⟨m', hn.sameBut hs₂ hCL, fun h'' hs'' => fin D h'' _ (F₂.change hs'' hCL hC₀) (fun p hp => ?_) o1⟩
  have z : h₂.get? p.1 = some p.2 := hs₂.extBut _ _ (N' p hp).2.1 (N' p hp).1
  refine ⟨hs''.extBut _ _ ?_ z, (N' p hp).2⟩
  rcases List.mem_cons.mp hp with rfl | hp
  · exact Ne.symm hCD
  · exact offC p hp
end
end Mine
end
section
set_option maxRecDepth 100000
open PySem PySem.W PyProof.Rows PySem.Calls PyProof.Rows.LCg
namespace Mine
section
variable {prog : Program} {w : World} {A : Around} {h₀ : Heap} {L : Addr} {m : Str → Option Value} {env : Env} {E : Value → Shared → Prop}
def TurnO (prog : Program) (w : World) (A : Around) (h₀ : Heap) (L : Addr) (m : Str → Option Value) (env : Env) (elt i0 i1 : PySem.Expr) (x0 x1 : Str) (p0 p1 : Pos) (scope : Scope) (pos : Pos) (cl : List (Str × Addr)) (s₂ : Shared) (n : Nat) (P : Nat → Value → Prop) (J : Nat → List Value → List (Addr × Obj) → Prop) : Prop :=
  ∀ I C D, C ≠ L → D ≠ L → h₀.get? C = none → h₀.get? D = none → I ≠ C → I ≠ D → C ≠ D → ∀ i v nw oI oC m₂ ys h tk (E' : Value → Shared → Prop), i < n → P i v → J i ys nw → LCg.NsObj oC m₂ → m₂ x0 = some v → Fr h₀ L h m → News h₀ L h ((I, oI) :: (C, oC) :: (D, LCg.lst ys) :: nw) → LCg.Off3 I C D nw →
    wpAny (model prog w) A (eval i1 (compEnvC scope cl C env)) (Turn2 prog w A h₀ L m (.ListComp elt [⟨.Name x0 p0, i0, [], 0⟩, ⟨.Name x1 p1, i1, [], 0⟩] scope pos) I C D oI (compEnvC scope cl C env) s₂ (J (i + 1))) E' { s₂ with heap := h, toks := tk }
theorem src2_range {elt i0 i1 : PySem.Expr} {x0 x1 : Str} {p0 p1 : Pos} {scope : Scope} {cl : List (Str × Addr)} {pos : Pos} {r : Addr} {a b : Int} {t u v : Tok} {n : Nat} {news : List (Addr × Obj)} {s₁ : Shared} {Fin : Shared → List Value → List (Addr × Obj) → Prop}
    (J : Nat → List Value → List (Addr × Obj) → Prop)
    (hh : A.handled = none) (F : Fr h₀ L s₁.heap m) (N : News h₀ L s₁.heap news) (hr : IsRange s₁.heap r a b 1 t u v) (hsm : Builtin.Range.small a b 1 = true) (hn : Builtin.Range.rangeSize a b 1 = ((n : Nat) : Int))
    (hcell : ∀ y ∈ scope.names, y.2 ≠ .cell) (hkind : scope.kind = .function) (hx : scope.names.lookup x0 = some .local) (hJ : J 0 [] news)
    (turn : TurnO prog w A h₀ L m env elt i0 i1 x0 x1 p0 p1 scope pos cl s₁ n (fun i v => ∃ t, v = .int (a + (i : Int)) t) J)
    (fin : ∀ g ys nw, J n ys nw → Fin { s₁ with heap := g } ys nw)
    (hs : ∀ C x, foldedSetIterable i1 (compEnvC scope cl C env) x = pure x := by intro _ _; rfl) :
    Src2 prog w A h₀ L m env elt i0 i1 x0 x1 p0 p1 scope pos cl Fin (.ref r) s₁ := by
  intro RR E' hRR
  refine wpAny_pyIter_range hr hsm ?_
  refine block2 J (range_walks hh a n) (fun i h st => ⟨_, st⟩) (fun i ys h₁ h' o nw _ st e e' _ _ => ?_) hcell hkind hx (by show IsRangeIter _ _ _ _ _; rw [hn]; simpa using Heap.get?_push_size _ rfl) (fun b hb => ?_)
    (F.keeps fun _ _ e => Heap.get?_push_of_some _ e) (N.grown fun _ _ e => Heap.get?_push_of_some _ e) (Nat.ne_of_lt F.ns.lt) (next_is_new F) (fun p hp => Nat.ne_of_lt (Heap.lt_size (N p hp).1)) hJ (turn _)
    (fun D C h tk m' ys nw F' N' o1 hn hC₀ hD₀ hCL hDL hCD off hj => hRR _ ⟨_, rfl⟩ D C h tk m' ys nw F' N' o1 hn hC₀ hD₀ hCL hDL hCD off (fin _ _ _ hj)) hs
  · have st' : h₁.get? _ = some _ := st
    show h'.get? _ = some _
    rw [e', ← e]; exact st'
  · rw [List.mem_singleton.mp hb]
    show s₁.heap.objs.size < (s₁.heap.push _).objs.size
    rw [Heap.size_push]; exact Nat.lt_succ_self _
theorem src2_list {elt i0 i1 : PySem.Expr} {x0 x1 : Str} {p0 p1 : Pos} {scope : Scope} {cl : List (Str × Addr)} {pos : Pos} {ax : Addr} {its : Array Value} {k : Nat} {news : List (Addr × Obj)} {s₁ : Shared} {Fin : Shared → List Value → List (Addr × Obj) → Prop}
    (J : Nat → List Value → List (Addr × Obj) → Prop)
    (hh : A.handled = none) (F : Fr h₀ L s₁.heap m) (N : News h₀ L s₁.heap news) (hm : (ax, ({ cls := .type "list", data := .seq its k } : Obj)) ∈ news)
    (hJm : ∀ i ys nw, J i ys nw → (ax, ({ cls := .type "list", data := .seq its k } : Obj)) ∈ nw)
    (hcell : ∀ y ∈ scope.names, y.2 ≠ .cell) (hkind : scope.kind = .function) (hx : scope.names.lookup x0 = some .local) (hJ : J 0 [] news)
    (turn : TurnO prog w A h₀ L m env elt i0 i1 x0 x1 p0 p1 scope pos cl s₁ its.size (fun i v => its[i]? = some v) J)
    (fin : ∀ g ys nw, J its.size ys nw → Fin { s₁ with heap := g } ys nw)
    (hs : ∀ C x, foldedSetIterable i1 (compEnvC scope cl C env) x = pure x := by intro _ _; rfl) :
    Src2 prog w A h₀ L m env elt i0 i1 x0 x1 p0 p1 scope pos cl Fin (.ref ax) s₁ := by
  intro RR E' hRR
  have hl : s₁.heap.IsList ax its := ⟨_, (N _ hm).1, rfl, _, rfl⟩
  have hlt : ax < s₁.heap.objs.size := Heap.lt_size (N _ hm).1
  refine wpAny_pyIter_list hl ?_
  have up : ∀ b o, s₁.heap.get? b = some o → (s₁.heap.push { cls := .type "list_iterator", data := .fields #[.ref ax, .int 0 0] }).get? b = some o := fun b o e => Heap.get?_push_of_some _ e
  refine block2 J (Walks.list hh s₁.heap.objs.size ax (Nat.ne_of_lt hlt) its) (fun i h st => by obtain ⟨o, e, _⟩ := st.1; exact ⟨o, e⟩)
    (fun i ys h₁ h' o nw hj st e e' N k => ⟨by obtain ⟨o', q, r⟩ := st.1; rw [e] at q; cases q; exact ⟨o, e', r⟩, ⟨_, (N _ (hJm _ _ _ hj)).1, rfl, _, rfl⟩⟩) hcell hkind hx ⟨⟨_, Heap.get?_push_size _ rfl, rfl, rfl⟩, hl.push _⟩ (fun b hb => ?_)
    (F.keeps up) (N.grown up) (Nat.ne_of_lt F.ns.lt) (next_is_new F) (fun p hp => Nat.ne_of_lt (Heap.lt_size (N p hp).1)) hJ (turn _)
    (fun D C h tk m' ys nw F' N' o1 hn hC₀ hD₀ hCL hDL hCD off hj => hRR _ ⟨_, rfl⟩ D C h tk m' ys nw F' N' o1 hn hC₀ hD₀ hCL hDL hCD off (fin _ _ _ hj)) hs
  show b < (s₁.heap.push _).objs.size
  rw [Heap.size_push]
  rcases List.mem_cons.mp hb with rfl | hb
  · exact Nat.lt_succ_self _
  · rw [List.mem_singleton.mp hb]; exact Nat.lt_succ_of_lt hlt
end
end Mine
end
section
set_option maxRecDepth 100000
open PySem PySem.W PyProof.Rows PySem.Calls
namespace Mine
def treeP (a2 a3 a4 a5 : Nat) : List (Nat × Nat) := [(0, 1), (a2, 2), (a3, 3), (a4, 4), (a5, 5)]
def endsP (ds : List (Nat × Nat)) : List Nat := ds.flatMap fun d => [d.1, d.2]
def innerP (ds : List (Nat × Nat)) : List Nat := if ds.length = 5 then (List.range 6).filter fun k => decide (1 < (endsP ds).count k) else []
/-- what the looks of a tree must do -/
structure TreeOk (af inner res : List Nat) : Prop where
  loop : loopP af 90 [(63, [])] [63] = some res
  six : ∀ d ∈ res, d < 6
  clear : rmF af res = 0
  some_ : inner ≠ []
  sub : ∀ k ∈ res, k ∈ inner
  sup : ∀ k ∈ inner, k ∈ res
  two : ∀ k ∈ inner, Txt.count (pathS res) (digS k) = 2
  odd : ∀ k ∈ inner, Int.fmod (Txt.find (pathS res) (digS k) + Txt.rfind (pathS res) (digS k)) 2 ≠ 0
  few : ∀ xs : List Nat, (∀ x ∈ xs, x < 6) → xs.length < 2 * inner.length → rmF af xs ≠ 0
def tabOk (af : List Nat) (m : Nat) (tab : List (Nat × Nat)) : Bool :=
  decide (tab.lookup 63 = some m) && (decide (tab.lookup 0 = some 0) && tab.all fun e => (List.range 6).all fun k => match tab.lookup (af.getD (e.1 &&& (63 - 2 ^ k)) 0) with
    | some v => decide (e.2 ≤ v + 1)
    | none => false)
def looksOk (af inner res : List Nat) : Bool :=
  decide (rmF af res = 0) && (decide (inner ≠ []) && (res.all (fun k => decide (k < 6) && inner.contains k) && inner.all fun k => decide (Txt.count (pathS res) (digS k) = 2) && (res.contains k && decide (Int.fmod (Txt.find (pathS res) (digS k) + Txt.rfind (pathS res) (digS k)) 2 ≠ 0))))
def treeOk (ds : List (Nat × Nat)) (tab : List (Nat × Nat)) : Bool :=
  match loopP (afterP (nearP ds)) 90 [(63, [])] [63] with
  | none => false
  | some res => looksOk (afterP (nearP ds)) (innerP ds) res && tabOk (afterP (nearP ds)) (2 * (innerP ds).length) tab
theorem mem_of_lookup {k v : Nat} : ∀ {l : List (Nat × Nat)}, l.lookup k = some v → (k, v) ∈ l
  | [], h => nomatch h
  | (a, b) :: l, h => by
    rw [List.lookup_cons] at h
    split at h
    · rename_i e
      obtain rfl : k = a := by simpa using e
      obtain rfl : b = v := by simpa using h
      exact .head _
    · exact .tail _ (mem_of_lookup h)
theorem tab_few {af : List Nat} {m : Nat} {tab : List (Nat × Nat)} (h : tabOk af m tab = true) (xs : List Nat) (hx : ∀ x ∈ xs, x < 6) (hl : xs.length < m) : rmF af xs ≠ 0 := by
  unfold tabOk at h
  simp only [Bool.and_eq_true, decide_eq_true_eq, List.all_eq_true, List.mem_range] at h
  obtain ⟨h1, h2, h3⟩ := h
  have key : ∀ (ys : List Nat) (s v : Nat), (∀ x ∈ ys, x < 6) → tab.lookup s = some v → ∃ v', tab.lookup (ys.foldl (fun r d => af.getD (r &&& (63 - 2 ^ d)) 0) s) = some v' ∧ v ≤ v' + ys.length := by
    intro ys
    induction ys with
    | nil => exact fun s v _ e => ⟨v, e, Nat.le_refl _⟩
    | cons y ys ih =>
      intro s v hy e
      have e3 := h3 _ (mem_of_lookup e) y (hy y (.head _))
      dsimp only at e3
      split at e3
      · rename_i v2 e4
        obtain ⟨v', e5, e6⟩ := ih _ v2 (fun x hx => hy x (.tail _ hx)) e4
        refine ⟨v', e5, ?_⟩
        have := of_decide_eq_true e3
        rw [List.length_cons]; omega
      · cases e3
  intro hc
  obtain ⟨v', e1, e2⟩ := key xs 63 m hx h1
  have e0 : tab.lookup 0 = some v' := by
    have : List.foldl (fun r d => af.getD (r &&& (63 - 2 ^ d)) 0) 63 xs = 0 := hc
    rw [← this]; exact e1
  rw [h2] at e0
  cases e0
  omega
theorem treeOk_ok {ds : List (Nat × Nat)} {tab : List (Nat × Nat)} (h : treeOk ds tab = true) : ∃ res, TreeOk (afterP (nearP ds)) (innerP ds) res := by
  unfold treeOk at h
  split at h
  · cases h
  · rename_i res hres
    rw [Bool.and_eq_true] at h
    obtain ⟨h1, h2⟩ := h
    unfold looksOk at h1
    simp only [Bool.and_eq_true, decide_eq_true_eq, List.all_eq_true, List.contains_iff_mem] at h1
    obtain ⟨c, i, s, t⟩ := h1
    exact ⟨res, hres, fun d hd => (s d hd).1, c, i, fun d hd => (s d hd).2, fun k hk => (t k hk).2.1, fun k hk => (t k hk).1, fun k hk => (t k hk).2.2, fun xs hx hl => tab_few h2 xs hx hl⟩
def tabs : List (List (Nat × Nat)) := [
  [(63, 2), (62, 2), (1, 1), (0, 0)],
  [(63, 4), (35, 3), (33, 2), (31, 3), (30, 2), (2, 1), (1, 1), (0, 0)],
  [(63, 4), (37, 3), (33, 2), (31, 3), (30, 2), (4, 1), (1, 1), (0, 0)],
  [(63, 4), (41, 3), (33, 2), (31, 3), (30, 2), (8, 1), (1, 1), (0, 0)],
  [(63, 4), (49, 3), (33, 2), (31, 3), (30, 2), (16, 1), (1, 1), (0, 0)],
  [(63, 4), (47, 3), (46, 2), (19, 3), (17, 2), (2, 1), (1, 1), (0, 0)],
  [(63, 4), (51, 3), (49, 2), (15, 3), (14, 2), (2, 1), (1, 1), (0, 0)],
  [(63, 6), (55, 6), (53, 4), (51, 4), (49, 4), (47, 5), (39, 5), (33, 2), (31, 5), (23, 5), (17, 2), (14, 3), (6, 3), (4, 1), (2, 1), (0, 0)],
  [(63, 6), (59, 6), (57, 4), (51, 4), (49, 4), (47, 5), (43, 5), (33, 2), (31, 5), (27, 5), (17, 2), (14, 3), (10, 3), (8, 1), (2, 1), (0, 0)],
  [(63, 6), (62, 4), (51, 5), (47, 4), (46, 4), (34, 2), (31, 5), (17, 3), (16, 1), (14, 2), (1, 1), (0, 0)],
  [(63, 4), (47, 3), (46, 2), (21, 3), (17, 2), (4, 1), (1, 1), (0, 0)],
  [(63, 6), (55, 6), (53, 4), (51, 4), (49, 4), (47, 5), (39, 5), (33, 2), (31, 5), (23, 5), (17, 2), (14, 3), (6, 3), (4, 1), (2, 1), (0, 0)],
  [(63, 4), (53, 3), (49, 2), (15, 3), (14, 2), (4, 1), (1, 1), (0, 0)],
  [(63, 6), (61, 6), (57, 4), (53, 4), (49, 4), (47, 5), (45, 5), (33, 2), (31, 5), (29, 5), (17, 2), (14, 3), (12, 3), (8, 1), (4, 1), (0, 0)],
  [(63, 6), (62, 4), (53, 5), (47, 4), (46, 4), (36, 2), (31, 5), (17, 3), (16, 1), (14, 2), (1, 1), (0, 0)],
  [(63, 4), (47, 3), (46, 2), (25, 3), (17, 2), (8, 1), (1, 1), (0, 0)],
  [(63, 6), (59, 6), (57, 4), (51, 4), (49, 4), (47, 5), (43, 5), (33, 2), (31, 5), (27, 5), (17, 2), (14, 3), (10, 3), (8, 1), (2, 1), (0, 0)],
  [(63, 6), (61, 6), (57, 4), (53, 4), (49, 4), (47, 5), (45, 5), (33, 2), (31, 5), (29, 5), (17, 2), (14, 3), (12, 3), (8, 1), (4, 1), (0, 0)],
  [(63, 4), (57, 3), (49, 2), (15, 3), (14, 2), (8, 1), (1, 1), (0, 0)],
  [(63, 6), (62, 4), (57, 5), (47, 4), (46, 4), (40, 2), (31, 5), (17, 3), (16, 1), (14, 2), (1, 1), (0, 0)],
  [(63, 4), (55, 3), (54, 2), (11, 3), (9, 2), (2, 1), (1, 1), (0, 0)],
  [(63, 4), (43, 3), (41, 2), (23, 3), (22, 2), (2, 1), (1, 1), (0, 0)],
  [(63, 6), (55, 5), (47, 6), (45, 4), (43, 4), (41, 4), (39, 5), (33, 2), (31, 5), (22, 3), (15, 5), (9, 2), (6, 3), (4, 1), (2, 1), (0, 0)],
  [(63, 6), (62, 4), (55, 4), (54, 4), (43, 5), (34, 2), (31, 5), (22, 2), (9, 3), (8, 1), (1, 1), (0, 0)],
  [(63, 6), (59, 6), (57, 4), (55, 5), (51, 5), (43, 4), (41, 4), (33, 2), (31, 5), (27, 5), (22, 3), (18, 3), (16, 1), (9, 2), (2, 1), (0, 0)],
  [(63, 4), (39, 3), (38, 2), (27, 3), (25, 2), (2, 1), (1, 1), (0, 0)],
  [(63, 4), (59, 3), (57, 2), (7, 3), (6, 2), (2, 1), (1, 1), (0, 0)],
  [(63, 6), (61, 4), (59, 4), (57, 4), (39, 5), (33, 2), (31, 5), (25, 2), (6, 3), (4, 1), (2, 1), (0, 0)],
  [(63, 6), (59, 5), (47, 6), (46, 4), (43, 5), (39, 4), (38, 4), (34, 2), (31, 5), (25, 3), (15, 5), (9, 3), (8, 1), (6, 2), (1, 1), (0, 0)],
  [(63, 6), (59, 5), (55, 6), (54, 4), (51, 5), (39, 4), (38, 4), (34, 2), (31, 5), (25, 3), (23, 5), (17, 3), (16, 1), (6, 2), (1, 1), (0, 0)],
  [(63, 6), (55, 5), (47, 5), (38, 3), (31, 6), (29, 4), (27, 4), (25, 4), (23, 5), (17, 2), (15, 5), (9, 2), (6, 3), (4, 1), (2, 1), (0, 0)],
  [(63, 6), (61, 4), (59, 4), (57, 4), (47, 5), (41, 2), (23, 5), (17, 2), (6, 3), (4, 1), (2, 1), (0, 0)],
  [(63, 6), (61, 4), (59, 4), (57, 4), (55, 5), (49, 2), (15, 5), (9, 2), (6, 3), (4, 1), (2, 1), (0, 0)],
  [(63, 8), (59, 6), (55, 6), (47, 7), (46, 5), (43, 6), (38, 4), (34, 2), (31, 7), (29, 5), (25, 4), (23, 6), (17, 2), (15, 7), (9, 3), (8, 1), (6, 3), (4, 1), (0, 0)],
  [(63, 8), (61, 6), (55, 7), (54, 5), (53, 6), (47, 6), (38, 4), (36, 2), (31, 7), (27, 5), (25, 4), (23, 7), (17, 3), (16, 1), (15, 6), (9, 2), (6, 3), (2, 1), (0, 0)],
  [(63, 6), (62, 4), (55, 4), (54, 4), (47, 5), (38, 2), (27, 5), (18, 2), (9, 3), (8, 1), (1, 1), (0, 0)],
  [(63, 6), (59, 5), (47, 5), (41, 3), (31, 6), (30, 4), (27, 5), (23, 4), (22, 4), (18, 2), (15, 5), (9, 3), (8, 1), (6, 2), (1, 1), (0, 0)],
  [(63, 8), (59, 6), (55, 6), (47, 7), (45, 5), (41, 4), (39, 6), (33, 2), (31, 7), (30, 5), (27, 6), (22, 4), (18, 2), (15, 7), (9, 3), (8, 1), (6, 3), (4, 1), (0, 0)],
  [(63, 6), (62, 4), (59, 5), (55, 4), (54, 4), (50, 2), (15, 5), (9, 3), (8, 1), (6, 2), (1, 1), (0, 0)],
  [(63, 8), (62, 6), (59, 7), (58, 6), (57, 5), (47, 6), (41, 4), (40, 2), (31, 7), (27, 7), (23, 5), (22, 4), (18, 3), (16, 1), (15, 6), (9, 3), (6, 2), (1, 1), (0, 0)],
  [(63, 4), (55, 3), (54, 2), (13, 3), (9, 2), (4, 1), (1, 1), (0, 0)],
  [(63, 6), (55, 5), (47, 6), (45, 4), (43, 4), (41, 4), (39, 5), (33, 2), (31, 5), (22, 3), (15, 5), (9, 2), (6, 3), (4, 1), (2, 1), (0, 0)],
  [(63, 4), (45, 3), (41, 2), (23, 3), (22, 2), (4, 1), (1, 1), (0, 0)],
  [(63, 6), (62, 4), (55, 4), (54, 4), (45, 5), (36, 2), (31, 5), (22, 2), (9, 3), (8, 1), (1, 1), (0, 0)],
  [(63, 6), (61, 6), (57, 4), (55, 5), (53, 5), (45, 4), (41, 4), (33, 2), (31, 5), (29, 5), (22, 3), (20, 3), (16, 1), (9, 2), (4, 1), (0, 0)],
  [(63, 6), (55, 5), (47, 5), (38, 3), (31, 6), (29, 4), (27, 4), (25, 4), (23, 5), (17, 2), (15, 5), (9, 2), (6, 3), (4, 1), (2, 1), (0, 0)],
  [(63, 6), (61, 4), (59, 4), (57, 4), (55, 5), (49, 2), (15, 5), (9, 2), (6, 3), (4, 1), (2, 1), (0, 0)],
  [(63, 6), (61, 4), (59, 4), (57, 4), (47, 5), (41, 2), (23, 5), (17, 2), (6, 3), (4, 1), (2, 1), (0, 0)],
  [(63, 8), (61, 6), (55, 6), (47, 7), (46, 5), (45, 6), (38, 4), (36, 2), (31, 7), (27, 5), (25, 4), (23, 6), (17, 2), (15, 7), (9, 3), (8, 1), (6, 3), (2, 1), (0, 0)],
  [(63, 8), (59, 6), (55, 7), (54, 5), (51, 6), (47, 6), (38, 4), (34, 2), (31, 7), (29, 5), (25, 4), (23, 7), (17, 3), (16, 1), (15, 6), (9, 2), (6, 3), (4, 1), (0, 0)],
  [(63, 4), (39, 3), (38, 2), (29, 3), (25, 2), (4, 1), (1, 1), (0, 0)],
  [(63, 6), (61, 4), (59, 4), (57, 4), (39, 5), (33, 2), (31, 5), (25, 2), (6, 3), (4, 1), (2, 1), (0, 0)],
  [(63, 4), (61, 3), (57, 2), (7, 3), (6, 2), (4, 1), (1, 1), (0, 0)],
  [(63, 6), (61, 5), (47, 6), (46, 4), (45, 5), (39, 4), (38, 4), (36, 2), (31, 5), (25, 3), (15, 5), (9, 3), (8, 1), (6, 2), (1, 1), (0, 0)],
  [(63, 6), (61, 5), (55, 6), (54, 4), (53, 5), (39, 4), (38, 4), (36, 2), (31, 5), (25, 3), (23, 5), (17, 3), (16, 1), (6, 2), (1, 1), (0, 0)],
  [(63, 6), (62, 4), (55, 4), (54, 4), (47, 5), (38, 2), (29, 5), (20, 2), (9, 3), (8, 1), (1, 1), (0, 0)],
  [(63, 8), (61, 6), (55, 6), (47, 7), (43, 5), (41, 4), (39, 6), (33, 2), (31, 7), (30, 5), (29, 6), (22, 4), (20, 2), (15, 7), (9, 3), (8, 1), (6, 3), (2, 1), (0, 0)],
  [(63, 6), (61, 5), (47, 5), (41, 3), (31, 6), (30, 4), (29, 5), (23, 4), (22, 4), (20, 2), (15, 5), (9, 3), (8, 1), (6, 2), (1, 1), (0, 0)],
  [(63, 6), (62, 4), (61, 5), (55, 4), (54, 4), (52, 2), (15, 5), (9, 3), (8, 1), (6, 2), (1, 1), (0, 0)],
  [(63, 8), (62, 6), (61, 7), (60, 6), (57, 5), (47, 6), (41, 4), (40, 2), (31, 7), (29, 7), (23, 5), (22, 4), (20, 3), (16, 1), (15, 6), (9, 3), (6, 2), (1, 1), (0, 0)],
  [(63, 4), (59, 3), (58, 2), (7, 3), (5, 2), (2, 1), (1, 1), (0, 0)],
  [(63, 4), (39, 3), (37, 2), (27, 3), (26, 2), (2, 1), (1, 1), (0, 0)],
  [(63, 6), (62, 4), (59, 4), (58, 4), (39, 5), (34, 2), (31, 5), (26, 2), (5, 3), (4, 1), (1, 1), (0, 0)],
  [(63, 6), (59, 5), (47, 6), (45, 4), (43, 5), (39, 4), (37, 4), (33, 2), (31, 5), (26, 3), (15, 5), (10, 3), (8, 1), (5, 2), (2, 1), (0, 0)],
  [(63, 6), (59, 5), (55, 6), (53, 4), (51, 5), (39, 4), (37, 4), (33, 2), (31, 5), (26, 3), (23, 5), (18, 3), (16, 1), (5, 2), (2, 1), (0, 0)],
  [(63, 4), (43, 3), (42, 2), (23, 3), (21, 2), (2, 1), (1, 1), (0, 0)],
  [(63, 4), (55, 3), (53, 2), (11, 3), (10, 2), (2, 1), (1, 1), (0, 0)],
  [(63, 6), (55, 5), (47, 6), (46, 4), (43, 4), (42, 4), (39, 5), (34, 2), (31, 5), (21, 3), (15, 5), (10, 2), (5, 3), (4, 1), (1, 1), (0, 0)],
  [(63, 6), (61, 4), (55, 4), (53, 4), (43, 5), (33, 2), (31, 5), (21, 2), (10, 3), (8, 1), (2, 1), (0, 0)],
  [(63, 6), (59, 6), (58, 4), (55, 5), (51, 5), (43, 4), (42, 4), (34, 2), (31, 5), (27, 5), (21, 3), (17, 3), (16, 1), (10, 2), (1, 1), (0, 0)],
  [(63, 6), (62, 4), (59, 4), (58, 4), (47, 5), (42, 2), (23, 5), (18, 2), (5, 3), (4, 1), (1, 1), (0, 0)],
  [(63, 6), (55, 5), (47, 5), (37, 3), (31, 6), (30, 4), (27, 4), (26, 4), (23, 5), (18, 2), (15, 5), (10, 2), (5, 3), (4, 1), (1, 1), (0, 0)],
  [(63, 6), (62, 4), (59, 4), (58, 4), (55, 5), (50, 2), (15, 5), (10, 2), (5, 3), (4, 1), (1, 1), (0, 0)],
  [(63, 8), (59, 6), (55, 6), (47, 7), (45, 5), (43, 6), (37, 4), (33, 2), (31, 7), (30, 5), (26, 4), (23, 6), (18, 2), (15, 7), (10, 3), (8, 1), (5, 3), (4, 1), (0, 0)],
  [(63, 8), (62, 6), (55, 7), (54, 6), (53, 5), (47, 6), (37, 4), (36, 2), (31, 7), (27, 5), (26, 4), (23, 7), (18, 3), (16, 1), (15, 6), (10, 2), (5, 3), (1, 1), (0, 0)],
  [(63, 6), (59, 5), (47, 5), (42, 3), (31, 6), (29, 4), (27, 5), (23, 4), (21, 4), (17, 2), (15, 5), (10, 3), (8, 1), (5, 2), (2, 1), (0, 0)],
  [(63, 6), (61, 4), (55, 4), (53, 4), (47, 5), (37, 2), (27, 5), (17, 2), (10, 3), (8, 1), (2, 1), (0, 0)],
  [(63, 8), (59, 6), (55, 6), (47, 7), (46, 5), (42, 4), (39, 6), (34, 2), (31, 7), (29, 5), (27, 6), (21, 4), (17, 2), (15, 7), (10, 3), (8, 1), (5, 3), (4, 1), (0, 0)],
  [(63, 6), (61, 4), (59, 5), (55, 4), (53, 4), (49, 2), (15, 5), (10, 3), (8, 1), (5, 2), (2, 1), (0, 0)],
  [(63, 8), (61, 6), (59, 7), (58, 5), (57, 6), (47, 6), (42, 4), (40, 2), (31, 7), (27, 7), (23, 5), (21, 4), (17, 3), (16, 1), (15, 6), (10, 3), (5, 2), (2, 1), (0, 0)],
  [(63, 4), (51, 3), (50, 2), (15, 3), (13, 2), (2, 1), (1, 1), (0, 0)],
  [(63, 4), (47, 3), (45, 2), (19, 3), (18, 2), (2, 1), (1, 1), (0, 0)],
  [(63, 6), (55, 6), (54, 4), (51, 4), (50, 4), (47, 5), (39, 5), (34, 2), (31, 5), (23, 5), (18, 2), (13, 3), (5, 3), (4, 1), (1, 1), (0, 0)],
  [(63, 6), (59, 6), (58, 4), (51, 4), (50, 4), (47, 5), (43, 5), (34, 2), (31, 5), (27, 5), (18, 2), (13, 3), (9, 3), (8, 1), (1, 1), (0, 0)],
  [(63, 6), (61, 4), (51, 5), (47, 4), (45, 4), (33, 2), (31, 5), (18, 3), (16, 1), (13, 2), (2, 1), (0, 0)],
  [(63, 4), (35, 3), (34, 2), (31, 3), (29, 2), (2, 1), (1, 1), (0, 0)],
  [(63, 2), (61, 2), (2, 1), (0, 0)],
  [(63, 4), (38, 3), (34, 2), (31, 3), (29, 2), (4, 1), (2, 1), (0, 0)],
  [(63, 4), (42, 3), (34, 2), (31, 3), (29, 2), (8, 1), (2, 1), (0, 0)],
  [(63, 4), (50, 3), (34, 2), (31, 3), (29, 2), (16, 1), (2, 1), (0, 0)],
  [(63, 6), (55, 6), (54, 4), (51, 4), (50, 4), (47, 5), (39, 5), (34, 2), (31, 5), (23, 5), (18, 2), (13, 3), (5, 3), (4, 1), (1, 1), (0, 0)],
  [(63, 4), (47, 3), (45, 2), (22, 3), (18, 2), (4, 1), (2, 1), (0, 0)],
  [(63, 4), (54, 3), (50, 2), (15, 3), (13, 2), (4, 1), (2, 1), (0, 0)],
  [(63, 6), (62, 6), (58, 4), (54, 4), (50, 4), (47, 5), (46, 5), (34, 2), (31, 5), (30, 5), (18, 2), (13, 3), (12, 3), (8, 1), (4, 1), (0, 0)],
  [(63, 6), (61, 4), (54, 5), (47, 4), (45, 4), (36, 2), (31, 5), (18, 3), (16, 1), (13, 2), (2, 1), (0, 0)],
  [(63, 6), (59, 6), (58, 4), (51, 4), (50, 4), (47, 5), (43, 5), (34, 2), (31, 5), (27, 5), (18, 2), (13, 3), (9, 3), (8, 1), (1, 1), (0, 0)],
  [(63, 4), (47, 3), (45, 2), (26, 3), (18, 2), (8, 1), (2, 1), (0, 0)],
  [(63, 6), (62, 6), (58, 4), (54, 4), (50, 4), (47, 5), (46, 5), (34, 2), (31, 5), (30, 5), (18, 2), (13, 3), (12, 3), (8, 1), (4, 1), (0, 0)],
  [(63, 4), (58, 3), (50, 2), (15, 3), (13, 2), (8, 1), (2, 1), (0, 0)],
  [(63, 6), (61, 4), (58, 5), (47, 4), (45, 4), (40, 2), (31, 5), (18, 3), (16, 1), (13, 2), (2, 1), (0, 0)],
  [(63, 6), (62, 4), (59, 4), (58, 4), (55, 5), (50, 2), (15, 5), (10, 2), (5, 3), (4, 1), (1, 1), (0, 0)],
  [(63, 6), (55, 5), (47, 5), (37, 3), (31, 6), (30, 4), (27, 4), (26, 4), (23, 5), (18, 2), (15, 5), (10, 2), (5, 3), (4, 1), (1, 1), (0, 0)],
  [(63, 6), (62, 4), (59, 4), (58, 4), (47, 5), (42, 2), (23, 5), (18, 2), (5, 3), (4, 1), (1, 1), (0, 0)],
  [(63, 8), (62, 6), (55, 6), (47, 7), (46, 6), (45, 5), (37, 4), (36, 2), (31, 7), (27, 5), (26, 4), (23, 6), (18, 2), (15, 7), (10, 3), (8, 1), (5, 3), (1, 1), (0, 0)],
  [(63, 8), (59, 6), (55, 7), (53, 5), (51, 6), (47, 6), (37, 4), (33, 2), (31, 7), (30, 5), (26, 4), (23, 7), (18, 3), (16, 1), (15, 6), (10, 2), (5, 3), (4, 1), (0, 0)],
  [(63, 6), (55, 5), (47, 6), (46, 4), (43, 4), (42, 4), (39, 5), (34, 2), (31, 5), (21, 3), (15, 5), (10, 2), (5, 3), (4, 1), (1, 1), (0, 0)],
  [(63, 4), (55, 3), (53, 2), (14, 3), (10, 2), (4, 1), (2, 1), (0, 0)],
  [(63, 4), (46, 3), (42, 2), (23, 3), (21, 2), (4, 1), (2, 1), (0, 0)],
  [(63, 6), (61, 4), (55, 4), (53, 4), (46, 5), (36, 2), (31, 5), (21, 2), (10, 3), (8, 1), (2, 1), (0, 0)],
  [(63, 6), (62, 6), (58, 4), (55, 5), (54, 5), (46, 4), (42, 4), (34, 2), (31, 5), (30, 5), (21, 3), (20, 3), (16, 1), (10, 2), (4, 1), (0, 0)],
  [(63, 6), (62, 4), (59, 4), (58, 4), (39, 5), (34, 2), (31, 5), (26, 2), (5, 3), (4, 1), (1, 1), (0, 0)],
  [(63, 4), (39, 3), (37, 2), (30, 3), (26, 2), (4, 1), (2, 1), (0, 0)],
  [(63, 4), (62, 3), (58, 2), (7, 3), (5, 2), (4, 1), (2, 1), (0, 0)],
  [(63, 6), (62, 5), (47, 6), (46, 5), (45, 4), (39, 4), (37, 4), (36, 2), (31, 5), (26, 3), (15, 5), (10, 3), (8, 1), (5, 2), (2, 1), (0, 0)],
  [(63, 6), (62, 5), (55, 6), (54, 5), (53, 4), (39, 4), (37, 4), (36, 2), (31, 5), (26, 3), (23, 5), (18, 3), (16, 1), (5, 2), (2, 1), (0, 0)],
  [(63, 8), (62, 6), (55, 6), (47, 7), (43, 5), (42, 4), (39, 6), (34, 2), (31, 7), (30, 6), (29, 5), (21, 4), (20, 2), (15, 7), (10, 3), (8, 1), (5, 3), (1, 1), (0, 0)],
  [(63, 6), (61, 4), (55, 4), (53, 4), (47, 5), (37, 2), (30, 5), (20, 2), (10, 3), (8, 1), (2, 1), (0, 0)],
  [(63, 6), (62, 5), (47, 5), (42, 3), (31, 6), (30, 5), (29, 4), (23, 4), (21, 4), (20, 2), (15, 5), (10, 3), (8, 1), (5, 2), (2, 1), (0, 0)],
  [(63, 6), (62, 5), (61, 4), (55, 4), (53, 4), (52, 2), (15, 5), (10, 3), (8, 1), (5, 2), (2, 1), (0, 0)],
  [(63, 8), (62, 7), (61, 6), (60, 6), (58, 5), (47, 6), (42, 4), (40, 2), (31, 7), (30, 7), (23, 5), (21, 4), (20, 3), (16, 1), (15, 6), (10, 3), (5, 2), (2, 1), (0, 0)]
]
def treeAt (i : Nat) : List (Nat × Nat) := treeP (i / 60) (i / 20 % 3) (i / 5 % 4) (i % 5)
def treesIn (a : Nat) : Bool := (List.range 10).all fun i => treeOk (treeAt (a + i)) (tabs.getD (a + i) [])

theorem trees0 : treesIn 0 = true := by decide +kernel
theorem trees1 : treesIn 10 = true := by decide +kernel
theorem trees2 : treesIn 20 = true := by decide +kernel
theorem trees3 : treesIn 30 = true := by decide +kernel
theorem trees4 : treesIn 40 = true := by decide +kernel
theorem trees5 : treesIn 50 = true := by decide +kernel
theorem trees6 : treesIn 60 = true := by decide +kernel
theorem trees7 : treesIn 70 = true := by decide +kernel
theorem trees8 : treesIn 80 = true := by decide +kernel
theorem trees9 : treesIn 90 = true := by decide +kernel
theorem trees10 : treesIn 100 = true := by decide +kernel
theorem trees11 : treesIn 110 = true := by decide +kernel
theorem treesAll (g : Nat) (h : g < 12) : treesIn (10 * g) = true := by
  match g, h with
  | 0, _ => exact trees0
  | 1, _ => exact trees1
  | 2, _ => exact trees2
  | 3, _ => exact trees3
  | 4, _ => exact trees4
  | 5, _ => exact trees5
  | 6, _ => exact trees6
  | 7, _ => exact trees7
  | 8, _ => exact trees8
  | 9, _ => exact trees9
  | 10, _ => exact trees10
  | 11, _ => exact trees11
theorem tree_ok {a2 a3 a4 a5 : Nat} (h2 : a2 < 2) (h3 : a3 < 3) (h4 : a4 < 4) (h5 : a5 < 5) : ∃ res, TreeOk (afterP (nearP (treeP a2 a3 a4 a5))) (innerP (treeP a2 a3 a4 a5)) res := by
  have e := treesAll ((a2 * 60 + a3 * 20 + a4 * 5 + a5) / 10) (by omega)
  unfold treesIn at e
  rw [List.all_eq_true] at e
  have e2 := e ((a2 * 60 + a3 * 20 + a4 * 5 + a5) % 10) (List.mem_range.mpr (Nat.mod_lt _ (by decide)))
  rw [Nat.div_add_mod] at e2
  have e3 : treeAt (a2 * 60 + a3 * 20 + a4 * 5 + a5) = treeP a2 a3 a4 a5 := by
    unfold treeAt
    rw [show (a2 * 60 + a3 * 20 + a4 * 5 + a5) / 60 = a2 by omega, show (a2 * 60 + a3 * 20 + a4 * 5 + a5) / 20 % 3 = a3 by omega, show (a2 * 60 + a3 * 20 + a4 * 5 + a5) / 5 % 4 = a4 by omega, show (a2 * 60 + a3 * 20 + a4 * 5 + a5) % 5 = a5 by omega]
  rw [e3] at e2
  exact treeOk_ok e2
end Mine
end
section
set_option maxRecDepth 100000
namespace Mine
/-- bit u of x -/
abbrev bt (x u : Nat) : Prop := x / 2 ^ u % 2 = 1
theorem bt_iff {x u : Nat} : bt x u ↔ x.testBit u = true := by
  rw [Nat.testBit_eq_decide_div_mod_eq]; simp [bt]
theorem afterP_snoc (nr : List Nat) (x : Nat) : afterP (nr ++ [x]) = afterP nr ++ (afterP nr).map (· ||| x) := by
  unfold afterP; rw [List.foldl_append]; rfl
theorem afterP_length (nr : List Nat) : (afterP nr).length = 2 ^ nr.length := by
  unfold afterP
  suffices ∀ (l : List Nat) (af : List Nat), (l.foldl afterS af).length = af.length * 2 ^ l.length by rw [this]; simp
  intro l
  induction l with
  | nil => intro af; simp
  | cons x l ih => intro af; rw [List.foldl_cons, ih, afterS, List.length_append, List.length_map, List.length_cons, Nat.pow_succ, ← Nat.two_mul, Nat.mul_comm 2, Nat.mul_assoc, Nat.mul_comm 2]
/-- what a room of the set leads to is in the set of the next day -/
theorem after_sup : ∀ (n : Nat) (nr : List Nat) (S v u : Nat), nr.length = n → S < 2 ^ n → v < n → bt S v → bt (nr.getD v 0) u → bt ((afterP nr).getD S 0) u := by
  intro n
  induction n with
  | zero => intro _ _ _ _ _ _ h; exact absurd h (Nat.not_lt_zero _)
  | succ n ih =>
    intro nr S v u hl hS hv hb hn
    obtain ⟨r, x, rfl⟩ : ∃ r x, nr = r ++ [x] := ⟨nr.dropLast, nr.getLast (by intro e; rw [e] at hl; cases hl), (List.dropLast_concat_getLast _).symm⟩
    have hr : r.length = n := by simpa using hl
    have ha := afterP_length r
    rw [hr] at ha
    rw [afterP_snoc]
    have hx : bt x u → bt ((afterP r ++ (afterP r).map (· ||| x)).getD S 0) u ∨ S < 2 ^ n := by
      intro hxu
      by_cases hc : S < 2 ^ n
      · exact .inr hc
      · refine .inl ?_
        have hlt : S - 2 ^ n < (afterP r).length := by rw [ha]; rw [Nat.pow_succ] at hS; omega
        rw [List.getD_eq_getElem?_getD, List.getElem?_append_right (by omega), ha, List.getElem?_map, List.getElem?_eq_getElem hlt]
        simp only [Option.map_some, Option.getD_some]
        rw [bt_iff] at hxu ⊢
        rw [Nat.testBit_or, hxu, Bool.or_true]
    by_cases hc : S < 2 ^ n
    · rw [List.getD_eq_getElem?_getD, List.getElem?_append_left (by rw [ha]; exact hc), ← List.getD_eq_getElem?_getD]
      have hvn : v < n := by
        rcases Nat.lt_succ_iff_lt_or_eq.mp hv with h | h
        · exact h
        · rw [h] at hb; unfold bt at hb; rw [Nat.div_eq_of_lt hc] at hb; cases hb
      refine ih r S v u hr hc hvn hb ?_
      rw [List.getD_eq_getElem?_getD, List.getElem?_append_left (by omega), ← List.getD_eq_getElem?_getD] at hn
      exact hn
    · have hS2 : S < 2 ^ n + 2 ^ n := by rw [Nat.pow_succ] at hS; omega
      have hlt : S - 2 ^ n < (afterP r).length := by rw [ha]; omega
      have e : (afterP r ++ (afterP r).map (· ||| x)).getD S 0 = (afterP r).getD (S - 2 ^ n) 0 ||| x := by
        rw [List.getD_eq_getElem?_getD, List.getElem?_append_right (by omega), ha, List.getElem?_map, List.getD_eq_getElem?_getD, List.getElem?_eq_getElem hlt]
        rfl
      rw [e, bt_iff, Nat.testBit_or, Bool.or_eq_true]
      rcases Nat.lt_succ_iff_lt_or_eq.mp hv with hvn | hvn
      · refine .inl (bt_iff.mp (ih r (S - 2 ^ n) v u hr (by omega) hvn ?_ ?_))
        · unfold bt at hb ⊢
          obtain ⟨k, hk⟩ : ∃ k, 2 ^ n = 2 ^ v * (2 * k) := ⟨2 ^ (n - v - 1), by rw [← Nat.mul_assoc, ← Nat.pow_succ, ← Nat.pow_add]; congr 1; omega⟩
          have h1 : S = S - 2 ^ n + 2 ^ v * (2 * k) := by omega
          rw [h1, Nat.add_mul_div_left _ _ (Nat.pow_pos (by decide))] at hb
          omega
        · rw [List.getD_eq_getElem?_getD, List.getElem?_append_left (by omega), ← List.getD_eq_getElem?_getD] at hn
          exact hn
      · refine .inr (bt_iff.mp ?_)
        rw [List.getD_eq_getElem?_getD, List.getElem?_append_right (by omega), hr, hvn, Nat.sub_self] at hn
        exact hn
theorem after_lt : ∀ (nr : List Nat) (S : Nat), (∀ x ∈ nr, x < 64) → (afterP nr).getD S 0 < 64 := by
  intro nr S h
  have key : ∀ (l : List Nat) (af : List Nat), (∀ x ∈ l, x < 64) → (∀ y ∈ af, y < 64) → ∀ y ∈ l.foldl afterS af, y < 64 := by
    intro l
    induction l with
    | nil => exact fun af _ h => h
    | cons x l ih =>
      intro af hl ha
      refine ih _ (fun y hy => hl y (.tail _ hy)) fun y hy => ?_
      unfold afterS at hy
      rcases List.mem_append.mp hy with hy | hy
      · exact ha y hy
      · obtain ⟨z, hz, rfl⟩ := List.mem_map.mp hy
        exact Nat.or_lt_two_pow (n := 6) (ha z hz) (hl x (.head _))
  rw [List.getD_eq_getElem?_getD]
  cases e : (afterP nr)[S]? with
  | none => decide
  | some y => exact key nr [0] h (by simp) y (List.mem_of_getElem? e)
/-- two rooms of the ring R in S -/
def Two (R S : Nat) : Prop := ∃ i j, i < 6 ∧ j < 6 ∧ i ≠ j ∧ bt R i ∧ bt R j ∧ bt S i ∧ bt S j
def twoB (R S : Nat) : Bool := (List.range 6).any fun i => (List.range i).any fun j => decide (bt R i) && (decide (bt R j) && (decide (bt S i) && decide (bt S j)))
theorem twoB_ok {R S : Nat} (h : twoB R S = true) : Two R S := by
  unfold twoB at h
  simp only [List.any_eq_true, List.mem_range, Bool.and_eq_true, decide_eq_true_eq] at h
  obtain ⟨i, hi, j, hj, a, b, c, d⟩ := h
  exact ⟨i, j, hi, by omega, by omega, a, b, c, d⟩
def ringOk (nr : List Nat) (R : Nat) : Bool := twoB R 63 && (List.range 6).all fun v => !decide (bt R v) || twoB R (nr.getD v 0)
structure Ring (nr : List Nat) (R : Nat) : Prop where
  len : nr.length = 6
  lt : ∀ x ∈ nr, x < 64
  start : Two R 63
  nei : ∀ v, v < 6 → bt R v → Two R (nr.getD v 0)
theorem bit_sub_all : ((List.range 64).all fun S => (List.range 6).all fun k => (List.range 6).all fun v => decide (S / 2 ^ k % 2 = 1 ∧ S / 2 ^ v % 2 = 1 ∧ v ≠ k → (S - 2 ^ k) / 2 ^ v % 2 = 1)) = true := by decide +kernel
theorem bit_and_all : ((List.range 64).all fun S => (List.range 6).all fun k => (List.range 6).all fun v => decide (S / 2 ^ v % 2 = 1 ∧ v ≠ k → (S &&& (63 - 2 ^ k)) / 2 ^ v % 2 = 1)) = true := by decide +kernel
theorem bit_sub (S : Nat) (hS : S < 64) (k : Nat) (hk : k < 6) (hb : bt S k) (v : Nat) (hv : v < 6) (h : bt S v) (hn : v ≠ k) : bt (S - 2 ^ k) v := by
  have e := bit_sub_all
  simp only [List.all_eq_true, List.mem_range, decide_eq_true_eq] at e
  exact e S hS k hk v hv ⟨hb, h, hn⟩
theorem bit_and (S : Nat) (hS : S < 64) (k : Nat) (hk : k < 6) (v : Nat) (hv : v < 6) (h : bt S v) (hn : v ≠ k) : bt (S &&& (63 - 2 ^ k)) v := by
  have e := bit_and_all
  simp only [List.all_eq_true, List.mem_range, decide_eq_true_eq] at e
  exact e S hS k hk v hv ⟨h, hn⟩
theorem two_up {R S T : Nat} (h : Two R S) (hst : ∀ u, u < 6 → bt S u → bt T u) : Two R T := by
  obtain ⟨i, j, hi, hj, n, a, b, c, d⟩ := h
  exact ⟨i, j, hi, hj, n, a, b, hst i hi c, hst j hj d⟩
theorem Ring.next {nr : List Nat} {R S k : Nat} (g : Ring nr R) (h : Two R S) {T : Nat} (hT : T < 64) (hk : ∀ v, v < 6 → bt S v → v ≠ k → bt T v) : T ≠ 0 ∧ Two R ((afterP nr).getD T 0) := by
  obtain ⟨v, hv, hr, ht⟩ : ∃ v, v < 6 ∧ bt R v ∧ bt T v := by
    obtain ⟨i, j, hi, hj, n, a, b, c, d⟩ := h
    by_cases e : i = k
    · exact ⟨j, hj, b, hk j hj d fun x => n (e.trans x.symm)⟩
    · exact ⟨i, hi, a, hk i hi c e⟩
  refine ⟨fun e => by rw [e] at ht; unfold bt at ht; simp at ht, two_up (g.nei v hv hr) fun u _ hu => ?_⟩
  exact after_sup 6 nr T v u g.len hT hv ht hu
theorem Ring.rooms {nr : List Nat} {R : Nat} (g : Ring nr R) (xs : List Nat) (hx : ∀ x ∈ xs, x < 6) : rmF (afterP nr) xs ≠ 0 := by
  have key : ∀ (ys : List Nat) (S : Nat), (∀ x ∈ ys, x < 6) → S < 64 → Two R S → (ys.foldl (fun r d => (afterP nr).getD (r &&& (63 - 2 ^ d)) 0) S) < 64 ∧ Two R (ys.foldl (fun r d => (afterP nr).getD (r &&& (63 - 2 ^ d)) 0) S) := by
    intro ys
    induction ys with
    | nil => exact fun S _ h t => ⟨h, t⟩
    | cons y ys ih =>
      intro S hy hS h
      have hy6 := hy y (.head _)
      refine ih _ (fun x hx => hy x (.tail _ hx)) (after_lt _ _ g.lt) (g.next h (Nat.lt_of_le_of_lt Nat.and_le_left hS) (bit_and S hS y hy6)).2
  obtain ⟨_, i, _, hi, _, _, _, _, c, _⟩ := key xs 63 hx (by decide) g.start
  intro e
  have e' : List.foldl (fun r d => (afterP nr).getD (r &&& (63 - 2 ^ d)) 0) 63 xs = 0 := e
  rw [e'] at c
  unfold bt at c; simp at c
/-- the queue of the search, all of it met, all of it holding two of the ring -/
structure Met (R : Nat) (tr : List (Nat × List Nat)) (q : List Nat) : Prop where
  mem : ∀ f ∈ q, ∃ ds, tr.lookup f = some ds
  good : ∀ e ∈ tr, e.1 < 64 ∧ Two R e.1
  nodup : (tr.map (·.1)).Nodup
theorem lookup_mem {k : Nat} {v : List Nat} : ∀ {l : List (Nat × List Nat)}, l.lookup k = some v → (k, v) ∈ l
  | [], h => nomatch h
  | (a, b) :: l, h => by
    rw [List.lookup_cons] at h
    split at h
    · rename_i e
      obtain rfl : k = a := by simpa using e
      obtain rfl : b = v := by simpa using h
      exact .head _
    · exact .tail _ (lookup_mem h)
theorem lookup_not {k : Nat} : ∀ {l : List (Nat × List Nat)}, l.lookup k = none → k ∉ l.map (·.1)
  | [], _, h => nomatch h
  | (a, b) :: l, h, hm => by
    rw [List.lookup_cons] at h
    split at h
    · cases h
    · rename_i e
      rcases List.mem_cons.mp hm with rfl | hm
      · simp at e
      · exact lookup_not h hm
theorem Ring.step {nr : List Nat} {R : Nat} (g : Ring nr R) (f : Nat) (ds : List Nat) (hf : f < 64) (ht : Two R f) : ∀ (ks : List Nat) (tr : List (Nat × List Nat)) (q : List Nat), (∀ k ∈ ks, k < 6) → Met R tr q →
    ∃ x, stepK (afterP nr) f ds ks tr q = .inr x ∧ Met R x.1 x.2 ∧ x.2.length + tr.length = q.length + x.1.length := by
  intro ks
  induction ks with
  | nil => exact fun tr q _ M => ⟨(tr, q), rfl, M, rfl⟩
  | cons k ks ih =>
    intro tr q hk M
    have hk6 := hk k (.head _)
    have ih' := fun tr q => ih tr q (fun x hx => hk x (.tail _ hx))
    unfold stepK
    by_cases hb : f / 2 ^ k % 2 = 1
    · rw [if_pos hb]
      obtain ⟨h0, h1⟩ := g.next ht (T := f - 2 ^ k) (Nat.lt_of_le_of_lt (Nat.sub_le _ _) hf) (fun v hv hv2 hn => bit_sub f hf k hk6 hb v hv hv2 hn)
      rw [if_neg h0]
      split
      · exact ih' tr q M
      · rename_i e
        have M' : Met R (((afterP nr).getD (f - 2 ^ k) 0, ds ++ [k]) :: tr) (q ++ [(afterP nr).getD (f - 2 ^ k) 0]) := by
          refine ⟨fun x hx => ?_, fun x hx => ?_, ?_⟩
          · rw [List.lookup_cons]
            split
            · exact ⟨_, rfl⟩
            · rename_i hne
              rcases List.mem_append.mp hx with hx | hx
              · exact M.mem x hx
              · rw [List.mem_singleton.mp hx] at hne; simp at hne
          · rcases List.mem_cons.mp hx with rfl | hx
            · exact ⟨after_lt _ _ g.lt, h1⟩
            · exact M.good x hx
          · rw [List.map_cons, List.nodup_cons]
            exact ⟨lookup_not e, M.nodup⟩
        obtain ⟨x, a, b, c⟩ := ih' _ _ M'
        refine ⟨x, a, b, ?_⟩
        simp only [List.length_append, List.length_cons, List.length_nil] at c
        omega
    · rw [if_neg hb]
      exact ih' tr q M
theorem nodup_len {l : List Nat} (h : l.Nodup) (hl : ∀ x ∈ l, x < 64) : l.length ≤ 64 := by
  have := List.Nodup.length_le_of_subset h (l₂ := List.range 64) fun x hx => List.mem_range.mpr (hl x hx)
  simpa using this
theorem Ring.loop {nr : List Nat} {R : Nat} (g : Ring nr R) : ∀ (n : Nat) (tr : List (Nat × List Nat)) (q : List Nat), Met R tr q → q.length + 64 < n + tr.length → loopP (afterP nr) n tr q = some [] := by
  intro n
  induction n with
  | zero =>
    intro tr q M h
    have h64 : tr.length ≤ 64 := by
      have := nodup_len M.nodup (fun x hx => by obtain ⟨e, he, rfl⟩ := List.mem_map.mp hx; exact (M.good e he).1)
      simpa using this
    omega
  | succ n ih =>
    intro tr q M h
    cases q with
    | nil => rfl
    | cons f q =>
      obtain ⟨ds, hd⟩ := M.mem f (.head _)
      obtain ⟨hf, ht⟩ := M.good _ (lookup_mem hd)
      have Mq : Met R tr q := ⟨fun x hx => M.mem x (.tail _ hx), M.good, M.nodup⟩
      obtain ⟨x, hx, M', hl⟩ := g.step f ds hf ht (List.range 6) tr q (fun k hk => List.mem_range.mp hk) Mq
      unfold loopP
      rw [hd]
      dsimp only
      rw [hx]
      dsimp only
      refine ih _ _ M' ?_
      rw [List.length_cons] at h
      omega
theorem Ring.looks {nr : List Nat} {R : Nat} (g : Ring nr R) : loopP (afterP nr) 90 [(63, [])] [63] = some [] := by
  refine g.loop 90 _ _ ⟨fun f hf => ?_, fun e he => ?_, ?_⟩ (by decide)
  · rw [List.mem_singleton.mp hf]; exact ⟨_, rfl⟩
  · rw [List.mem_singleton.mp he]; exact ⟨by decide, g.start⟩
  · simp
theorem nearS_length (nr : List Nat) (d : Nat × Nat) : (nearS nr d).length = nr.length := by simp [nearS]
theorem nearP_length (ds : List (Nat × Nat)) : (nearP ds).length = 6 := by
  unfold nearP
  suffices ∀ (l : List (Nat × Nat)) (nr : List Nat), nr.length = 6 → (l.foldl nearS nr).length = 6 from this ds _ rfl
  intro l
  induction l with
  | nil => exact fun _ h => h
  | cons d l ih => exact fun nr h => ih _ (by rw [nearS_length]; exact h)
def strip (nr : List Nat) (R : Nat) : Nat := (List.range 6).foldl (fun T v => if bt R v ∧ twoB R (nr.getD v 0) = true then T + 2 ^ v else T) 0
def ringOf (nr : List Nat) : Nat := strip nr (strip nr (strip nr (strip nr 63)))
def ringB (ds : List (Nat × Nat)) : Bool := ringOk (nearP ds) (ringOf (nearP ds)) && (nearP ds).all fun x => decide (x < 64)
theorem ringB_ok {ds : List (Nat × Nat)} (h : ringB ds = true) : ∃ R, Ring (nearP ds) R := by
  unfold ringB ringOk at h
  simp only [Bool.and_eq_true, List.all_eq_true, decide_eq_true_eq, List.mem_range, Bool.or_eq_true, Bool.not_eq_true', decide_eq_false_iff_not] at h
  obtain ⟨⟨h1, h2⟩, h3⟩ := h
  exact ⟨_, nearP_length ds, h3, twoB_ok h1, fun v hv hr => twoB_ok ((h2 v hv).resolve_left fun e => e hr)⟩
end Mine
end
section
set_option maxRecDepth 100000
namespace Mine
def pairsP : List (Nat × Nat) := (List.range 6).flatMap fun b => (List.range b).map fun a => (a, b)
def baseP (ns : List Nat) : List (Nat × Nat) := (List.range 5).map fun i => (ns.getD i 0 % (i + 1), i + 1)
def moreP (c : Nat) : List (Nat × Nat) := (pairsP.drop (c % 20)).take 1
def doorsP (ns : List Nat) : List (Nat × Nat) := baseP ns ++ (moreP (ns.getD 5 0)).filter fun p => decide (p ∉ baseP ns)
def ringsIn (a : Nat) : Bool := (List.range 10).all fun i => pairsP.all fun p => (treeAt (a + i)).contains p || ringB (treeAt (a + i) ++ [p])
theorem rings0 : ringsIn 0 = true := by decide +kernel
theorem rings1 : ringsIn 10 = true := by decide +kernel
theorem rings2 : ringsIn 20 = true := by decide +kernel
theorem rings3 : ringsIn 30 = true := by decide +kernel
theorem rings4 : ringsIn 40 = true := by decide +kernel
theorem rings5 : ringsIn 50 = true := by decide +kernel
theorem rings6 : ringsIn 60 = true := by decide +kernel
theorem rings7 : ringsIn 70 = true := by decide +kernel
theorem rings8 : ringsIn 80 = true := by decide +kernel
theorem rings9 : ringsIn 90 = true := by decide +kernel
theorem rings10 : ringsIn 100 = true := by decide +kernel
theorem rings11 : ringsIn 110 = true := by decide +kernel
theorem ringsAll (g : Nat) (h : g < 12) : ringsIn (10 * g) = true := by
  match g, h with
  | 0, _ => exact rings0
  | 1, _ => exact rings1
  | 2, _ => exact rings2
  | 3, _ => exact rings3
  | 4, _ => exact rings4
  | 5, _ => exact rings5
  | 6, _ => exact rings6
  | 7, _ => exact rings7
  | 8, _ => exact rings8
  | 9, _ => exact rings9
  | 10, _ => exact rings10
  | 11, _ => exact rings11
theorem treeAt_eq {a2 a3 a4 a5 : Nat} (h2 : a2 < 2) (h3 : a3 < 3) (h4 : a4 < 4) (h5 : a5 < 5) : treeAt (a2 * 60 + a3 * 20 + a4 * 5 + a5) = treeP a2 a3 a4 a5 := by
  unfold treeAt
  rw [show (a2 * 60 + a3 * 20 + a4 * 5 + a5) / 60 = a2 by omega, show (a2 * 60 + a3 * 20 + a4 * 5 + a5) / 20 % 3 = a3 by omega, show (a2 * 60 + a3 * 20 + a4 * 5 + a5) / 5 % 4 = a4 by omega, show (a2 * 60 + a3 * 20 + a4 * 5 + a5) % 5 = a5 by omega]
theorem ring_ok {a2 a3 a4 a5 : Nat} {p : Nat × Nat} (h2 : a2 < 2) (h3 : a3 < 3) (h4 : a4 < 4) (h5 : a5 < 5) (hp : p ∈ pairsP) (hn : p ∉ treeP a2 a3 a4 a5) : ∃ R, Ring (nearP (treeP a2 a3 a4 a5 ++ [p])) R := by
  have e := ringsAll ((a2 * 60 + a3 * 20 + a4 * 5 + a5) / 10) (by omega)
  unfold ringsIn at e
  rw [List.all_eq_true] at e
  have e2 := e ((a2 * 60 + a3 * 20 + a4 * 5 + a5) % 10) (List.mem_range.mpr (Nat.mod_lt _ (by decide)))
  rw [Nat.div_add_mod, treeAt_eq h2 h3 h4 h5, List.all_eq_true] at e2
  have e3 := e2 p hp
  rw [Bool.or_eq_true, List.contains_iff_mem] at e3
  exact ringB_ok (e3.resolve_left hn)
theorem baseP_eq (ns : List Nat) : baseP ns = treeP (ns.getD 1 0 % 2) (ns.getD 2 0 % 3) (ns.getD 3 0 % 4) (ns.getD 4 0 % 5) := by
  show [(ns.getD 0 0 % 1, 1), _, _, _, _] = _
  rw [Nat.mod_one]; rfl
theorem baseP_len (ns : List Nat) : (baseP ns).length = 5 := by rw [baseP_eq]; rfl
theorem baseP_lt (ns : List Nat) : ∀ d ∈ baseP ns, d.1 < 6 ∧ d.2 < 6 := by
  intro d hd
  unfold baseP at hd
  obtain ⟨i, hi, rfl⟩ := List.mem_map.mp hd
  have h5 := List.mem_range.mp hi
  have h1 : ns.getD i 0 % (i + 1) < i + 1 := Nat.mod_lt _ (Nat.succ_pos i)
  exact ⟨Nat.lt_of_lt_of_le h1 (by omega), by show i + 1 < 6; omega⟩
theorem pairsP_lt : ∀ p ∈ pairsP, p.1 < 6 ∧ p.2 < 6 := by decide
theorem moreP_cases (c : Nat) : moreP c = [] ∨ ∃ p ∈ pairsP, moreP c = [p] := by
  unfold moreP
  cases e : pairsP.drop (c % 20) with
  | nil => exact .inl rfl
  | cons p l => exact .inr ⟨p, List.mem_of_mem_drop (e ▸ List.mem_cons_self), rfl⟩
/-- what the law asks of the house -/
def HouseOk (ds : List (Nat × Nat)) : Prop := (∃ res, TreeOk (afterP (nearP ds)) (innerP ds) res) ∨ (innerP ds = [] ∧ ∃ R, Ring (nearP ds) R)
theorem house_ok (ns : List Nat) : HouseOk (doorsP ns) := by
  have h2 := Nat.mod_lt (ns.getD 1 0) (show 0 < 2 by decide)
  have h3 := Nat.mod_lt (ns.getD 2 0) (show 0 < 3 by decide)
  have h4 := Nat.mod_lt (ns.getD 3 0) (show 0 < 4 by decide)
  have h5 := Nat.mod_lt (ns.getD 4 0) (show 0 < 5 by decide)
  have tree : HouseOk (baseP ns) := by
    rw [baseP_eq]
    exact .inl (tree_ok h2 h3 h4 h5)
  unfold doorsP
  rcases moreP_cases (ns.getD 5 0) with e | ⟨p, hp, e⟩
  · rw [e, List.filter_nil, List.append_nil]; exact tree
  · rw [e, List.filter_cons]
    split
    · rename_i hn
      rw [decide_eq_true_eq] at hn
      refine .inr ⟨?_, ?_⟩
      · unfold innerP
        rw [if_neg]
        rw [List.filter_nil, List.length_append, baseP_len]; show ¬ (5 + 1 = 5); decide
      · rw [baseP_eq] at hn ⊢
        rw [List.filter_nil]
        exact ring_ok h2 h3 h4 h5 hp hn
    · rw [List.filter_nil, List.append_nil]; exact tree
theorem doorsP_lt (ns : List Nat) : ∀ d ∈ doorsP ns, d.1 < 6 ∧ d.2 < 6 := by
  intro d hd
  unfold doorsP at hd
  rcases List.mem_append.mp hd with hd | hd
  · exact baseP_lt ns d hd
  · have := (List.mem_filter.mp hd).1
    unfold moreP at this
    exact pairsP_lt d (List.mem_of_mem_drop (List.mem_of_mem_take this))
end Mine
end
section
set_option maxRecDepth 100000
open PySem PySem.W PyProof.Rows PySem.Calls
namespace Mine
def restP (inner : List Nat) (low : Nat) : Nat := ((inner.filter fun k => decide (31 < low + k)).map fun k => 2 ^ (low + k)).sum
def wordsP (inner : List Nat) (low : Nat) : List Str := (inner.filter fun k => decide (low + k < 32)).map (fun k => nmP (low + k)) ++ (if restP inner low ≠ 0 ∨ inner = [] then [hexP (restP inner low)] else [])
theorem prettyTo_eq (f : Nat) : ∀ n, prettyTo f n = ((List.range n).filter fun i => decide (f / 2 ^ i % 2 = 1)).map nmP
  | 0 => rfl
  | n + 1 => by
    rw [List.range_succ, List.filter_append, List.map_append, ← prettyTo_eq f n]
    show prettyTo f n ++ _ = _
    congr 1
    rw [List.filter_cons]
    split <;> rename_i h
    · rw [if_pos (by simpa using h)]; rfl
    · rw [if_neg (by simpa using h)]; rfl
def innerOf (S : Nat) : List Nat := (List.range 6).filter fun k => decide (S / 2 ^ k % 2 = 1)
theorem flF_bit (low : Nat) (ds : List Nat) (i : Nat) : (flF low ds).testBit i = ds.any fun d => decide (low + d = i) := by
  unfold flF
  suffices ∀ (l : List Nat) (f : Nat), (l.foldl (fun f d => f ||| 2 ^ (low + d)) f).testBit i = (f.testBit i || l.any fun d => decide (low + d = i)) by rw [this]; simp
  intro l
  induction l with
  | nil => intro f; simp
  | cons d l ih =>
    intro f
    rw [List.foldl_cons, ih, Nat.testBit_or, Nat.testBit_two_pow, List.any_cons, Bool.or_assoc]
theorem flF_set {low : Nat} {a b : List Nat} (h1 : ∀ k ∈ a, k ∈ b) (h2 : ∀ k ∈ b, k ∈ a) : flF low a = flF low b := by
  apply Nat.eq_of_testBit_eq
  intro i
  rw [flF_bit, flF_bit]
  rw [Bool.eq_iff_iff, List.any_eq_true, List.any_eq_true]
  exact ⟨fun ⟨x, hx, e⟩ => ⟨x, h1 x hx, e⟩, fun ⟨x, hx, e⟩ => ⟨x, h2 x hx, e⟩⟩
def flagOk (low S : Nat) : Bool :=
  let f := flF low (innerOf S)
  decide (((List.range 32).filter fun i => decide (f / 2 ^ i % 2 = 1)) = ((innerOf S).filter fun k => decide (low + k < 32)).map fun k => low + k) &&
    (decide (f / 2 ^ 32 * 2 ^ 32 = restP (innerOf S) low) && (decide (f = 0) == decide (innerOf S = [])))
def flagsIn (a : Nat) : Bool := (List.range 10).all fun low => (List.range 64).all fun S => flagOk (a + low) S
theorem flags0 : flagsIn 0 = true := by decide +kernel
theorem flags1 : flagsIn 10 = true := by decide +kernel
theorem flags2 : flagsIn 20 = true := by decide +kernel
theorem flags3 : flagsIn 30 = true := by decide +kernel
theorem flag_ok {low S : Nat} (h : low < 40) (hS : S < 64) : flagOk low S = true := by
  have key : ∀ a, flagsIn a = true → ∀ i, i < 10 → flagOk (a + i) S = true := by
    intro a ha i hi
    unfold flagsIn at ha
    rw [List.all_eq_true] at ha
    have := ha i (List.mem_range.mpr hi)
    rw [List.all_eq_true] at this
    exact this S (List.mem_range.mpr hS)
  rcases Nat.lt_or_ge low 10 with c | c
  · have := key 0 flags0 low c; rwa [Nat.zero_add] at this
  · rcases Nat.lt_or_ge low 20 with c2 | c2
    · have := key 10 flags1 (low - 10) (by omega); rwa [show 10 + (low - 10) = low by omega] at this
    · rcases Nat.lt_or_ge low 30 with c3 | c3
      · have := key 20 flags2 (low - 20) (by omega); rwa [show 20 + (low - 20) = low by omega] at this
      · have := key 30 flags3 (low - 30) (by omega); rwa [show 30 + (low - 30) = low by omega] at this
theorem pretty_inner {low S : Nat} (h : low < 40) (hS : S < 64) : prettyP (flF low (innerOf S)) = wordsP (innerOf S) low := by
  have e := flag_ok h hS
  unfold flagOk at e
  simp only [Bool.and_eq_true, decide_eq_true_eq, beq_iff_eq, decide_eq_decide] at e
  obtain ⟨e1, e2, e3⟩ := e
  unfold prettyP pq wordsP
  rw [prettyTo_eq, e1, e2, List.map_map]
  congr 1
  simp only [e3]
theorem filter_innerOf (p : Nat → Bool) : ∃ S, S < 64 ∧ (List.range 6).filter p = innerOf S := by
  have key : ∀ b0 b1 b2 b3 b4 b5 : Bool, ∃ S, S < 64 ∧ (S / 2 ^ 0 % 2 = 1 ↔ b0 = true) ∧ (S / 2 ^ 1 % 2 = 1 ↔ b1 = true) ∧ (S / 2 ^ 2 % 2 = 1 ↔ b2 = true) ∧ (S / 2 ^ 3 % 2 = 1 ↔ b3 = true) ∧ (S / 2 ^ 4 % 2 = 1 ↔ b4 = true) ∧ (S / 2 ^ 5 % 2 = 1 ↔ b5 = true) := by
    have key2 : ∀ b0 b1 b2 b3 b4 b5 : Bool, (b0.toNat + 2 * b1.toNat + 4 * b2.toNat + 8 * b3.toNat + 16 * b4.toNat + 32 * b5.toNat) < 64 ∧ ((b0.toNat + 2 * b1.toNat + 4 * b2.toNat + 8 * b3.toNat + 16 * b4.toNat + 32 * b5.toNat) / 2 ^ 0 % 2 = 1 ↔ b0 = true) ∧ ((b0.toNat + 2 * b1.toNat + 4 * b2.toNat + 8 * b3.toNat + 16 * b4.toNat + 32 * b5.toNat) / 2 ^ 1 % 2 = 1 ↔ b1 = true) ∧ ((b0.toNat + 2 * b1.toNat + 4 * b2.toNat + 8 * b3.toNat + 16 * b4.toNat + 32 * b5.toNat) / 2 ^ 2 % 2 = 1 ↔ b2 = true) ∧ ((b0.toNat + 2 * b1.toNat + 4 * b2.toNat + 8 * b3.toNat + 16 * b4.toNat + 32 * b5.toNat) / 2 ^ 3 % 2 = 1 ↔ b3 = true) ∧ ((b0.toNat + 2 * b1.toNat + 4 * b2.toNat + 8 * b3.toNat + 16 * b4.toNat + 32 * b5.toNat) / 2 ^ 4 % 2 = 1 ↔ b4 = true) ∧ ((b0.toNat + 2 * b1.toNat + 4 * b2.toNat + 8 * b3.toNat + 16 * b4.toNat + 32 * b5.toNat) / 2 ^ 5 % 2 = 1 ↔ b5 = true) := by decide +kernel
    exact fun b0 b1 b2 b3 b4 b5 => ⟨_, key2 b0 b1 b2 b3 b4 b5⟩
  obtain ⟨S, hS, h0, h1, h2, h3, h4, h5⟩ := key (p 0) (p 1) (p 2) (p 3) (p 4) (p 5)
  refine ⟨S, hS, ?_⟩
  unfold innerOf
  apply List.filter_congr
  intro k hk
  have h6 := List.mem_range.mp hk
  rw [Bool.eq_iff_iff, decide_eq_true_eq]
  match k, h6 with
  | 0, _ => exact h0.symm
  | 1, _ => exact h1.symm
  | 2, _ => exact h2.symm
  | 3, _ => exact h3.symm
  | 4, _ => exact h4.symm
  | 5, _ => exact h5.symm
theorem innerP_is (ds : List (Nat × Nat)) : ∃ S, S < 64 ∧ innerP ds = innerOf S := by
  unfold innerP
  split
  · exact filter_innerOf _
  · exact ⟨0, by decide, by decide⟩
/-- the words for the rooms looked into -/
theorem pretty_words {low : Nat} {ds : List (Nat × Nat)} {res : List Nat} (h : low < 40) (h1 : ∀ k ∈ res, k ∈ innerP ds) (h2 : ∀ k ∈ innerP ds, k ∈ res) : prettyP (flF low res) = wordsP (innerP ds) low := by
  rw [flF_set h1 h2]
  obtain ⟨S, hS, e⟩ := innerP_is ds
  rw [e]
  exact pretty_inner h hS
theorem flF_lt {low : Nat} {ds : List Nat} (h : low < 40) (hd : ∀ d ∈ ds, d < 6) : flF low ds < 2 ^ 64 := by
  unfold flF
  suffices ∀ (l : List Nat) (f : Nat), (∀ d ∈ l, d < 6) → f < 2 ^ 64 → l.foldl (fun f d => f ||| 2 ^ (low + d)) f < 2 ^ 64 from this ds 0 hd (by decide)
  intro l
  induction l with
  | nil => exact fun f _ h => h
  | cons d l ih =>
    intro f hl hf
    refine ih _ (fun x hx => hl x (.tail _ hx)) (Nat.or_lt_two_pow hf (Nat.pow_lt_pow_right (by decide) ?_))
    have := hl d (.head _); omega
end Mine
end
section
set_option maxRecDepth 100000
open PySem PySem.W PyProof.Rows PySem.Calls PySem.SeqAt
namespace Mine
section
variable {prog : Program} {w : World} {A : Around} {h₀ : Heap} {L : Addr} {m : Str → Option Value} {env : Env} {ct elt : PySem.Expr} {x : Str} {scope : Scope} {cl : List (Str × Addr)} {s : Shared} {S : List (Addr × Obj) → Prop} {P : Nat → Value → Prop} {Fin : List Value → List (Addr × Obj) → Prop} {news : List (Addr × Obj)}
theorem comp_invT {n : Nat} (J : Nat → List Value → List (Addr × Obj) → Prop) (h0 : J 0 [] news)
    (turn : ∀ i v nw I oI C oC D m₂ ys h tk (E' : Value → Shared → Prop), i < n → P i v → J i ys nw → LCg.NsObj oC m₂ → m₂ x = some v → Fr h₀ L h m → News h₀ L h ((I, oI) :: (C, oC) :: (D, LCg.lst ys) :: nw) → LCg.Off3 I C D nw → ((@Ne Nat I C) ∧ (@Ne Nat I D) ∧ (@Ne Nat C D)) →
      wpAny (model prog w) A (isTrue ct (compEnvC scope cl C env) (eval ct (compEnvC scope cl C env))) (fun ok s' => if ok = true then
        wpAny (model prog w) A (eval elt (compEnvC scope cl C env)) (LCg.CompEnd h₀ L m { s with heap := h, toks := tk } I oI C oC D (LCg.lst ys) S (fun y nw' => J (i + 1) (ys ++ [y]) nw')) E' s'
        else LCg.CompEnd h₀ L m { s with heap := h, toks := tk } I oI C oC D (LCg.lst ys) S (fun _ nw' => J (i + 1) ys nw') Value.none s') E' { s with heap := h, toks := tk })
    (fin : ∀ ys nw, J n ys nw → Fin ys nw) : LCt.CompRestT prog w A h₀ L m env ct elt x scope cl s S P Fin n 0 [] news := by
  have key : ∀ (j i : Nat) (ys : List Value) (nw : List (Addr × Obj)), i + j = n → J i ys nw → LCt.CompRestT prog w A h₀ L m env ct elt x scope cl s S P Fin j i ys nw := by
    intro j
    induction j with
    | zero =>
      intro i ys nw hi hy
      obtain rfl : i = n := by omega
      exact LCt.CompRestT.zero (fin ys nw hy)
    | succ j ih =>
      intro i ys nw hi hy
      refine LCt.CompRestT.succ ?_
      intro v I oI C oC D m₂ h tk E' hv hC hx F N off ne
      refine wpAny_mono (turn i v nw I oI C oC D m₂ ys h tk E' (by omega) hv hy hC hx F N off ne) (fun ok s₂ hq => ?_) fun _ _ e => e
      cases ok with
      | true =>
        simp only [if_true] at hq ⊢
        refine wpAny_mono hq (fun y s₃ hq => ?_) fun _ _ e => e
        obtain ⟨h', tk', nw', e, F', N', off', hS, hJ⟩ := hq
        exact ⟨h', tk', nw', e, F', N', off', hS, ih (i + 1) _ _ (by omega) hJ⟩
      | false =>
        simp only [Bool.false_eq_true, if_false] at hq ⊢
        obtain ⟨h', tk', nw', e, F', N', off', hS, hJ⟩ := hq
        exact ⟨h', tk', nw', e, F', N', off', hS, ih (i + 1) _ _ (by omega) hJ⟩
  exact key n 0 [] news (by omega) h0
end
theorem filt_on {α : Type} {f : α → Bool} {l : List α} {i : Nat} {d : α} (hd : l[i]? = some d) (hf : f d = true) : (l.take (i + 1)).filter f = (l.take i).filter f ++ [d] := by
  rw [List.take_add_one, hd, List.filter_append]
  show _ ++ [d].filter f = _
  rw [List.filter_cons, if_pos hf]; rfl
theorem filt_off {α : Type} {f : α → Bool} {l : List α} {i : Nat} {d : α} (hd : l[i]? = some d) (hf : f d = false) : (l.take (i + 1)).filter f = (l.take i).filter f := by
  rw [List.take_add_one, hd, List.filter_append]
  show _ ++ [d].filter f = _
  rw [List.filter_cons, if_neg (by rw [hf]; decide)]; exact List.append_nil _
section
variable {prog : Program} {w : World} {A : Around} {s : Shared} {h₀ : Heap} {L a : Addr} {m : Str → Option Value} {news : List (Addr × Obj)} {E : Value → Shared → Prop}
abbrev Dp.dat (q : Dp) : PyData := .tuple [.int (q.x : Int), .int (q.y : Int)]
theorem reads_dp {q : Dp} (N : News h₀ L s.heap news) (hm : (q.at_, q.obj) ∈ news) : Reads s.heap (.ref q.at_) q.dat [] :=
  Reads.tuple (N _ hm).1 rfl rfl (.cons (as := []) (bs := []) (.int _ _) (.cons (as := []) (bs := []) (.int _ _) .nil))
theorem reads_dps (N : News h₀ L s.heap news) : ∀ (qs : List Dp), (∀ q ∈ qs, (q.at_, q.obj) ∈ news) → ReadsAll s.heap (qs.map fun q => Value.ref q.at_) (qs.map Dp.dat) []
  | [], _ => .nil
  | q :: qs, h => .cons (as := []) (bs := []) (reads_dp N (h q (.head _))) (reads_dps N qs fun p hp => h p (.tail _ hp))
theorem can_dps : ∀ qs : List Dp, PyData.canLayAll0 (qs.map Dp.dat) = true
  | [] => rfl
  | q :: qs => by
    show (PyData.canLay0 q.dat && PyData.canLayAll0 (qs.map Dp.dat)) = true
    rw [can_dps qs]; rfl
theorem eqv_dp (p q : Dp) : PyData.eqv p.dat q.dat = decide ((q.x, q.y) = (p.x, p.y)) := by
  show ((((p.x : Int) == (q.x : Int)) && (((p.y : Int) == (q.y : Int)) && true)) : Bool) = _
  rw [Bool.eq_iff_iff]
  simp only [Bool.and_true, Bool.and_eq_true, beq_iff_eq, decide_eq_true_eq, Prod.mk.injEq]
  omega
theorem op_notinD {qs : List Dp} {p : Dp} {n : Nat} {Q : Value → Shared → Prop} (N : News h₀ L s.heap news) (hm : (a, listOf (refsOfD qs) n) ∈ news) (hq : ∀ q ∈ qs, (q.at_, q.obj) ∈ news) (hp : (p.at_, p.obj) ∈ news) (hu : A.units + 10 < cLine)
    (h : Q (.bool (!decide ((p.x, p.y) ∈ qs.map fun d => (d.x, d.y)))) s) : wpAny (model prog w) A (compareOp .NotIn (.ref p.at_) (.ref a)) Q E s := by
  refine notIn_list_reads (Reads.list (N _ hm).1 rfl rfl (reads_dps N qs hq)) (reads_dp N hp) (can_dps qs) rfl ?_ ?_
  · have e : p.dat.depth ≤ 2 := Nat.le_of_ble_eq_true rfl
    have := Nat.min_le_right (PyData.depthAll (qs.map Dp.dat)) p.dat.depth
    omega
  · have e : ((qs.map Dp.dat).any fun y => PyData.eqv y p.dat) = decide ((p.x, p.y) ∈ qs.map fun d => (d.x, d.y)) := by
      rw [Bool.eq_iff_iff, List.any_eq_true, decide_eq_true_eq, List.mem_map]
      constructor
      · rintro ⟨y, hy, e⟩
        obtain ⟨q, hq2, rfl⟩ := List.mem_map.mp hy
        rw [eqv_dp, decide_eq_true_eq] at e
        exact ⟨q, hq2, e.symm⟩
      · rintro ⟨q, hq2, e⟩
        exact ⟨_, List.mem_map_of_mem hq2, by rw [eqv_dp, decide_eq_true_eq]; exact e.symm⟩
    rw [e]; exact h
theorem pick_from (vs : List Value) {x : Int} {k : Nat} (h : x = (k : Int)) : slicePick vs.toArray (some x) none none = (vs.drop k).toArray := by
  have e : sliceBounds (some x) none none vs.toArray.size = (((min k vs.toArray.size : Nat) : Int), ((vs.toArray.size : Nat) : Int), 1) := by
    simp only [sliceBounds, Option.getD_none, show (1 : Int) > 0 by decide, if_true, if_neg (show ¬ (x < 0) by omega)]
    congr 1
    omega
  rw [kmk_pick_nat _ e]
  show ((vs.drop (min k vs.toArray.size)).take (vs.toArray.size - min k vs.toArray.size)).toArray = _
  rw [List.size_toArray, kmk_drop_min, List.take_of_length_le (by rw [List.length_drop]; omega)]
theorem pick_to1 (vs : List Value) : slicePick vs.toArray none (some 1) none = (vs.take 1).toArray := by
  have e : sliceBounds none (some 1) none vs.toArray.size = (((0 : Nat) : Int), ((min 1 vs.toArray.size : Nat) : Int), 1) := by
    simp only [sliceBounds, Option.getD_none, show (1 : Int) > 0 by decide, if_true, if_neg (show ¬ ((1 : Int) < 0) by decide)]
    congr 1
    congr 1
    omega
  rw [kmk_pick_nat _ e]
  show ((vs.drop 0).take (min 1 vs.toArray.size - 0)).toArray = _
  rw [List.drop_zero, Nat.sub_zero, List.size_toArray, kmk_take_min]
theorem op_from {value slice : PySem.Expr} {vs : List Value} {n k : Nat} {x : Int} {t : Tok} {Q : Value → Shared → Prop} (F : Fr h₀ L s.heap m) (N : News h₀ L s.heap news) (hm : (a, listOf (List.toArray vs) n) ∈ news) (hx : x = (k : Int)) (hz : vs.length ≤ 1000)
    (h : ∀ D h', Fr h₀ L h' m → News h₀ L h' ((D, listOf (vs.drop k).toArray 0) :: news) → (∀ p ∈ news, p.1 < D) → Q (.ref D) { s with heap := h' })
    (hs : subscripted slice false (.ref a) (.ref s.heap.objs.size) = operate [.ref s.heap.objs.size, .ref a] (getItem (.ref a) (.ref s.heap.objs.size)) := by with_unfolding_all rfl) (ht : ∀ r, letTemporaryGo value (.ref a) r = pure () := by intro _; with_unfolding_all rfl) :
    wpAny (model prog w) A (subscriptTail value slice (.ref a) (.ref s.heap.objs.size)) Q E { s with heap := s.heap.push { cls := .type "slice", data := .fields #[.int x t, .none, .none] } } :=
  kmk_slice F N ⟨_, (N _ hm).1, rfl, n, rfl⟩ (.int _ _) .none (by rw [pick_from _ hx]; exact h) hs ht (by rw [List.size_toArray, sizeLine_eq]; omega)
theorem op_to1 {value slice : PySem.Expr} {vs : List Value} {n : Nat} {t : Tok} {Q : Value → Shared → Prop} (F : Fr h₀ L s.heap m) (N : News h₀ L s.heap news) (hm : (a, listOf (List.toArray vs) n) ∈ news) (hz : vs.length ≤ 1000)
    (h : ∀ D h', Fr h₀ L h' m → News h₀ L h' ((D, listOf (vs.take 1).toArray 0) :: news) → (∀ p ∈ news, p.1 < D) → Q (.ref D) { s with heap := h' })
    (hs : subscripted slice false (.ref a) (.ref s.heap.objs.size) = operate [.ref s.heap.objs.size, .ref a] (getItem (.ref a) (.ref s.heap.objs.size)) := by with_unfolding_all rfl) (ht : ∀ r, letTemporaryGo value (.ref a) r = pure () := by intro _; with_unfolding_all rfl) :
    wpAny (model prog w) A (subscriptTail value slice (.ref a) (.ref s.heap.objs.size)) Q E { s with heap := s.heap.push { cls := .type "slice", data := .fields #[.none, .int 1 t, .none] } } :=
  kmk_slice F N ⟨_, (N _ hm).1, rfl, n, rfl⟩ .none (.int _ _) (by rw [pick_to1]; exact h) hs ht (by rw [List.size_toArray, sizeLine_eq]; omega)
end
end Mine
end
section
set_option maxRecDepth 100000
open PySem PySem.W PyProof.Rows PySem.Calls
namespace Mine
structure LawOk (ds : List (Nat × Nat)) (res : List Nat) : Prop where
  loop : loopP (afterP (nearP ds)) 90 [(63, [])] [63] = some res
  six : ∀ d ∈ res, d < 6
  sub : ∀ k ∈ res, k ∈ innerP ds
  sup : ∀ k ∈ innerP ds, k ∈ res
  zero : rmF (afterP (nearP ds)) res = 0 ↔ innerP ds ≠ []
  two : ∀ k ∈ innerP ds, Txt.count (pathS res) (digS k) = 2
  odd : ∀ k ∈ innerP ds, Int.fmod (Txt.find (pathS res) (digS k) + Txt.rfind (pathS res) (digS k)) 2 ≠ 0
  few : ∀ xs : List Nat, (∀ x ∈ xs, x < 6) → (innerP ds ≠ [] → xs.length < 2 * (innerP ds).length) → rmF (afterP (nearP ds)) xs ≠ 0
theorem law_ok {ds : List (Nat × Nat)} (h : HouseOk ds) : ∃ res, LawOk ds res := by
  rcases h with ⟨res, h⟩ | ⟨hi, R, g⟩
  · exact ⟨res, h.loop, h.six, h.sub, h.sup, ⟨fun _ => h.some_, fun _ => h.clear⟩, h.two, h.odd, fun xs hx hl => h.few xs hx (hl h.some_)⟩
  · refine ⟨[], g.looks, (fun _ h => nomatch h), (fun _ h => nomatch h), ?_, ⟨fun h => absurd h (g.rooms [] (fun _ h => nomatch h)), fun h => absurd hi h⟩, ?_, ?_, fun xs hx _ => g.rooms xs hx⟩
    · rw [hi]; exact fun _ h => nomatch h
    · rw [hi]; exact fun _ h => nomatch h
    · rw [hi]; exact fun _ h => nomatch h
theorem nearS_lt {nr : List Nat} {d : Nat × Nat} (h : ∀ x ∈ nr, x < 64) (h1 : d.1 < 6) (h2 : d.2 < 6) : ∀ x ∈ nearS nr d, x < 64 := by
  have hp : ∀ k, k < 6 → 2 ^ k < 64 := fun k hk => by show 2 ^ k < 2 ^ 6; exact Nat.pow_lt_pow_right (by decide) hk
  have hg : ∀ (l : List Nat) (j : Nat), (∀ x ∈ l, x < 64) → l.getD j 0 < 64 := by
    intro l j hl
    rw [List.getD_eq_getElem?_getD]
    cases e : l[j]? with
    | none => decide
    | some y => exact hl y (List.mem_of_getElem? e)
  have hs : ∀ (l : List Nat) (j : Nat) (v : Nat), (∀ x ∈ l, x < 64) → v < 64 → ∀ x ∈ l.set j v, x < 64 := by
    intro l j v hl hv x hx
    rcases List.mem_or_eq_of_mem_set hx with hx | rfl
    · exact hl x hx
    · exact hv
  unfold nearS
  have hn := hs nr d.1 _ h (Nat.or_lt_two_pow (n := 6) (hg nr d.1 h) (hp _ h2))
  exact hs _ _ _ hn (Nat.or_lt_two_pow (n := 6) (hg _ _ hn) (hp _ h1))
theorem nearP_lt {ds : List (Nat × Nat)} (h : ∀ d ∈ ds, d.1 < 6 ∧ d.2 < 6) : ∀ x ∈ nearP ds, x < 64 := by
  unfold nearP
  suffices ∀ (l : List (Nat × Nat)) (nr : List Nat), (∀ d ∈ l, d.1 < 6 ∧ d.2 < 6) → (∀ x ∈ nr, x < 64) → ∀ x ∈ l.foldl nearS nr, x < 64 from this ds _ h (by decide)
  intro l
  induction l with
  | nil => exact fun _ _ h => h
  | cons d l ih => exact fun nr hl h => ih _ (fun x hx => hl x (.tail _ hx)) (nearS_lt h (hl d (.head _)).1 (hl d (.head _)).2)
theorem af_len (ds : List (Nat × Nat)) : (afterP (nearP ds)).length = 64 := by rw [afterP_length, nearP_length]
theorem af_ints {vs : List Value} {af : List Nat} (h : IntsAre vs (af.map Int.ofNat)) (hl : af.length = 64) : ∀ i, i < 64 → ∃ t, vs.toArray[i]? = some (.int ((af.getD i 0 : Nat) : Int) t) := by
  intro i hi
  obtain ⟨t, ht⟩ := h.get i _ (getD_int (ns := af) (j := i) (by omega))
  exact ⟨t, by simpa using ht⟩
end Mine
end
open PySem PySem.W PyProof.Rows PySem.Calls Mine
local macro_rules | `(tactic| walk_at "CompSrcT") => `(tactic| (k_here; refine halt ?_))
local macro_rules | `(tactic| walk_at "FinE") => `(tactic| (k_here; refine halt ?_))
section
set_option maxRecDepth 100000
set_option maxHeartbeats 1000000
open PySem PySem.W PyProof.Rows PySem.Calls
namespace Mine
local macro_rules | `(tactic| walk_at "compareOp NotIn ref ref") => `(tactic| (k_here; refine halt ?_))
local macro_rules | `(tactic| walk_at "binaryOp Add ref ref") => `(tactic| (k_here; refine halt ?_))
def DJ1 (q1 q2 q3 : Addr × Obj) (news : List (Addr × Obj)) (xs : List (Nat × Nat)) (i : Nat) (ys : List Value) (nw : List (Addr × Obj)) : Prop :=
  ∃ (own : List (Addr × Obj)) (ds : List Dp), nw = q1 :: q2 :: q3 :: (own ++ news) ∧ ys = ds.map (fun d => Value.ref d.at_) ∧ (∀ d ∈ ds, (d.at_, d.obj) ∈ own) ∧ ds.map (fun d => (d.x, d.y)) = xs.take i ∧ ∀ p ∈ own, @LT.lt Nat _ q1.1 p.1
theorem dj1_end {I C D D' L : Addr} {oI oC oD : Obj} {q1 q2 q3 : Addr × Obj} {own news : List (Addr × Obj)} {ds : List Dp} {xs : List (Nat × Nat)} {i : Nat} {h₀ h' : Heap} {m : Str → Option Value} {s₁ : Shared} {tk : Nat} {x y : Nat} {tx ty : Tok}
    (F : Fr h₀ L h' m) (N : News h₀ L h' ((D', (Dp.mk D' x tx y ty).obj) :: (I, oI) :: (C, oC) :: (D, oD) :: q1 :: q2 :: q3 :: (own ++ news))) (l : I < D' ∧ C < D' ∧ D < D' ∧ @LT.lt Nat _ q1.1 D') (off : LCg.Off3 I C D (q1 :: q2 :: q3 :: (own ++ news)))
    (hds : ∀ d ∈ ds, (d.at_, d.obj) ∈ own) (hxs : ds.map (fun d => (d.x, d.y)) = xs.take i) (hlo : ∀ p ∈ own, @LT.lt Nat _ q1.1 p.1) (hx : xs[i]? = some (x, y)) :
    LCg.CompEnd h₀ L m s₁ I oI C oC D oD (fun _ => True) (fun v nw' => DJ1 q1 q2 q3 news xs (i + 1) (ds.map (fun d => Value.ref d.at_) ++ [v]) nw') (.ref D') { s₁ with heap := h', toks := tk } := by
  refine LCg.CompEnd.intro F N (q1 :: q2 :: q3 :: (((D', (Dp.mk D' x tx y ty).obj) :: own) ++ news)) (fun p hp => ?_) ⟨off.1, off.2.1, off.2.2.1, ⟨Nat.ne_of_gt l.1, Nat.ne_of_gt l.2.1, Nat.ne_of_gt l.2.2.1⟩, off.2.2.2⟩ trivial
    ⟨(D', (Dp.mk D' x tx y ty).obj) :: own, ds ++ [Dp.mk D' x tx y ty], rfl, by simp, fun d hd => ?_, by rw [List.map_append, hxs, List.take_add_one, hx]; rfl, fun p hp => (List.mem_cons.mp hp).elim (fun e => e ▸ l.2.2.2) (hlo p)⟩
  · simp only [List.cons_append, List.mem_cons] at hp ⊢
    rcases hp with h | h | h | h | h | h | h | h <;> simp [h]
  · rcases List.mem_append.mp hd with hd | hd
    · exact .tail _ (hds d hd)
    · rw [List.mem_singleton.mp hd]; exact .head _
theorem baseP_at {ns : List Nat} {i : Nat} (h : i < 5) : (baseP ns)[i]? = some (ns.getD i 0 % (i + 1), i + 1) := by
  unfold baseP
  rw [List.getElem?_map, List.getElem?_range h]; rfl
theorem mod_cell (ns : List Nat) (i : Nat) : ((ns.map Int.ofNat).getD (1 + (i : Int) - 1).toNat 0).fmod (1 + (i : Int)) = ((ns.getD i 0 % (i + 1) : Nat) : Int) := by
  have e1 : (1 + (i : Int) - 1).toNat = i := by omega
  have e2 : (ns.map Int.ofNat).getD i 0 = ((ns.getD i 0 : Nat) : Int) := by
    rw [List.getD_eq_getElem?_getD, List.getD_eq_getElem?_getD, List.getElem?_map]
    cases ns[i]? <;> rfl
  rw [e1, e2, Int.fmod_eq_emod_of_nonneg _ (by omega), show (1 + (i : Int)) = ((i + 1 : Nat) : Int) by omega]
  rfl
theorem mod_cell5 (ns : List Nat) : Int.fmod ((ns.map Int.ofNat).getD 5 0) 20 = ((ns.getD 5 0 % 20 : Nat) : Int) := by
  have e2 : (ns.map Int.ofNat).getD 5 0 = ((ns.getD 5 0 : Nat) : Int) := by
    rw [List.getD_eq_getElem?_getD, List.getD_eq_getElem?_getD, List.getElem?_map]
    cases ns[5]? <;> rfl
  rw [e2, Int.fmod_eq_emod_of_nonneg _ (by omega)]
  rfl
theorem one_add (i : Nat) : (1 + (i : Int)) = ((i + 1 : Nat) : Int) := by omega
theorem dj1_end2 {I2 I C D D' L : Addr} {oI2 oI oC oD : Obj} {q1 q2 q3 : Addr × Obj} {own news : List (Addr × Obj)} {ds : List Dp} {xs : List (Nat × Nat)} {b i : Nat} {h₀ h' : Heap} {m : Str → Option Value} {s₁ : Shared} {tk : Nat} {x y : Nat} {tx ty : Tok}
    (F : Fr h₀ L h' m) (N : News h₀ L h' ((D', (Dp.mk D' x tx y ty).obj) :: (I2, oI2) :: (C, oC) :: (D, oD) :: (I, oI) :: q1 :: q2 :: q3 :: (own ++ news))) (l : I2 < D' ∧ C < D' ∧ D < D' ∧ I < D' ∧ @LT.lt Nat _ q1.1 D') (off2 : LCg.Off3 I2 C D ((I, oI) :: q1 :: q2 :: q3 :: (own ++ news))) (off : LCg.Off3 I C D (q1 :: q2 :: q3 :: (own ++ news)))
    (hds : ∀ d ∈ ds, (d.at_, d.obj) ∈ own) (hxs : ds.map (fun d => (d.x, d.y)) = xs.take (b + i)) (hlo : ∀ p ∈ own, @LT.lt Nat _ q1.1 p.1) (hx : xs[b + i]? = some (x, y)) :
    LCg.CompEnd h₀ L m s₁ I2 oI2 C oC D oD (fun _ => True) (fun v nw' => In2 I C D oI (fun i => DJ1 q1 q2 q3 news xs (b + i)) (i + 1) (ds.map (fun d => Value.ref d.at_) ++ [v]) nw') (.ref D') { s₁ with heap := h', toks := tk } := by
  refine LCg.CompEnd.intro F N ((I, oI) :: q1 :: q2 :: q3 :: (((D', (Dp.mk D' x tx y ty).obj) :: own) ++ news)) (fun p hp => ?_) ⟨off2.1, off2.2.1, off2.2.2.1, off2.2.2.2.1, ⟨Nat.ne_of_gt l.1, Nat.ne_of_gt l.2.1, Nat.ne_of_gt l.2.2.1⟩, off2.2.2.2.2⟩ trivial
    ⟨_, rfl, ⟨off.1, off.2.1, off.2.2.1, ⟨Nat.ne_of_gt l.2.2.2.1, Nat.ne_of_gt l.2.1, Nat.ne_of_gt l.2.2.1⟩, off.2.2.2⟩, (D', (Dp.mk D' x tx y ty).obj) :: own, ds ++ [Dp.mk D' x tx y ty], rfl, by simp, fun d hd => ?_, by rw [List.map_append, hxs, ← Nat.add_assoc, List.take_add_one, hx]; rfl, fun p hp => (List.mem_cons.mp hp).elim (fun e => e ▸ l.2.2.2.2) (hlo p)⟩
  · simp only [List.cons_append, List.mem_cons] at hp ⊢
    rcases hp with h | h | h | h | h | h | h | h | h <;> simp [h]
  · rcases List.mem_append.mp hd with hd | hd
    · exact .tail _ (hds d hd)
    · rw [List.mem_singleton.mp hd]; exact .head _
def tri (i : Nat) : Nat := i * (i - 1) / 2
theorem tri_succ : ∀ i, i < 6 → tri i + i = tri (i + 1) := by decide
theorem pairs_at : ∀ i, i < 6 → ∀ j, j < i → pairsP[tri i + j]? = some (j, i) := by decide
theorem range_small : ∀ i, i < 6 → Builtin.Range.small 0 ((i : Nat) : Int) 1 = true := by decide +kernel
theorem range_len : ∀ i, i < 6 → Builtin.Range.rangeSize 0 ((i : Nat) : Int) 1 = ((i : Nat) : Int) := by decide +kernel
theorem dj_flip {h₀ h : Heap} {L : Addr} {q0 q1 q2 q3 : Addr × Obj} {r : List (Addr × Obj)} (N : News h₀ L h (q0 :: q1 :: q2 :: q3 :: r)) : News h₀ L h (q1 :: q2 :: q3 :: (([] : List (Addr × Obj)) ++ (q0 :: r))) := by
  intro p hp
  refine N p ?_
  simp only [List.nil_append, List.mem_cons] at hp ⊢
  rcases hp with h | h | h | h | h <;> simp [h]
theorem dj1_len {q1 q2 q3 : Addr × Obj} {news : List (Addr × Obj)} {xs : List (Nat × Nat)} {i : Nat} {ys : List Value} {nw : List (Addr × Obj)} (h : DJ1 q1 q2 q3 news xs i ys nw) : ys.length ≤ xs.length := by
  obtain ⟨own, ds, _, rfl, _, hx, _⟩ := h
  have e := congrArg List.length hx
  rw [List.length_map] at e ⊢
  rw [e]; exact List.length_take_le' _ _
theorem mem9 {c1 c2 c3 c4 c5 c6 c7 c8 c9 p : Addr × Obj} {l : List (Addr × Obj)} (h : p ∈ l) : p ∈ c1 :: c2 :: c3 :: c4 :: c5 :: c6 :: c7 :: c8 :: c9 :: l := .tail _ (.tail _ (.tail _ (.tail _ (.tail _ (.tail _ (.tail _ (.tail _ (.tail _ h))))))))
theorem mem7 {c1 c2 c3 c4 c5 c6 c7 p : Addr × Obj} {l : List (Addr × Obj)} (h : p ∈ l) : p ∈ c1 :: c2 :: c3 :: c4 :: c5 :: c6 :: c7 :: l := .tail _ (.tail _ (.tail _ (.tail _ (.tail _ (.tail _ (.tail _ h))))))
theorem mem6 {c1 c2 c3 c4 c5 c6 p : Addr × Obj} {l : List (Addr × Obj)} (h : p ∈ l) : p ∈ c1 :: c2 :: c3 :: c4 :: c5 :: c6 :: l := .tail _ (.tail _ (.tail _ (.tail _ (.tail _ (.tail _ h)))))
theorem doorsP_is {ns : List Nat} {ds md : List Dp} (h1 : ds.map (fun d => (d.x, d.y)) = (baseP ns).take 5) (h2 : md.map (fun d => (d.x, d.y)) = moreP (ns.getD 5 0)) :
    (ds ++ md.filter fun d => !decide ((d.x, d.y) ∈ ds.map fun d => (d.x, d.y))).map (fun d => (d.x, d.y)) = doorsP ns := by
  rw [List.take_of_length_le (by rw [baseP_len]; exact Nat.le_refl _)] at h1
  unfold doorsP
  rw [List.map_append, h1, ← h2, List.filter_map]
  congr 2
  apply List.filter_congr
  intro d _
  simp
theorem op_cell {prog : Program} {w : World} {A : Around} {s : Shared} {h₀ : Heap} {L a : Addr} {news : List (Addr × Obj)} {E : Value → Shared → Prop} {value slice : PySem.Expr} {t : Tok} {vs : List Value} {ns : List Nat} {n j : Nat} {z : Int} {Q : Value → Shared → Prop} (N : News h₀ L s.heap news) (hm : (a, listOf (List.toArray vs) n) ∈ news) (hi : IntsAre vs (ns.map Int.ofNat)) (e : z = (j : Int)) (hj : j < ns.length) (hfit : j < 1000)
    (h : ∀ t', Q (.int ((ns.getD j 0 : Nat) : Int) t') s) (hs : subscripted slice false (.ref a) (.int z t) = operate [.ref a, .int z t] (getItem (.ref a) (.int z t)) := by with_unfolding_all rfl) :
    wpAny (model prog w) A (subscriptTail value slice (.ref a) (.int z t)) Q E s := by
  have hl : s.heap.IsList a vs.toArray := ⟨_, (N _ hm).1, rfl, n, rfl⟩
  exact tail_any hl.typeIs slot_list_getitem.lookup (op_lget N hm hi e (getD_int hj) hfit h) hs
section
variable {p : Program} {w : World} {s : Shared} {base h₀ : Heap} {L : Addr} {m mg mb : Str → Option Value} {env : Env} {news : List (Addr × Obj)} {loose : List Str} {mean : ExcName → Option Value} {R : Result → Shared → Prop}
theorem doors_ok {vs : List Value} {ns : List Nat} {n : Nat} {a : Addr} (B : Below callerA base [] h₀) (F : Fr h₀ L s.heap m) (X : (MineH.hd.heap_1 w.params).In h₀)  (N : News h₀ L s.heap ((a, listOf (List.toArray vs) n) :: news)) (T : Top p loose mean mg mb h₀)
    (hf : env.frame = some L) (hke : env.scope.kind = .function)
    (hi : IntsAre vs (ns.map Int.ofNat)) (h6 : ns.length = 6)
    (h : ∀ h' tk r qs n' nw', Fr h₀ L h' m → News h₀ L h' ((r, listOf (refsOfD qs) n') :: nw') → (∀ p ∈ (a, listOf (List.toArray vs) n) :: news, p ∈ nw') → (∀ q ∈ qs, (q.at_, q.obj) ∈ nw' ∧ @LT.lt Nat _ a q.at_) → qs.map (fun d => (d.x, d.y)) = doorsP ns → (∀ p ∈ nw', p.1 < r) → R (.ok (.ret (.ref r))) { s with heap := h', toks := tk }) :
    codeAny (model PySem.Challenge.rw_wk0026_01.row.prog w) (callerA.deeper env) (.call (.ref 135) ⟨[.ref a], []⟩) R s := by
  revert X; k_fill; intro X
  k_dflt (refine' code_defC ?k1 ?k2 ?k3 ?k4 ?k5 ?kA ?kF ?kK ?k6 ?k7 ?k8 ?k9 ?kB ?kD ?_ ?c2 ?c3 ?c4; (case kA => exact rfl); (case kF => assumption); (case kK => assumption); (case k1 => assumption); (case k2 => assumption); (case k3 => assumption); (case k4 => assumption); (case k5 => assumption); (case k6 => k_is); (case k7 => k_is); (case k8 => first | k_room | decide); (case k9 => first | exact BindsTo.of_eq rfl | exact binds_K (by k_in) rfl (by k_is) rfl rfl rfl); (case kB => exact rfl); (case kD => decide +kernel); (case c2 => exact rfl); (case c3 => exact rfl); (case c4 => exact rfl); k_whole)
  intro g1 L1 h1 tk1 cells1 FG1 F1 N1 Y1 B1 X1 T1 l1
  (try k_lt l1)
  have hc1 : ∀ p ∈ news, p.1 ≠ L1 + 1 := fun p hp => Nat.ne_of_lt (Nat.lt_succ_of_lt (allLt_mem l1.2 p hp))
  have hc2 : ∀ p ∈ news, p.1 ≠ L1 + 1 + 1 := fun p hp => Nat.ne_of_lt (Nat.lt_succ_of_lt (Nat.lt_succ_of_lt (allLt_mem l1.2 p hp)))
  have hc3 : ∀ p ∈ news, p.1 ≠ L1 + 1 + 1 + 1 := fun p hp => Nat.ne_of_lt (Nat.lt_succ_of_lt (Nat.lt_succ_of_lt (Nat.lt_succ_of_lt (allLt_mem l1.2 p hp))))
  k_cells Y1
  (try simp only [List.cons_append, List.nil_append] at N1)
  (try dsimp only)
  (try k_fold)
  k_steps
  rename News _ _ _ _ => N9
  rename Fr _ _ _ _ => F9
  rename IsRange _ _ _ _ _ _ _ _ => hr9
  dsimp only [Halt]
  refine LCg.CompSrc.range rfl F9 N9 hr9 rfl (n := 5) rfl (by decide) ?_
  intro g4
  refine comp_inv (DJ1 _ _ _ news (baseP ns)) ⟨[], [], rfl, rfl, (fun _ h => nomatch h), rfl, (fun _ h => nomatch h)⟩ ?turn1 ?fin1
  case turn1 =>
    intro i v nw I oI C oC D m₂ ys h tk E' hi5 hv hJ hC hx F3 N3 off ne
    obtain ⟨own, ds, rfl, rfl, hds, hxs, hlo⟩ := hJ
    obtain ⟨t3, rfl⟩ := hv
    k_steps
    rename News _ _ _ _ => N4
    rename Fr _ _ _ _ => F4
    rename I < _ ∧ _ => l4
    rw [mod_cell, one_add] at N4
    exact dj1_end F4 N4 ⟨l4.1, l4.2.1, l4.2.2.1, l4.2.2.2.1⟩ off hds hxs hlo (baseP_at hi5)
  case fin1 =>
    intro ys nw hJ
    obtain ⟨own, ds, rfl, rfl, hds, hxs, hlo⟩ := hJ
    unfold LCg.FinE
    intro D7 h7 tk7 F7 N7 o7
    have hon : ∀ p ∈ own ++ news, p.1 ≠ L1 + 1 + 1 := fun p hp => (List.mem_append.mp hp).elim (fun hp => Nat.ne_of_gt (hlo p hp)) (hc2 p)
    have hD72 : D7 ≠ L1 + 1 + 1 := Ne.symm o7.1
    k_steps
    refine assign2 (L := L1) (by k_asm) rfl (by with_unfolding_all rfl) (by with_unfolding_all rfl) (by rfl) (by decide) (by rfl) (by rfl) ?_
    k_steps
    rename News _ _ _ _ => N8
    rename Fr _ _ _ _ => F8
    rename IsRange _ _ _ _ _ _ _ _ => hr8
    refine src2_range (n := 6) (fun i => DJ1 _ _ _ _ pairsP (tri i)) rfl F8 (dj_flip N8) hr8 rfl rfl (by decide) rfl rfl ⟨[], [], rfl, rfl, (fun _ h => nomatch h), rfl, (fun _ h => nomatch h)⟩ ?turn2 ?fin2
    case turn2 =>
      intro I C D hCL hDL hC0 hD0 hIC hID hCD i v nw oI oC m₂ ys h tk E' hi6 hv hJ hC hx F3 N3 off
      obtain ⟨t3, rfl⟩ := hv
      rw [Int.zero_add] at hx
      k_steps
      rename News _ _ _ _ => N5
      rename Fr _ _ _ _ => F5
      rename IsRange _ _ _ _ _ _ _ _ => hr5
      refine turn2_range (n := i) (fun j => DJ1 _ _ _ _ pairsP (tri i + j)) _ rfl hr5 (range_small i hi6) (range_len i hi6) (fun i ys nw hj _ => Nat.le_trans (dj1_len hj) (by decide)) rfl rfl (by decide) hCL hDL hC0 hD0 hIC hID hCD hC hx F5 N5 off hJ ?turn3 ?fin3
      case fin3 => exact fun ys nw hj => tri_succ i hi6 ▸ hj
      case turn3 =>
        intro j v nw I2 oI2 oC m₂ ys h tk E' hji hv hJ hC hx0 hx1 F3 N3 off2 off
        obtain ⟨t4, rfl⟩ := hv
        obtain ⟨own2, ds2, rfl, rfl, hds2, hxs2, hlo2⟩ := hJ
        rw [Int.zero_add] at hx1
        k_steps
        rename News _ _ _ _ => N4
        rename Fr _ _ _ _ => F4
        rename I2 < _ ∧ _ => l4
        exact dj1_end2 F4 N4 ⟨l4.1, l4.2.1, l4.2.2.1, l4.2.2.2.1, l4.2.2.2.2.1⟩ off2 off hds2 hxs2 hlo2 (pairs_at i hi6 j hji)
    case fin2 =>
      intro g ys nw hJ
      obtain ⟨own2, ds2, rfl, rfl, hds2, hxs2, hlo2⟩ := hJ
      unfold LCg.FinA
      intro D6 h6' tk6 F6 N6 o6
      k_steps
      have hl2 : ds2.length ≤ 15 := by
        have e := congrArg List.length hxs2
        rw [List.length_map] at e
        rw [e]; exact List.length_take_le' _ _
      refine op_from F6 N6 (.head _) (mod_cell5 ns) (by rw [List.length_map]; omega) ?sl1
      case sl1 =>
        intro D5 h5 F5 N5 l5
        rw [← List.map_drop] at N5
        k_steps
        rename News _ _ _ _ => N4
        rename Fr _ _ _ _ => F4
        rw [pick_to1, ← List.map_take] at N4
        have hmd : ∀ d ∈ (ds2.drop (ns.getD 5 0 % 20)).take 1, (d.at_, d.obj) ∈ own2 := fun d hd => hds2 d (List.mem_of_mem_drop (List.mem_of_mem_take hd))
        have hmdx : ((ds2.drop (ns.getD 5 0 % 20)).take 1).map (fun d => (d.x, d.y)) = moreP (ns.getD 5 0) := by
          rw [List.map_take, List.map_drop, hxs2]; rfl
        have hml : ((ds2.drop (ns.getD 5 0 % 20)).take 1).length ≤ 1 := List.length_take_le _ _
        revert N4 hmd hmdx hml
        generalize (ds2.drop (ns.getD 5 0 % 20)).take 1 = md
        intro N4 hmd hmdx hml
        dsimp only [Halt]
        refine LCt.CompSrcT.ledger rfl F4 N4 (.head _) (by rw [List.size_toArray, List.length_map, sizeLine_eq]; omega) ?_
        intro g3
        refine comp_invT (fun i ys nw => nw = _ ∧ ys = ((md.take i).filter fun d => !decide ((d.x, d.y) ∈ ds.map fun d => (d.x, d.y))).map fun d => Value.ref d.at_) ⟨rfl, rfl⟩ ?turn4 ?fin4
        case turn4 =>
          intro i v nw I oI C oC D m₂ ys h tk E' hi1 hv hJ hC hx F3 N3 off ne
          obtain ⟨rfl, rfl⟩ := hJ
          obtain ⟨d, hd, rfl⟩ : ∃ d, md[i]? = some d ∧ v = .ref d.at_ := by
            simp only [List.getElem?_toArray, List.getElem?_map, Option.map_eq_some_iff] at hv
            obtain ⟨d, e1, e2⟩ := hv
            exact ⟨d, e1, e2.symm⟩
          k_steps
          dsimp only [Halt]
          refine op_notinD N3 (mem9 (List.mem_append_right _ (.head _))) (fun q hq => mem9 (List.mem_append_right _ (.tail _ (List.mem_append_left _ (hds q hq))))) (mem9 (List.mem_append_left _ (hmd d (List.mem_of_getElem? hd)))) (Nat.le_of_ble_eq_true rfl) ?_
          by_cases hc : (d.x, d.y) ∈ ds.map fun d => (d.x, d.y)
          · simp only [decide_eq_true hc, Bool.not_true]
            k_steps
            dsimp only [Halt]
            exact LCg.CompEnd.intro F3 N3 _ (fun p hp => hp) off (.inr ⟨_, .head _, rfl, _, rfl⟩) ⟨rfl, by rw [filt_off hd (by simp only [decide_eq_true hc, Bool.not_true])]⟩
          · simp only [decide_eq_false hc, Bool.not_false]
            k_steps
            dsimp only [Halt]
            exact LCg.CompEnd.intro F3 N3 _ (fun p hp => hp) off (.inr ⟨_, .head _, rfl, _, rfl⟩) ⟨rfl, by rw [filt_on hd (by simp only [decide_eq_false hc, Bool.not_false]), List.map_append]; rfl⟩
        case fin4 =>
          intro ys nw hJ
          obtain ⟨rfl, rfl⟩ := hJ
          unfold LCg.FinE
          intro D3 h3 tk3 F3 N3 o3
          rw [List.take_of_length_le (by rw [List.size_toArray, List.length_map]; exact Nat.le_refl _)] at N3
          k_steps
          dsimp only [Halt]
          refine kmk_add_lit F3 N3 ⟨_, (N3 _ (mem7 (List.mem_append_right _ (.head _)))).1, rfl, _, rfl⟩ ⟨_, (N3 _ (.head _)).1, rfl, _, rfl⟩ (zs := (ds ++ md.filter fun d => !decide ((d.x, d.y) ∈ ds.map fun d => (d.x, d.y))).map fun d => Value.ref d.at_) (by rw [List.map_append]) ?cat ?sz
          case sz =>
            have e := congrArg List.length hxs
            rw [List.length_map] at e
            have e2 : ds.length ≤ 5 := by rw [e]; exact List.length_take_le _ _
            have e3 := List.length_filter_le (fun d => !decide ((d.x, d.y) ∈ ds.map fun d => (d.x, d.y))) md
            rw [List.toList_toArray, List.toList_toArray, List.length_map, List.length_map, sizeLine_eq]
            omega
          case cat =>
            intro D2 h2 F2 N2 l2
            k_steps
            rename News h₀ L h2 _ => kN
            refine h _ _ D2 _ 0 _ (by assumption) kN (fun p hp => ?_) (fun q hq => ?_) (doorsP_is hxs hmdx) l2
            · refine .tail _ (.tail _ (.tail _ (.tail _ (.tail _ (.tail _ ?_)))))
              rcases List.mem_cons.mp hp with rfl | hp
              · exact .head _
              · exact .tail _ (List.mem_append_right _ (.tail _ (List.mem_append_right _ hp)))
            · rcases List.mem_append.mp hq with hq | hq
              · exact ⟨mem7 (List.mem_append_right _ (.tail _ (List.mem_append_left _ (hds q hq)))), Nat.lt_trans l1.1 (Nat.lt_trans (Nat.lt_trans (Nat.lt_succ_self _) (Nat.lt_succ_self _)) (hlo _ (hds q hq)))⟩
              · have hq2 := hmd q (List.mem_filter.mp hq).1
                exact ⟨mem7 (List.mem_append_left _ hq2), Nat.lt_trans l1.1 (Nat.lt_trans (Nat.lt_trans (Nat.lt_succ_self _) (Nat.lt_succ_self _)) (hlo2 _ hq2))⟩
end
end Mine
end
open PySem PySem.W PyProof.Rows PySem.Calls Mine
local macro_rules | `(tactic| walk_at "FinA") => `(tactic| (k_here; refine halt ?_))
section
set_option maxRecDepth 100000
set_option maxHeartbeats 1000000
open PySem PySem.W PyProof.Rows PySem.Calls
namespace Mine
def NamesAre (nmv : Array Value) : Prop := ∀ i, i < 10 → ∃ t, nmv[i]? = some (.str (nmP i) t)
theorem names_are {vs : List Value} {xs : List Str} (h : StrsAre vs xs) (hx : ∀ i, i < 10 → xs[i]? = some (nmP i)) : NamesAre vs.toArray := by
  intro i hi
  obtain ⟨t, ht⟩ := h.get i _ (hx i hi)
  exact ⟨t, by simpa using ht⟩
theorem sum_cast (l : List Nat) (f : Nat → Nat) : (l.map fun k => ((f k : Nat) : Int)).sum = (((l.map f).sum : Nat) : Int) := by
  induction l with
  | nil => rfl
  | cons a l ih => rw [List.map_cons, List.sum_cons, ih, List.map_cons, List.sum_cons, Int.natCast_add]
theorem sum_le {l : List Nat} {b : Nat} (h : ∀ x ∈ l, x ≤ b) : l.sum ≤ l.length * b := by
  induction l with
  | nil => exact Nat.zero_le _
  | cons a l ih =>
    have h1 := h a (.head _)
    have h2 := ih fun x hx => h x (.tail _ hx)
    rw [List.sum_cons, List.length_cons, Nat.succ_mul]
    omega
theorem restP_lt {ks : List Nat} {low : Nat} (h6 : ∀ k ∈ ks, k < 6) (hl : ks.length ≤ 6) (hlow : low < 40) : restP ks low < 2 ^ 64 := by
  unfold restP
  have h1 : (((ks.filter fun k => decide (31 < low + k)).map fun k => 2 ^ (low + k))).sum ≤ (((ks.filter fun k => decide (31 < low + k)).map fun k => 2 ^ (low + k))).length * 2 ^ 45 := sum_le fun x hx => by
    obtain ⟨k, hk, rfl⟩ := List.mem_map.mp hx
    have := h6 k (List.mem_filter.mp hk).1
    exact Nat.pow_le_pow_right (by decide) (by omega)
  have h2 := List.length_filter_le (fun k => decide (31 < low + k)) ks
  rw [List.length_map] at h1
  have h3 := Nat.mul_le_mul_right (2 ^ 45) (Nat.le_trans h2 hl)
  exact Nat.lt_of_le_of_lt (Nat.le_trans h1 h3) (by decide)
theorem words_len {ks : List Nat} {low : Nat} (h6 : ∀ k ∈ ks, k < 6) (hl : ks.length ≤ 6) (hlow : low < 40) : ((wordsP ks low).map (·.length)).sum + (wordsP ks low).length ≤ 1048576 := by
  unfold wordsP
  refine pp_len _ ?_ (hexP_len (restP_lt h6 hl hlow))
  have h1 : ((((ks.filter fun k => decide (low + k < 32)).map fun k => nmP (low + k)).map (·.length))).sum ≤ ((((ks.filter fun k => decide (low + k < 32)).map fun k => nmP (low + k)).map (·.length))).length * 18 := sum_le fun x hx => by
    obtain ⟨y, hy, rfl⟩ := List.mem_map.mp hx
    obtain ⟨k, hk, rfl⟩ := List.mem_map.mp hy
    exact nm_len _ (of_decide_eq_true (List.mem_filter.mp hk).2)
  have h2 := List.length_filter_le (fun k => decide (low + k < 32)) ks
  rw [List.length_map, List.length_map] at h1
  rw [List.length_map]
  omega
theorem off1_mem {D : Addr} : ∀ {l : List (Addr × Obj)}, LCg.Off1 D l → ∀ p ∈ l, p.1 ≠ D
  | [], _, _, h => nomatch h
  | _ :: _, x, p, h => by
    rcases List.mem_cons.mp h with rfl | h
    · exact x.1
    · exact off1_mem x.2 p h
theorem nm_hex : ∀ i, i < 32 → 10 ≤ i → nmP i = hexP (2 ^ i) := by decide +kernel
theorem op_name {prog : Program} {w : World} {A : Around} {s : Shared} {h₀ : Heap} {L a : Addr} {news : List (Addr × Obj)} {E : Value → Shared → Prop} {value slice : PySem.Expr} {t : Tok} {nmv : Array Value} {n j : Nat} {z : Int} {Q : Value → Shared → Prop} (N : News h₀ L s.heap news) (hm : (a, listOf nmv n) ∈ news) (hv : NamesAre nmv) (e : z = (j : Int)) (hj : j < 10)
    (h : ∀ t', Q (.str (nmP j) t') s) (hs : subscripted slice false (.ref a) (.int z t) = operate [.ref a, .int z t] (getItem (.ref a) (.int z t)) := by with_unfolding_all rfl) :
    wpAny (model prog w) A (subscriptTail value slice (.ref a) (.int z t)) Q E s := by
  have hl : s.heap.IsList a nmv := ⟨_, (N _ hm).1, rfl, n, rfl⟩
  obtain ⟨t', ht⟩ := hv j hj
  refine tail_any hl.typeIs slot_list_getitem.lookup (wpAny_getItem_list hl (by omega) (by omega) (x := .str (nmP j) t') ?_ (h t')) hs
  rw [e, Int.toNat_natCast]; exact ht
local macro_rules | `(tactic| walk_at "subscriptTail Name BinOp ref int") => `(tactic| (k_here; (with_reducible show wpAny _ _ (subscriptTail _ _ (Value.ref _) (Value.int _ _)) _ _ _); k_dflt (refine' op_name ?dN ?dm ?dv ?de ?dj ?_ ?ds; (case dN => k_asm); (case dm => k_mem); (case dv | de => with_reducible assumption); (case dj => omega); (case ds => with_unfolding_all rfl)); intro t'))
local macro_rules | `(tactic| walk_at "call builtin:str.join") => `(tactic| (k_here; k_dflt (refine' join_my ?jN ?jm ?jS ?jx ?jl ?_; (case jN => k_asm); (case jm => repeat (first | exact List.Mem.head _ | apply List.Mem.tail)); (case jS => first | (with_reducible assumption) | exact StrsSnoc.at (by with_reducible assumption)); (case jx => decide +kernel); (case jl => with_reducible assumption)); intro t' k'))
section
variable {p : Program} {w : World} {s : Shared} {base h₀ : Heap} {L : Addr} {m mg mb : Str → Option Value} {env : Env} {news : List (Addr × Obj)} {loose : List Str} {mean : ExcName → Option Value} {R : Result → Shared → Prop}
theorem words_ok {vs : List Value} {ks : List Nat} {n : Nat} {a : Addr} {low : Nat} {t : Tok} (B : Below callerA base [] h₀) (F : Fr h₀ L s.heap m) (X : (MineH.hd.heap_1 w.params).In h₀)  (N : News h₀ L s.heap ((a, listOf (List.toArray vs) n) :: news)) (T : Top p loose mean mg mb h₀)
    (hf : env.frame = some L) (hke : env.scope.kind = .function)
    (hi : IntsAre vs (ks.map Int.ofNat)) (hk6 : ∀ k ∈ ks, k < 6) (hkl : ks.length ≤ 6) (hlow : low < 40)
    (h : ∀ h' tk t', Fr h₀ L h' m → News h₀ L h' ((a, listOf (List.toArray vs) n) :: news) → R (.ok (.ret (.str (Txt.join (Str.ofString ", ") (wordsP ks low)) t'))) { s with heap := h', toks := tk }) :
    codeAny (model PySem.Challenge.rw_wk0026_01.row.prog w) (callerA.deeper env) (.call (.ref 152) ⟨[.ref a, .int (low : Int) t], []⟩) R s := by
  revert X; k_fill; intro X
  k_dflt (refine' code_defC ?k1 ?k2 ?k3 ?k4 ?k5 ?kA ?kF ?kK ?k6 ?k7 ?k8 ?k9 ?kB ?kD ?_ ?c2 ?c3 ?c4; (case kA => exact rfl); (case kF => assumption); (case kK => assumption); (case k1 => assumption); (case k2 => assumption); (case k3 => assumption); (case k4 => assumption); (case k5 => assumption); (case k6 => k_is); (case k7 => k_is); (case k8 => first | k_room | decide); (case k9 => first | exact BindsTo.of_eq rfl | exact binds_K (by k_in) rfl (by k_is) rfl rfl rfl); (case kB => exact rfl); (case kD => decide +kernel); (case c2 => exact rfl); (case c3 => exact rfl); (case c4 => exact rfl); k_whole)
  intro g1 L1 h1 tk1 cells1 FG1 F1 N1 Y1 B1 X1 T1 l1
  (try k_lt l1)
  have hc1 : ∀ p ∈ news, p.1 ≠ L1 + 1 := fun p hp => Nat.ne_of_lt (Nat.lt_succ_of_lt (allLt_mem l1.2 p hp))
  have hc2 : ∀ p ∈ news, p.1 ≠ L1 + 1 + 1 := fun p hp => Nat.ne_of_lt (Nat.lt_succ_of_lt (Nat.lt_succ_of_lt (allLt_mem l1.2 p hp)))
  have hc3 : ∀ p ∈ news, p.1 ≠ L1 + 1 + 1 + 1 := fun p hp => Nat.ne_of_lt (Nat.lt_succ_of_lt (Nat.lt_succ_of_lt (Nat.lt_succ_of_lt (allLt_mem l1.2 p hp))))
  k_cells Y1
  (try simp only [List.cons_append, List.nil_append] at N1)
  (try dsimp only)
  (try k_fold)
  k_steps
  rename News _ _ _ _ => N0
  rename Fr _ _ _ _ => F9
  rename StrsAre _ _ => hnm9
  obtain ⟨nmv, hnm, N9⟩ : ∃ nmv, NamesAre nmv ∧ News g1 L1 _ ((_, listOf nmv 0) :: _) := ⟨_, names_are hnm9 (by decide +kernel), N0⟩
  clear hnm9 N0
  dsimp only [Halt]
  refine LCt.CompSrcT.ledger rfl F9 N9 (.tail _ (.tail _ (.tail _ (.head _)))) (by rw [List.size_toArray, hi.length, List.length_map, sizeLine_eq]; omega) ?_
  intro g3
  refine comp_invT (fun i ys nw => nw = _ ∧ StrsAre ys (((ks.take i).filter fun k => decide (low + k < 32)).map fun k => nmP (low + k))) ⟨rfl, .nil⟩ ?turn1 ?fin1
  case turn1 =>
    intro i v nw I oI C oC D m₂ ys h tk E' hi1 hv hJ hC hx F3 N3 off ne
    obtain ⟨rfl, hys⟩ := hJ
    obtain ⟨z9, t9, rfl, hz8⟩ := IntsAre.at hi i v (by simpa using hv)
    obtain ⟨k, hk9, rfl⟩ : ∃ k, ks[i]? = some k ∧ z9 = Int.ofNat k := by
      rw [List.getElem?_map, Option.map_eq_some_iff] at hz8
      obtain ⟨k, e1, e2⟩ := hz8
      exact ⟨k, e1, e2.symm⟩
    have hk := hk6 k (List.mem_of_getElem? hk9)
    have hx2 := hx
    have hx : m₂ _ = some (.int (k : Int) t9) := hx2
    have hzk : (low : Int) + (k : Int) = ((low + k : Nat) : Int) := rfl
    clear hx2 hv hz8
    k_steps
    · rename (low : Int) + (k : Int) < 32 => h32
      dsimp only [Halt]
      exact LCg.CompEnd.intro F3 N3 _ (fun p hp => hp) off (.inr ⟨_, .tail _ (.tail _ (.tail _ (.head _))), rfl, _, rfl⟩) ⟨rfl, by rw [filt_on hk9 (decide_eq_true (by omega)), List.map_append]; exact hys.append' (.cons _ _ .nil)⟩
    · rename (low : Int) + (k : Int) < 32 => h32
      rename ¬ (low : Int) + (k : Int) < 10 => h10
      rw [add_pow_int]
      refine P.hex_of_int ?_ ?hsz
      case hsz => exact Nat.le_trans (hexP_len (Nat.pow_lt_pow_right (by decide) (by omega))) (by rw [sizeLine_eq]; decide)
      have hnx : baseText "0x" 16 ((2 ^ (low + k) : Nat) : Int) = nmP (low + k) := (nm_hex (low + k) (by omega) (by omega)).symm
      rw [hnx]
      k_steps
      dsimp only [Halt]
      exact LCg.CompEnd.intro F3 N3 _ (fun p hp => hp) off (.inr ⟨_, .tail _ (.tail _ (.tail _ (.head _))), rfl, _, rfl⟩) ⟨rfl, by rw [filt_on hk9 (decide_eq_true (by omega)), List.map_append]; exact hys.append' (.cons _ _ .nil)⟩
    · rename ¬ (low : Int) + (k : Int) < 32 => h32
      dsimp only [Halt]
      exact LCg.CompEnd.intro F3 N3 _ (fun p hp => hp) off (.inr ⟨_, .tail _ (.tail _ (.tail _ (.head _))), rfl, _, rfl⟩) ⟨rfl, by rw [filt_off hk9 (decide_eq_false (by omega))]; exact hys⟩
  case fin1 =>
    intro ys nw hJ
    obtain ⟨rfl, hys⟩ := hJ
    rw [List.take_of_length_le (by rw [List.size_toArray, hi.length, List.length_map]; exact Nat.le_refl _)] at hys
    unfold LCg.FinA
    intro D7 h7 tk7 F7 N7 o7
    k_steps
    dsimp only [Halt]
    refine LCt.CompSrcT.ledger rfl F7 N7 (.tail _ (.tail _ (.tail _ (.tail _ (.head _))))) (by rw [List.size_toArray, hi.length, List.length_map, sizeLine_eq]; omega) ?_
    intro g4
    refine comp_invT (fun i zs nw => nw = _ ∧ IntsAre zs (((ks.take i).filter fun k => decide (31 < low + k)).map fun k => ((2 ^ (low + k) : Nat) : Int))) ⟨rfl, .nil⟩ ?turn2 ?fin2
    case turn2 =>
      intro i v nw I oI C oC D m₂ zs h tk E' hi1 hv hJ hC hx F3 N3 off ne
      obtain ⟨rfl, hzs⟩ := hJ
      obtain ⟨z9, t9, rfl, hz8⟩ := IntsAre.at hi i v (by simpa using hv)
      obtain ⟨k, hk9, rfl⟩ : ∃ k, ks[i]? = some k ∧ z9 = Int.ofNat k := by
        rw [List.getElem?_map, Option.map_eq_some_iff] at hz8
        obtain ⟨k, e1, e2⟩ := hz8
        exact ⟨k, e1, e2.symm⟩
      have hk := hk6 k (List.mem_of_getElem? hk9)
      have hx2 := hx
      have hx : m₂ _ = some (.int (k : Int) t9) := hx2
      clear hx2 hv hz8
      k_steps
      · rename (low : Int) + (k : Int) > 31 => h32
        dsimp only [Halt]
        rw [add_pow_int]
        exact LCg.CompEnd.intro F3 N3 _ (fun p hp => hp) off (.inr ⟨_, .tail _ (.tail _ (.tail _ (.tail _ (.head _)))), rfl, _, rfl⟩) ⟨rfl, by rw [filt_on hk9 (decide_eq_true (by omega)), List.map_append]; exact hzs.append (.cons _ _ .nil)⟩
      · rename ¬ (low : Int) + (k : Int) > 31 => h32
        dsimp only [Halt]
        exact LCg.CompEnd.intro F3 N3 _ (fun p hp => hp) off (.inr ⟨_, .tail _ (.tail _ (.tail _ (.tail _ (.head _)))), rfl, _, rfl⟩) ⟨rfl, by rw [filt_off hk9 (decide_eq_false (by omega))]; exact hzs⟩
    case fin2 =>
      intro zs nw hJ
      obtain ⟨rfl, hzs⟩ := hJ
      rw [List.take_of_length_le (by rw [List.size_toArray, hi.length, List.length_map]; exact Nat.le_refl _)] at hzs
      unfold LCg.FinE
      intro D6 h6 tk6 F6 N6 o6
      obtain ⟨rl, hzr, hrl⟩ : ∃ rl, IntsAre zs rl ∧ rl.sum = ((restP ks low : Nat) : Int) := ⟨_, hzs, by rw [sum_cast]; rfl⟩
      clear hzs
      have hwl := words_len hk6 hkl hlow
      have hrs := restP_lt hk6 hkl hlow
      have hysl : ys.length ≤ 6 := by
        rw [hys.length, List.length_map]
        exact Nat.le_trans (List.length_filter_le _ _) hkl
      have hn7 : ∀ p ∈ news, p.1 ≠ D7 := fun p hp => off1_mem o7 p (.tail _ (.tail _ (.tail _ (.tail _ hp))))
      have q1 := o7.1
      have q2 := o7.2.1
      have q3 := o7.2.2.1
      have q4 := o7.2.2.2.1
      have q5 := o6.1
      have hysz : ys.toArray.size ≤ sizeLine := by rw [List.size_toArray, sizeLine_eq]; omega
      k_steps
      · rename rl.sum ≠ 0 => h0
        rename News _ _ _ _ => N5
        rw [hrl] at N5 h0
        refine join_my (ss := wordsP ks low) N5 (.tail _ (.head _)) ?st1 (by decide +kernel) hwl ?_
        case st1 =>
          unfold wordsP
          rw [if_pos (.inl (by omega))]
          exact hys.append' (.cons _ _ .nil)
        intro t' k'
        k_steps
        rename News h₀ L _ _ => kN
        exact h _ _ _ (by assumption) (byMem kN fun p hp => .tail _ (.tail _ (.tail _ (.tail _ (.tail _ hp)))))
      · rename decide _ = true => h1
        rename rl.sum = 0 => h0
        rename News _ _ _ _ => N5
        rw [hrl] at N5 h0
        have hk0 : ks = [] := List.map_eq_nil_iff.mp (of_decide_eq_true h1)
        refine join_my (ss := wordsP ks low) N5 (.tail _ (.tail _ (.head _))) ?st2 (by decide +kernel) hwl ?_
        case st2 =>
          unfold wordsP
          rw [if_pos (.inr hk0)]
          exact hys.append' (.cons _ _ .nil)
        intro t' k'
        k_steps
        rename News h₀ L _ _ => kN
        exact h _ _ _ (by assumption) (byMem kN fun p hp => .tail _ (.tail _ (.tail _ (.tail _ (.tail _ (.tail _ hp))))))
      · rename decide _ = false => h1
        rename rl.sum = 0 => h0
        rename News _ _ _ _ => N5
        rw [hrl] at h0
        have hk0 : ks ≠ [] := fun e => of_decide_eq_false h1 (by rw [e]; rfl)
        refine join_my (ss := wordsP ks low) N5 (.tail _ (.tail _ (.head _))) ?st3 (by decide +kernel) hwl ?_
        case st3 =>
          unfold wordsP
          rw [if_neg (by rintro (e | e); exact e (by omega); exact hk0 e), List.append_nil]
          exact hys
        intro t' k'
        k_steps
        rename News h₀ L _ _ => kN
        exact h _ _ _ (by assumption) (byMem kN fun p hp => .tail _ (.tail _ (.tail _ (.tail _ (.tail _ (.tail _ hp))))))
end
end Mine
end
section
set_option maxRecDepth 100000
open PySem PySem.W PyProof.Rows PySem.Calls PyProof.Rows.LCg
namespace Mine
section
variable {prog : Program} {w : World} {A : Around} {h₀ : Heap} {L : Addr} {m : Str → Option Value} {env : Env} {E : Value → Shared → Prop} {s : Shared}
theorem listcomp2 {elt i0 i1 : PySem.Expr} {x0 x1 : Str} {p0 p1 : Pos} {scope : Scope} {cl : List (Str × Addr)} {pos : Pos} {Q : Value → Shared → Prop} (_F₀ : Fr h₀ L s.heap m)
    (hclos : closureFor scope env = pure cl) (hkind : scope.kind = .function)
    (hnames : ∀ z ∈ scope.names, z.2 = .local → scope.names.lookup z.1 = some .local)
    (h : wpAny (model prog w) A (eval i0 env) (Src2 prog w A h₀ L m env elt i0 i1 x0 x1 p0 p1 scope pos cl (fun s₂ => FinE h₀ L m s₂ Q)) E s)
    (hs : ∀ x, foldedSetIterable i0 env x = pure x := by intro _; rfl) :
    wpAny (model prog w) A (eval (.ListComp elt [⟨.Name x0 p0, i0, [], 0⟩, ⟨.Name x1 p1, i1, [], 0⟩] scope pos) env) Q E s := by
  rw [eval_ListComp]
  refine wpAny_comprehension_free (use := none) rfl hs hclos hkind hnames (wpAny_mono h (fun xv s₁ h₁ => ?_) fun _ _ e => e)
  refine h₁ (compPost (model prog w) A E none Q) E ?_
  intro s₂ _ D C h' tk m' ys news' F' N' o1 hn hC₀ hD₀ hCL hDL hCD offC fin
  refine ⟨m', hn, fun h'' hs'' => fin D h'' tk (F'.change hs'' hCL hC₀) (fun p hp => ?_) o1⟩
  refine ⟨hs''.extBut _ _ ?_ (N' p hp).1, (N' p hp).2⟩
  rcases List.mem_cons.mp hp with rfl | hp
  · exact Ne.symm hCD
  · exact offC p hp
end
end Mine
end
set_option maxRecDepth 100000
set_option maxHeartbeats 8000000
open PySem PySem.W PyProof.Rows PySem.Calls
namespace Mine
def GoodA (cw : ClaimW) (cl : Str → Option Addr) (args : List WData) (g : Heap) (os : OsState) (r : Result) (s' : Shared) : Prop :=
  (∃ v d as, r = .ok (.ret v) ∧ (∀ cls, cw.raises args cls = false) ∧ ReadsW cw.records cl s'.heap v d as ∧ cw.post args d args = true ∧ (cw.unshared = true → as.Nodup ∧ ∀ a ∈ as, g.get? a = none)) ∧
  (∀ b o, g.get? b = some o → s'.heap.get? b = some o) ∧ s'.os = os ∧ AllBare s'.gens
theorem my_post {M : Model} {A : Around} {cd : Code} {s s₁ : Shared} {cw : ClaimW} {cl : Str → Option Addr} {mean : ExcName → Option Value} {args : List WData} {tabs : List (Addr × Addr)} (hT : TabsAt tabs s₁.heap)
    (h : codeAny M A cd (fun r s' => GoodA cw cl args (ghostOf s₁.heap tabs) s₁.os r s' ∧ GrownAll tabs s'.heap) s) : codeAny M A cd (GoodWG cw cl mean args s₁) s :=
  codeAny_mono h fun r s' ⟨⟨⟨v, d, as, r1, r2, r3, r4, r5⟩, hk, hos, hg⟩, hgr⟩ => by
    have keep : ∀ b o, b ∉ tabs.map (·.2) → s₁.heap.get? b = some o → s'.heap.get? b = some o := fun b o hb e => hk b o (ghost_ne e hb)
    have grown : ∀ b o, b ∈ tabs.map (·.2) → s₁.heap.get? b = some o → isCodeTable s₁.heap b ∧ o = tabObj #[] ∧ ∃ ps, s'.heap.get? b = some (tabObj ps) := fun b o hb e => by
      obtain ⟨q, hq, rfl⟩ := List.mem_map.mp hb
      have e2 := (hT q hq).2
      rw [e] at e2
      exact ⟨((hT q hq).1.tab (hT q hq).2).isCodeTable, Option.some.inj e2, hgr.get q hq⟩
    refine ⟨?_, ⟨fun b o e => ?_, fun b o e => ?_⟩, hos, hg⟩
    · refine .inl ⟨v, d, as, r1, r2, r3, r4, fun q => ⟨(r5 q).1, fun a ha => ?_⟩⟩
      cases q1 : s₁.heap.get? a with
      | none => rfl
      | some o =>
        by_cases hb : a ∈ tabs.map (·.2)
        · obtain ⟨_, _, ps, hP⟩ := grown a o hb q1
          exact absurd ha (readsW_apart hP rfl r3)
        · have e3 := (r5 q).2 a ha
          rw [show (ghostOf s₁.heap tabs).get? a = some o from ghost_ne q1 hb] at e3
          cases e3
    · by_cases hb : b ∈ tabs.map (·.2)
      · obtain ⟨ht, rfl, ps, hP⟩ := grown b o hb e
        exact .inr (.inl ⟨ht, rfl, #[], ps, rfl, by rw [Array.empty_append]; exact hP⟩)
      · exact .inl (keep b o hb e)
    · by_cases hb : b ∈ tabs.map (·.2)
      · obtain ⟨_, _, ps, hP⟩ := grown b o hb e
        exact ⟨_, hP⟩
      · exact ⟨o, keep b o hb e⟩
def dps (qs : List Dp) : List (Addr × Obj) := qs.map fun q => (q.at_, q.obj)
theorem ledger3 {h₀ h : Heap} {L : Addr} {r c0 c1 c2 c3 c4 : Addr × Obj} {qs : List Dp} {nw : List (Addr × Obj)} {a : Addr} (N : News h₀ L h (r :: nw)) (hs : ∀ p ∈ [c0, c1, c2, c3, c4], p ∈ nw) (hq : ∀ q ∈ qs, (q.at_, q.obj) ∈ nw ∧ @LT.lt Nat _ a q.at_) : News h₀ L h (r :: c0 :: c1 :: c2 :: c3 :: c4 :: dps qs) := by
  refine byMem N fun p hp => ?_
  rcases List.mem_cons.mp hp with rfl | hp
  · exact .head _
  · refine .tail _ ?_
    rcases List.mem_append.mp (show p ∈ [c0, c1, c2, c3, c4] ++ dps qs from hp) with hp | hp
    · exact hs p hp
    · obtain ⟨q, hq1, rfl⟩ := List.mem_map.mp hp
      exact (hq q hq1).1
theorem ledger4 {h₀ h : Heap} {L : Addr} {r5 r3 c0 c1 c2 c3 c4 : Addr × Obj} {t : List (Addr × Obj)} (N : News h₀ L h (r5 :: r3 :: c0 :: c1 :: c2 :: c3 :: c4 :: t)) : News h₀ L h (r5 :: c4 :: r3 :: c0 :: c1 :: c2 :: c3 :: t) := by
  refine byMem N fun p hp => ?_
  simp only [List.mem_cons] at hp ⊢
  rcases hp with h | h | h | h | h | h | h | h <;> simp [h]
theorem dps_mem {qs : List Dp} : ∀ q ∈ qs, (q.at_, q.obj) ∈ dps qs := fun _ hq => List.mem_map_of_mem hq
theorem dps_gt {qs : List Dp} {a : Addr} {nw : List (Addr × Obj)} (hq : ∀ q ∈ qs, (q.at_, q.obj) ∈ nw ∧ @LT.lt Nat _ a q.at_) : ∀ p ∈ dps qs, @LT.lt Nat _ a p.1 := by
  intro p hp
  obtain ⟨q, hq1, rfl⟩ := List.mem_map.mp hp
  exact (hq q hq1).2
theorem dps_lt {qs : List Dp} {a r : Addr} {nw : List (Addr × Obj)} (hq : ∀ q ∈ qs, (q.at_, q.obj) ∈ nw ∧ @LT.lt Nat _ a q.at_) (hr : ∀ p ∈ nw, p.1 < r) : ∀ p ∈ dps qs, p.1 < r := by
  intro p hp
  obtain ⟨q, hq1, rfl⟩ := List.mem_map.mp hp
  exact hr _ (hq q hq1).1
theorem allBare_nil : AllBare #[] := by
  intro g hg
  simp at hg
theorem endsP_length (ds : List (Nat × Nat)) : (endsP ds).length = 2 * ds.length := by
  unfold endsP
  induction ds with
  | nil => rfl
  | cons d ds ih => rw [List.flatMap_cons, List.length_append, ih, List.length_cons]; simp; omega
theorem endsP_step {qs : List Dp} {i : Nat} {d : Dp} (hd : qs[i]? = some d) : endsP ((qs.take (i + 1)).map fun d => (d.x, d.y)) = endsP ((qs.take i).map fun d => (d.x, d.y)) ++ [d.x, d.y] := by
  unfold endsP
  rw [List.take_add_one, hd, List.map_append, List.flatMap_append]
  rfl
theorem doorsP_len (ns : List Nat) : (doorsP ns).length ≤ 6 := by
  unfold doorsP
  rw [List.length_append, baseP_len]
  have h1 := List.length_filter_le (fun p => decide (p ∉ baseP ns)) (moreP (ns.getD 5 0))
  have h2 : (moreP (ns.getD 5 0)).length ≤ 1 := List.length_take_le _ _
  omega
theorem pair_at {d : Dp} {j : Nat} {v : Value} (h : (#[Value.int (d.x : Int) d.tx, .int (d.y : Int) d.ty] : Array Value)[j]? = some v) : ∃ c t, v = .int ((c : Nat) : Int) t ∧ [d.x, d.y][j]? = some c := by
  match j with
  | 0 => exact ⟨d.x, d.tx, (Option.some.inj h).symm, rfl⟩
  | 1 => exact ⟨d.y, d.ty, (Option.some.inj h).symm, rfl⟩
  | j + 2 => exact absurd h (by simp)
def MadeInts (h₀ : Heap) (L : Addr) (m : Str → Option Value) (news : List (Addr × Obj)) (s : Shared) (xs : List Int) (v : Value) (s' : Shared) : Prop :=
  ∃ D vs n h tk, v = .ref D ∧ s' = { s with heap := h, toks := tk } ∧ Fr h₀ L h m ∧ News h₀ L h ((D, listOf (List.toArray vs) n) :: news) ∧ IntsAre vs xs ∧ ∀ p ∈ news, p.1 ≠ D
theorem cut_ints {M : Model} {A : Around} {e : Sem Value} {E Q : Value → Shared → Prop} {h₀ : Heap} {L : Addr} {m : Str → Option Value} {news : List (Addr × Obj)} {s : Shared} (_F : Fr h₀ L s.heap m) (_N : News h₀ L s.heap news) (xs : List Int) (h1 : wpAny M A e (MadeInts h₀ L m news s xs) E s)
    (h2 : ∀ D vs n h tk, Fr h₀ L h m → News h₀ L h ((D, listOf (List.toArray vs) n) :: news) → IntsAre vs xs → (∀ p ∈ news, p.1 ≠ D) → Q (.ref D) { s with heap := h, toks := tk }) : wpAny M A e Q E s :=
  wpAny_mono h1 (fun v s' ⟨D, vs, n, h, tk, e1, e2, F, N, hI, hn⟩ => by rw [e1, e2]; exact h2 D vs n h tk F N hI hn) fun _ _ e => e
theorem count_cast (l : List Nat) (k : Nat) : (l.map Int.ofNat).count (k : Int) = l.count k := by
  induction l with
  | nil => rfl
  | cons a l ih =>
    rw [List.map_cons, List.count_cons, List.count_cons, ih]
    congr 1
    by_cases h : a = k
    · subst h; simp
    · have h2 : ¬ (Int.ofNat a = (k : Int)) := fun e => h (Int.ofNat.inj e)
      rw [if_neg (by simpa using h2), if_neg (by simpa using h)]
theorem innerP_lt {ds : List (Nat × Nat)} : ∀ k ∈ innerP ds, k < 6 := by
  intro k hk
  unfold innerP at hk
  split at hk
  · exact List.mem_range.mp (List.mem_filter.mp hk).1
  · cases hk
theorem innerP_len (ds : List (Nat × Nat)) : (innerP ds).length ≤ 6 := by
  unfold innerP
  split
  · exact List.length_filter_le _ (List.range 6)
  · exact Nat.zero_le _
theorem mod_cell40 (ns : List Nat) : ((ns.map Int.ofNat).getD (Int.toNat 0) 0).fmod 40 = ((ns.getD 0 0 % 40 : Nat) : Int) := by
  have e2 : (ns.map Int.ofNat).getD (Int.toNat 0) 0 = ((ns.getD 0 0 : Nat) : Int) := by
    show (ns.map Int.ofNat).getD 0 0 = _
    rw [List.getD_eq_getElem?_getD, List.getD_eq_getElem?_getD, List.getElem?_map]
    cases ns[0]? <;> rfl
  rw [e2, Int.fmod_eq_emod_of_nonneg _ (by omega)]
  rfl
theorem swap3 {h₀ h : Heap} {L : Addr} {x y z : Addr × Obj} {t : List (Addr × Obj)} (N : News h₀ L h (x :: y :: z :: t)) : News h₀ L h (z :: x :: y :: t) := by
  refine byMem N fun p hp => ?_
  simp only [List.mem_cons] at hp ⊢
  rcases hp with h | h | h | h <;> simp [h]
theorem toFront2 {h₀ h : Heap} {L : Addr} {x y z : Addr × Obj} {t : List (Addr × Obj)} (N : News h₀ L h (x :: y :: z :: t)) : News h₀ L h (z :: x :: y :: t) := swap3 N
def MadeInt (h₀ : Heap) (L : Addr) (m : Str → Option Value) (news : List (Addr × Obj)) (s : Shared) (z : Int) (v : Value) (s' : Shared) : Prop :=
  ∃ t h tk, v = .int z t ∧ s' = { s with heap := h, toks := tk } ∧ Fr h₀ L h m ∧ News h₀ L h news
theorem cut_int {M : Model} {A : Around} {e : Sem Value} {E Q : Value → Shared → Prop} {h₀ : Heap} {L : Addr} {m : Str → Option Value} {news : List (Addr × Obj)} {s : Shared} (_F : Fr h₀ L s.heap m) (_N : News h₀ L s.heap news) (z : Int) (h1 : wpAny M A e (MadeInt h₀ L m news s z) E s)
    (h2 : ∀ t h tk, Fr h₀ L h m → News h₀ L h news → Q (.int z t) { s with heap := h, toks := tk }) : wpAny M A e Q E s :=
  wpAny_mono h1 (fun v s' ⟨t, h, tk, e1, e2, F, N⟩ => by rw [e1, e2]; exact h2 t h tk F N) fun _ _ e => e
theorem zero_bool {ds : List (Nat × Nat)} {res af : List Nat} (h : LawOk ds res) (e : afterP (nearP ds) = af) : (((rmF af res : Nat) : Int) == 0) = !decide ((innerP ds).map Int.ofNat = []) := by
  have h1 := h.zero
  rw [e] at h1
  rw [Bool.eq_iff_iff, beq_iff_eq, Bool.not_eq_true', decide_eq_false_iff_not, List.map_eq_nil_iff]
  exact ⟨fun x => h1.mp (Int.ofNat.inj x), fun x => by rw [h1.mpr x]; rfl⟩
def fewP (ks : List Nat) : Nat := if ks = [] then 12 else 2 * ks.length - 1
theorem fewP_le {ks : List Nat} (h : ks.length ≤ 6) : fewP ks ≤ 12 := by
  unfold fewP
  split <;> omega
theorem small12 : ∀ i, i < 13 → Builtin.Range.small 0 ((i : Nat) : Int) 1 = true := by decide +kernel
theorem size12 : ∀ i, i < 13 → Builtin.Range.rangeSize 0 ((i : Nat) : Int) 1 = ((i : Nat) : Int) := by decide +kernel
def drawn (ns : List Nat) (k : Nat) : Nat := ns.getD (k % 6) 0 / 6 ^ (k / 6) % 6
theorem cell_mod (ns : List Nat) (i : Nat) : (ns.map Int.ofNat).getD ((i : Int).fmod 6).toNat 0 = ((ns.getD (i % 6) 0 : Nat) : Int) := by
  have e : ((i : Int).fmod 6).toNat = i % 6 := by
    rw [Int.fmod_eq_emod_of_nonneg _ (by decide)]
    show ((i % 6 : Nat) : Int).toNat = _
    exact Int.toNat_natCast _
  rw [e, List.getD_eq_getElem?_getD, List.getD_eq_getElem?_getD, List.getElem?_map]
  cases ns[i % 6]? <;> rfl
theorem six_pow (i : Nat) : (6 : Int) ^ ((i : Int).fdiv 6).toNat = ((6 ^ (i / 6) : Nat) : Int) := by
  have e : ((i : Int).fdiv 6).toNat = i / 6 := by
    rw [Int.fdiv_eq_ediv_of_nonneg _ (by decide)]
    show ((i / 6 : Nat) : Int).toNat = _
    exact Int.toNat_natCast _
  rw [e]; exact (Int.natCast_pow 6 (i / 6)).symm
theorem fdiv_nat (a b : Nat) : Int.fdiv (a : Int) (b : Int) = ((a / b : Nat) : Int) := by
  rw [Int.fdiv_eq_ediv_of_nonneg _ (Int.natCast_nonneg _)]; rfl
theorem fmod6_nat (a : Nat) : Int.fmod (a : Int) 6 = ((a % 6 : Nat) : Int) := by
  rw [Int.fmod_eq_emod_of_nonneg _ (by decide)]; rfl
theorem drawn_lt (ns : List Nat) (k : Nat) : drawn ns k < 6 := Nat.mod_lt _ (by decide)
theorem drawn_parts {ns : List Nat} (hb : ∀ c ∈ ns, c ≤ 63000) {i : Nat} (hi : i < 12) : ∃ c d : Nat, ns.getD (i % 6) 0 = c ∧ 6 ^ (i / 6) = d ∧ c ≤ 63000 ∧ 1 ≤ d ∧ d ≤ 6 ∧ drawn ns i = c / d % 6 := by
  refine ⟨_, _, rfl, rfl, ?_, Nat.pow_pos (by decide), ?_, rfl⟩
  · rw [List.getD_eq_getElem?_getD]
    cases e : ns[i % 6]? with
    | none => exact Nat.zero_le _
    | some c => exact hb c (List.mem_of_getElem? e)
  · have : i / 6 ≤ 1 := by omega
    exact Nat.le_trans (Nat.pow_le_pow_right (by decide) this) (by decide)
theorem join_digs (ds : List Nat) : Txt.join (Str.ofString "") (ds.map digS) = pathS ds := by
  have key : ∀ (l : List Nat) (acc : Array Nat), (l.map digS).foldl (fun acc p => acc ++ (Str.ofString "").cps ++ p.cps) acc = acc ++ (l.map (48 + ·)).toArray := by
    intro l
    induction l with
    | nil => intro acc; simp
    | cons a l ih =>
      intro acc
      rw [List.map_cons, List.foldl_cons, ih]
      show acc ++ #[] ++ #[48 + a] ++ _ = _
      simp
  unfold Txt.join Builtin.Str.glued
  cases ds with
  | nil => rfl
  | cons a l =>
    show (⟨(l.map digS).foldl _ #[48 + a]⟩ : Str) = _
    rw [key]
    simp [pathS]
theorem digs_len (ds : List Nat) : ((ds.map digS).map (·.length)).sum + (ds.map digS).length = 2 * ds.length := by
  induction ds with
  | nil => rfl
  | cons a l ih =>
    simp only [List.map_cons, List.sum_cons, List.length_cons] at ih ⊢
    have e : (digS a).length = 1 := rfl
    omega
theorem few_ok {ds : List (Nat × Nat)} {res af : List Nat} (h : LawOk ds res) (e : afterP (nearP ds) = af) (ns : List Nat) : rmF af ((List.range (fewP (innerP ds))).map (drawn ns)) ≠ 0 := by
  rw [← e]
  refine h.few _ (fun x hx => ?_) fun hn => ?_
  · obtain ⟨k, _, rfl⟩ := List.mem_map.mp hx
    exact drawn_lt ns k
  · rw [List.length_map, List.length_range]
    unfold fewP
    rw [if_neg hn]
    have : (innerP ds).length ≠ 0 := fun e => hn (List.eq_nil_of_length_eq_zero e)
    omega
theorem front5 {h₀ h : Heap} {L : Addr} {a b c d e : Addr × Obj} {t : List (Addr × Obj)} (N : News h₀ L h (a :: b :: c :: d :: e :: t)) : News h₀ L h (e :: a :: b :: c :: d :: t) := by
  refine byMem N fun p hp => ?_
  simp only [List.mem_cons] at hp ⊢
  rcases hp with h | h | h | h | h | h <;> simp [h]
theorem int_item {vs : List Value} {ks : List Nat} {i : Nat} {v : Value} (hI : IntsAre vs (ks.map Int.ofNat)) (hv : vs.toArray[i]? = some v) : ∃ k t, ks[i]? = some k ∧ v = .int ((k : Nat) : Int) t := by
  obtain ⟨z9, t9, rfl, hz8⟩ := IntsAre.at hI i v (by simpa using hv)
  rw [List.getElem?_map, Option.map_eq_some_iff] at hz8
  obtain ⟨k, e1, e2⟩ := hz8
  exact ⟨k, t9, e1, by rw [← e2]; rfl⟩
theorem nat_cells {cs : List Int} (h6 : cs.length = 6) (hb : ∀ c ∈ cs, 0 ≤ c ∧ c ≤ 63000) : ∃ ns : List Nat, cs = ns.map Int.ofNat ∧ ns.length = 6 ∧ ∀ c ∈ ns, c ≤ 63000 := by
  refine ⟨cs.map Int.toNat, ?_, by rw [List.length_map]; exact h6, fun c hc => ?_⟩
  · rw [List.map_map]
    have e : cs.map (Int.ofNat ∘ Int.toNat) = cs.map id := List.map_congr_left fun c hc => by
      have := (hb c hc).1
      show ((c.toNat : Nat) : Int) = c
      omega
    rw [e, List.map_id]
  · obtain ⟨x, hx, rfl⟩ := List.mem_map.mp hc
    have := hb x hx
    omega
end Mine
open Mine
local macro_rules | `(tactic| walk_at "call builtin:len") => `(tactic| (k_here; refine halt ?_))
local macro_rules | `(tactic| walk_at "compareOp NotEq str str") => `(tactic| (k_here; refine halt ?_))
local macro_rules | `(tactic| walk_at "call type:str") => `(tactic| (k_here; refine halt ?_))
local macro_rules | `(tactic| walk_at "eval IfExp") => `(tactic| (k_here; refine halt ?_))
local macro_rules | `(tactic| walk_at "call ref") => `(tactic| (k_here; refine halt ?_))
theorem PySem.Challenge.cw_wk0026_01_holds : PySem.Challenge.rw_wk0026_01.Holds := by
  refine MineH.hd ⟨MineH.run_false, MineH.run_true, MineH.fin_all, MineH.look_a, MineH.look_b, ?_⟩
  k_fill
  intro w s₀ s₁ mg mb G Y fa o pm cd doc dV kV ho hdd hcd hD hmg hg args vals as hpre hlay hrd hwl hlo
  have KX := km_in_of Y
  have hT8 := km_tabs_of Y
  have X := (Ground.X G).1
  have V := (Ground.X G).2
  refine Ground.open G ?_
  intro T B D TE TW
  try (refine guard_noD D (by decide +kernel) ?_; clear D)
  have hT9 : TabsAt ([(75, 71)] : List (Addr × Addr)) _ := List.forall_mem_cons.mpr ⟨⟨codeHd_of_K (c := 75) (P := 71) KX (by kernel_rfl), hT8 71 (by k_mem)⟩, fun _ h => nomatch h⟩
  clear hmg
  wrow_args hpre hlay hrd hwl hlo
  all_goals (
    first | refine callC_kw (enter_call ?_) | refine enter_call ?_
    w_top on
    refine my_post hT9 ?_
    w_call any ho hdd hcd hD T F
    clear hdd
    kn_ghosts F T
    k_drop
    skip)
  rename IntsAre _ _ => hI0
  have h70 : 71 < s₁.heap.objs.size := Heap.lt_size (hT8 71 (by k_mem))
  rename ¬ _ < _ => hlen0
  have h71 := h70
  have h72 := Nat.lt_succ_of_lt h70
  have h73 := Nat.lt_succ_of_lt h72
  have h74 := Nat.lt_succ_of_lt h73
  k_steps
  rename News _ _ _ _ => N1
  rename Fr _ _ _ _ => F1
  rename Below _ _ _ _ => K1
  rename Top topProg _ _ _ _ _ => T1
  rename Frag.In _ _ => X1
  rename Heap.IsList (ghostOf _ _) _ _ => hl1
  rename _ < _ ∧ _ => l1
  dsimp only [Halt]
  refine wpAny_call (cells_ok (cs := [7, 1, 2, 3, 2, 19]) K1 F1 X1 N1 T1 rfl rfl rfl (Nat.le_of_ble_eq_true rfl) rfl hl1 hI0 ?z1 ?r1 ?c1 rfl ?b1 ?_)
  case z1 => rw [hI0.length]; omega
  case r1 =>
    intro p hp
    rcases List.mem_cons.mp hp with rfl | hp
    · exact Nat.ne_of_lt l1.1
    · rcases List.mem_cons.mp hp with rfl | hp
      · exact Nat.ne_of_lt l1.2.1
      · rcases List.mem_cons.mp hp with rfl | hp
        · exact Nat.ne_of_lt l1.2.2.1
        · rw [List.mem_singleton.mp hp]; exact Nat.ne_of_lt l1.2.2.2
  case c1 => exact .cons _ _ (.cons _ _ (.cons _ _ (.cons _ _ (.cons _ _ (.cons _ _ .nil)))))
  case b1 => decide
  intro h2 tk2 vs2 n2 cs2 F2 N2 hI2 hc6 hcb
  obtain ⟨ns, hns, hn6, hnb⟩ : ∃ ns : List Nat, cs2 = ns.map Int.ofNat ∧ ns.length = 6 ∧ ∀ c ∈ ns, c ≤ 63000 := nat_cells hc6 hcb
  subst hns
  clear hcb hc6 N1 F1 hI0 hl1 hlen0
  k_steps
  rename News _ _ _ _ => N2
  rename Fr _ _ _ _ => F2
  dsimp only [Halt]
  refine wpAny_call (doors_ok K1 F2 X1 N2 T1 rfl rfl hI2 hn6 ?_)
  intro h3 tk3 r3 qs n3 nw3 F3 N3 hsub hq hqd hlt
  have N3 := ledger3 N3 hsub hq
  have hqa := dps_gt hq
  have hqr := dps_lt hq hlt
  have hq1 : ∀ p ∈ dps qs, p.1 ≠ s₁.heap.objs.size + 1 + 1 + 1 := fun p hp => Nat.ne_of_gt (Nat.lt_trans l1.1 (hqa p hp))
  have hq2 : ∀ p ∈ dps qs, p.1 ≠ s₁.heap.objs.size + 1 + 1 := fun p hp => Nat.ne_of_gt (Nat.lt_trans l1.2.1 (hqa p hp))
  have hq3 : ∀ p ∈ dps qs, p.1 ≠ s₁.heap.objs.size + 1 := fun p hp => Nat.ne_of_gt (Nat.lt_trans l1.2.2.1 (hqa p hp))
  have hq71 : ∀ p ∈ dps qs, p.1 ≠ 71 := fun p hp => Nat.ne_of_gt (Nat.lt_trans l1.2.2.2 (hqa p hp))
  have hr1 := ltN (hlt _ (hsub _ (.tail _ (.head _))))
  have hr2 := ltN (hlt _ (hsub _ (.tail _ (.tail _ (.head _)))))
  have hr3 := ltN (hlt _ (hsub _ (.tail _ (.tail _ (.tail _ (.head _))))))
  have hr0 := ltN (hlt _ (hsub _ (.head _)))
  dsimp only at hr0 hr1 hr2 hr3
  have hr71 : @LT.lt Nat _ 71 r3 := Nat.lt_trans l1.2.2.2 hr0
  have hb6 : ∀ d ∈ qs, d.x < 6 ∧ d.y < 6 := fun d hd => doorsP_lt ns (d.x, d.y) (hqd ▸ List.mem_map_of_mem hd)
  clear hsub hq hlt N2 F2
  k_steps
  rename News _ _ _ _ => N4
  rename Fr _ _ _ _ => F4
  dsimp only [Halt]
  refine wpAny_call (after_ok K1 F4 X1 N4 T1 rfl rfl (fun d hd => .tail _ (.tail _ (.tail _ (.tail _ (.tail _ (dps_mem d hd)))))) hb6 ?_)
  intro h5 tk5 r5 vs5 n5 F5 N5 hI5 hr5
  rw [hqd] at hI5
  clear N4 F4
  k_steps
  obtain ⟨res, LO⟩ := law_ok (house_ok ns)
  have hds6 := doorsP_lt ns
  have hdl6 := doorsP_len ns
  have hfl := afterP_length (nearP (doorsP ns))
  revert hqd hI5 LO hds6 hdl6
  generalize doorsP ns = ds
  intro hqd hI5 LO hds6 hdl6
  have hql : qs.length ≤ 6 := by rw [← hqd, List.length_map] at hdl6; exact hdl6
  have haf : ∀ i, i < 64 → (afterP (nearP ds)).getD i 0 < 64 := fun i _ => after_lt _ _ (nearP_lt hds6)
  have hvs5 := af_ints hI5 (af_len ds)
  have hloop := LO.loop
  revert haf hvs5 hI5 hloop
  generalize haf9 : afterP (nearP ds) = af
  intro hI5 haf hvs5 hloop
  rename News _ _ _ _ => N6
  rename Fr _ _ _ _ => F6
  dsimp only [Halt]
  refine wpAny_call (looks_ok K1 F6 X1 (ledger4 N6) T1 ?G4 rfl rfl rfl (Nat.le_of_ble_eq_true rfl) rfl (codeHd_of_K (c := 75) (P := 71) X1 (by kernel_rfl)) (.inl rfl) hvs5 haf hloop (Nat.ne_of_gt (Nat.lt_trans hr71 hr5.1)) ?na4 ?n74 ?_)
  case G4 =>
    show AllBare s₁.gens
    rw [hg]
    exact allBare_nil
  case na4 =>
    intro p hp
    rcases List.mem_cons.mp hp with rfl | hp
    · exact Nat.ne_of_lt hr5.1
    · refine Nat.ne_of_lt (allLt_mem hr5.2 p ?_)
      simp only [List.mem_cons] at hp ⊢
      rcases hp with h | h | h | h | h <;> simp [h]
  case n74 =>
    intro p hp
    simp only [List.mem_cons] at hp
    rcases hp with rfl | rfl | rfl | rfl | rfl | hp
    · exact Nat.ne_of_gt hr71
    · exact Nat.ne_of_gt l1.2.2.2
    · exact Nat.ne_of_gt (Nat.lt_succ_of_lt (Nat.lt_succ_of_lt (Nat.lt_succ_of_lt h71)))
    · exact Nat.ne_of_gt (Nat.lt_succ_of_lt (Nat.lt_succ_of_lt h71))
    · exact Nat.ne_of_gt (Nat.lt_succ_of_lt h71)
    · exact hq71 p hp
  intro h6 tk6 gs6 t6 pz6 F7 N7 htab6 hgs6
  clear N6 F6
  simp only [AllLt] at hr5
  have hr35 := ltN hr5.1
  dsimp only
  k_steps
  refine listcomp2 (L := s₁.heap.objs.size) (by k_asm) (by with_unfolding_all rfl) (by rfl) (by decide) ?_
  k_steps
  rename News _ _ _ _ => N8
  rename Fr _ _ _ _ => F8
  refine src2_list (fun i ys nw => nw = _ ∧ IntsAre ys ((endsP ((qs.take i).map fun d => (d.x, d.y))).map Int.ofNat)) rfl F8 N8 (.tail _ (.tail _ (.head _))) (fun i ys nw hJ => hJ.1 ▸ .tail _ (.tail _ (.head _))) (by decide) rfl rfl ⟨rfl, .nil⟩ ?turn5 ?fin5
  case turn5 =>
    intro I C D hCL hDL hC0 hD0 hIC hID hCD i v nw oI oC m₂ ys h tk E' hi hv hJ hC hx F3 N3 off
    obtain ⟨rfl, hys⟩ := hJ
    obtain ⟨d, hd, rfl⟩ : ∃ d, qs[i]? = some d ∧ v = .ref d.at_ := by
      simp only [refsOfD, List.getElem?_toArray, List.getElem?_map, Option.map_eq_some_iff] at hv
      obtain ⟨d, e1, e2⟩ := hv
      exact ⟨d, e1, e2.symm⟩
    have hdm := dps_mem d (List.mem_of_getElem? hd)
    have hdo := off.mem (d.at_, d.obj) (.tail _ (.tail _ (.tail _ (.tail _ (.tail _ (.tail _ (.tail _ hdm)))))))
    k_steps
    refine turn2_tuple (its := #[.int (d.x : Int) d.tx, .int (d.y : Int) d.ty]) (fun j ys nw => nw = _ ∧ IntsAre ys ((endsP ((qs.take i).map fun d => (d.x, d.y)) ++ [d.x, d.y].take j).map Int.ofNat)) _ rfl ⟨_, (N3 _ (.tail _ (.tail _ (.tail _ (.tail _ (.tail _ (.tail _ (.tail _ (.tail _ (.tail _ (.tail _ hdm))))))))))).1, rfl, _, rfl⟩ hdo.2.1 hdo.2.2 ?jr5 ?jn5 rfl rfl (by decide) hCL hDL hC0 hD0 hIC hID hCD hC hx F3 N3 off ⟨rfl, by rw [List.take_zero, List.append_nil]; exact hys⟩ ?turn6 ?fin6
    case jr5 =>
      intro i ys nw h' hJ N
      obtain ⟨rfl, _⟩ := hJ
      exact ⟨_, (N _ (.tail _ (.tail _ (.tail _ (.tail _ (.tail _ (.tail _ (.tail _ hdm)))))))).1, rfl, _, rfl⟩
    case jn5 =>
      intro j ys nw hJ hj
      rw [hJ.2.length, List.length_map, List.length_append, endsP_length, List.length_map, sizeLine_eq]
      have h1 := List.length_take_le' i qs
      have h2 := List.length_take_le j [d.x, d.y]
      have h3 : j < 2 := hj
      omega
    case fin6 =>
      intro ys nw hJ
      exact ⟨hJ.1, by rw [endsP_step hd]; exact hJ.2⟩
    case turn6 =>
      intro j v nw I2 oI2 oC m₂ ys h tk E' hji hv hJ hC hx0 hx1 F3 N3 off2 off
      obtain ⟨rfl, hys⟩ := hJ
      obtain ⟨c, t, rfl, hc⟩ := pair_at hv
      k_steps
      dsimp only [Halt]
      exact LCg.CompEnd.intro F3 N3 _ (fun p hp => hp) off2 trivial ⟨_, rfl, off, rfl, by rw [List.take_add_one, hc, ← List.append_assoc, List.map_append]; exact hys.append (.cons _ _ .nil)⟩
  case fin5 =>
    intro g ys nw hJ
    obtain ⟨rfl, hys⟩ := hJ
    rw [List.take_of_length_le (by simp [refsOfD]), hqd] at hys
    unfold LCg.FinE
    intro D7 h7 tk7 F9 N9 o7
    have ho7 := off1_mem o7
    dsimp only [LCg.Off1] at o7
    k_steps
    rename News _ _ _ _ => N10
    rename Fr _ _ _ _ => F10
    dsimp only [Halt]
    refine cut_ints F10 N10 ((innerP ds).map Int.ofNat) ?in6 ?out6
    case in6 =>
      have hqs : ((refsOfD qs).size : Int) = (ds.length : Int) := by rw [← hqd, List.length_map]; simp [refsOfD]
      refine IfExp_ ?_
      k_steps
      dsimp only [Halt]
      refine call_len_list (items := refsOfD qs) ⟨_, (N10 _ (.tail _ (.tail _ (.tail _ (.head _))))).1, rfl, _, rfl⟩ (by rw [hqs]; omega) ?_
      rw [hqs]
      clear hqs
      k_steps
      · rename (ds.length : Int) = 5 => h5
        rename News _ _ _ _ => N11
        rename Fr _ _ _ _ => F11
        rename IsRange _ _ _ _ _ _ _ _ => hr11
        dsimp only [Halt]
        refine LCt.CompSrcT.range (n := 6) rfl F11 N11 hr11 rfl rfl (by rw [sizeLine_eq]; decide) ?_
        intro g11
        refine comp_invT (fun i zs nw => nw = _ ∧ IntsAre zs ((((List.range 6).take i).filter fun k => decide (1 < (endsP ds).count k)).map Int.ofNat)) ⟨rfl, .nil⟩ ?turn7 ?fin7
        case turn7 =>
          intro i v nw I oI C oC D m₂ zs h tk E' hi6 hv hJ hC hx F3 N3 off ne
          obtain ⟨rfl, hzs⟩ := hJ
          obtain ⟨t9, rfl⟩ := hv
          rw [Int.zero_add] at hx
          have hik : (List.range 6)[i]? = some i := List.getElem?_range hi6
          k_steps
          rename IntsAre ys _ => hys8
          refine count_list_ints (l := D7) ⟨_, (N3 _ (.tail _ (.tail _ (.tail _ (.head _))))).1, rfl, _, rfl⟩ hys8 ?_
          rw [count_cast]
          k_steps
          · rename 1 < ((endsP ds).count i : Int) => h1
            dsimp only [Halt]
            exact LCg.CompEnd.intro F3 N3 _ (fun p hp => hp) off trivial ⟨rfl, by rw [filt_on hik (decide_eq_true (by omega)), List.map_append]; exact hzs.append (.cons _ _ .nil)⟩
          · rename ¬ 1 < ((endsP ds).count i : Int) => h1
            dsimp only [Halt]
            exact LCg.CompEnd.intro F3 N3 _ (fun p hp => hp) off trivial ⟨rfl, by rw [filt_off hik (decide_eq_false (by omega))]; exact hzs⟩
        case fin7 =>
          intro zs nw hJ
          obtain ⟨rfl, hzs⟩ := hJ
          unfold LCg.FinE
          intro D8 h8 tk8 F8 N8 o8
          refine ⟨D8, zs, _, h8, tk8, rfl, rfl, F8, N8, ?_, off1_mem o8⟩
          unfold innerP
          rw [if_pos (by omega)]
          exact hzs
      · rename ¬ (ds.length : Int) = 5 => h5
        rename News _ _ _ _ => N11
        rename Fr _ _ _ _ => F11
        rename _ < _ ∧ _ => l11
        refine ⟨_, [], 0, _, _, rfl, rfl, F11, N11, ?_, fun p hp => Nat.ne_of_lt ?_⟩
        · unfold innerP
          rw [if_neg (by omega)]
          exact .nil
        · simp only [List.mem_cons] at hp
          rcases hp with rfl | rfl | rfl | rfl | rfl | rfl | rfl | rfl | hp
          · exact l11.1
          · exact l11.2.1
          · exact l11.2.2.1
          · exact l11.2.2.2.1
          · exact l11.2.2.2.2.1
          · exact l11.2.2.2.2.2.1
          · exact l11.2.2.2.2.2.2.1
          · exact l11.2.2.2.2.2.2.2.1
          · exact allLt_mem l11.2.2.2.2.2.2.2.2 p hp
    case out6 =>
      intro D11 vs11 n11 h11 tk11 F11 N11 hI11 hn11
      k_steps
      rename News _ _ _ _ => N12
      rename Fr _ _ _ _ => F12
      rw [mod_cell40] at F12 ⊢
      have hlow : ns.getD 0 0 % 40 < 40 := Nat.mod_lt _ (by decide)
      revert F12 hlow
      generalize ns.getD 0 0 % 40 = low
      intro F12 hlow
      dsimp only [Halt]
      refine wpAny_call (days_ok (ds := res) (low := low) K1 F12 X1 (swap3 N12) T1 rfl rfl rfl (Nat.le_of_ble_eq_true rfl) rfl hlow LO.six hvs5 ?_)
      intro h13 tk13 l13 t13 u13 F13 N13 hl13
      dsimp only
      k_steps
      rename News _ _ _ _ => N14
      rename Fr _ _ _ _ => F14
      dsimp only [Halt]
      refine wpAny_call (pretty_ok K1 F14 X1 N14 T1 rfl rfl rfl (Nat.le_of_ble_eq_true rfl) rfl (flF_lt hlow LO.six) ?_)
      intro h15 tk15 t15 F15 N15
      dsimp only
      k_steps
      rename News _ _ _ _ => N16
      rename Fr _ _ _ _ => F16
      dsimp only [Halt]
      refine wpAny_call (words_ok K1 F16 X1 (swap3 N16) T1 rfl rfl hI11 innerP_lt (innerP_len ds) hlow ?_)
      intro h17 tk17 t17 F17 N17
      rw [← pretty_words hlow LO.sub LO.sup]
      generalize Txt.join (Str.ofString ", ") (prettyP (flF low res)) = X18
      dsimp only
      k_steps
      dsimp only [Halt]
      refine ne_str ?_
      rw [bne_self_eq_false]
      (try clear N12); (try clear F12); (try clear N13); (try clear F13); (try clear N14); (try clear F14); (try clear N15); (try clear F15); (try clear N16); (try clear F16); (try clear N11); (try clear F11); (try clear N10); (try clear F10)
      k_steps
      · rename (_ != _) = true => hbad
        rw [zero_bool LO haf9, bne_self_eq_false] at hbad
        cases hbad
      rename (_ != _) = false => hfine
      clear hfine
      rename News _ _ _ _ => N19
      rename Fr _ _ _ _ => F19
      rename _ < _ ∧ _ => l19
      dsimp only [Halt]
      refine cut_int F19 N19 ((fewP (innerP ds) : Nat) : Int) ?in19 ?out19
      case in19 =>
        have hqs : (vs11.toArray.size : Int) = ((innerP ds).length : Int) := by rw [List.size_toArray, hI11.length, List.length_map]
        have hil := innerP_len ds
        refine IfExp_ ?_
        k_steps
        · rename 0 < _ => hpos
          rw [List.length_map] at hpos
          dsimp only [Halt]
          refine call_len_list (items := vs11.toArray) ⟨_, (N19 _ (.tail _ (.head _))).1, rfl, _, rfl⟩ (by rw [hqs]; omega) ?_
          rw [hqs]
          clear hqs
          k_steps
          have e : (2 * ((innerP ds).length : Int) - 1) = ((fewP (innerP ds) : Nat) : Int) := by
            unfold fewP
            rw [if_neg (fun e => by rw [e] at hpos; exact Nat.lt_irrefl _ hpos)]
            omega
          rw [e]
          exact ⟨_, _, _, rfl, rfl, by assumption, by assumption⟩
        · rename ¬ 0 < _ => hpos
          rw [List.length_map] at hpos
          have e : (12 : Int) = ((fewP (innerP ds) : Nat) : Int) := by
            unfold fewP
            rw [if_pos (List.eq_nil_of_length_eq_zero (by omega))]; rfl
          rw [e]
          exact ⟨_, _, _, rfl, rfl, by assumption, by assumption⟩
      case out19 =>
        intro t20 h20 tk20 F20 N20
        (try clear N19); (try clear F19)
        k_steps
        rename News _ _ _ _ => N21
        rename Fr _ _ _ _ => F21
        rename IntsAre vs11 _ => hI11
        rename IsRange _ _ _ _ _ _ _ _ => hr21
        dsimp only [Halt]
        have hfe := fewP_le (innerP_len ds)
        refine LCg.CompSrc.range (n := fewP (innerP ds)) rfl F21 N21 hr21 (small12 _ (by omega)) (size12 _ (by omega)) (by rw [sizeLine_eq]; omega) ?_
        intro g21
        refine comp_inv (fun i zs nw => nw = _ ∧ StrsAre zs (((List.range i).map (drawn ns)).map digS)) ⟨rfl, .nil⟩ ?turn8 ?fin8
        case turn8 =>
          intro i v nw I oI C oC D m₂ zs h tk E' hi6 hv hJ hC hx F3 N3 off ne
          obtain ⟨rfl, hzs⟩ := hJ
          obtain ⟨t9, rfl⟩ := hv
          rw [Int.zero_add] at hx
          have hi12 : i < 12 := Nat.lt_of_lt_of_le hi6 hfe
          k_steps
          rw [cell_mod, six_pow]
          obtain ⟨c, d, hc9, hd9, hcb, hd1, hd6, hdr⟩ := drawn_parts hnb hi12
          rw [hc9, hd9]
          clear hc9 hd9
          refine floordiv_int (by omega) ?_ (Or.inl (PyProof.noPylong_small (by omega)))
          rw [fdiv_nat]
          k_steps
          dsimp only [Halt]
          rw [fmod6_nat, ← hdr]
          refine op_strk (drawn_lt ns i) ?_
          k_steps
          dsimp only [Halt]
          exact LCg.CompEnd.intro F3 N3 _ (fun p hp => hp) off trivial ⟨rfl, by rw [List.range_succ, List.map_append, List.map_append]; exact hzs.append' (.cons _ _ .nil)⟩
        case fin8 =>
          intro zs nw hJ
          obtain ⟨rfl, hzs⟩ := hJ
          unfold LCg.FinE
          intro D22 h22 tk22 F22 N22 o22
          k_steps
          show wpAny _ _ (call (.builtin "str.join") [.str (Str.ofString "") _, .ref D22]) _ _ _
          refine join_my N22 (.head _) hzs (by decide +kernel) (by rw [digs_len, List.length_map, List.length_range]; omega) ?_
          rw [join_digs]
          intro t23 k23
          k_steps
          rename News _ _ _ _ => N24
          rename Fr _ _ _ _ => F24
          dsimp only [Halt]
          refine wpAny_call (days_ok (ds := (List.range (fewP (innerP ds))).map (drawn ns)) (low := low) K1 F24 X1 (front5 N24) T1 rfl rfl rfl (Nat.le_of_ble_eq_true rfl) rfl hlow (fun x hx => by
            obtain ⟨k, _, rfl⟩ := List.mem_map.mp hx
            exact drawn_lt ns k) hvs5 ?_)
          intro h25 tk25 l25 t25 u25 F25 N25 hl25
          dsimp only
          (try clear N24); (try clear F24); (try clear N22); (try clear F22); (try clear N21); (try clear F21)
          k_steps
          rename News _ _ _ _ => N26
          rename Fr _ _ _ _ => F26
          dsimp only [Halt]
          have hfw := few_ok LO haf9 ns
          refine wpAny_call (iseof_val K1 F26 X1 N26 T1 rfl rfl rfl (Nat.le_of_ble_eq_true rfl) (b := false) (by rw [beq_eq_false_iff_ne]; exact fun e => hfw (Int.ofNat.inj e)) ?_)
          intro h27 tk27 F27 N27
          dsimp only
          (try clear N26); (try clear F26); (try clear N25); (try clear F25)
          k_steps
          rename News _ _ _ _ => N28
          rename Fr _ _ _ _ => F28
          rename IntsAre vs11 _ => hI11
          dsimp only [Halt]
          refine LCg.CompSrc.ledger rfl F28 N28 (.tail _ (.tail _ (.tail _ (.tail _ (.head _))))) (by rw [List.size_toArray, hI11.length, List.length_map, sizeLine_eq]; have := innerP_len ds; omega) ?_
          intro g28
          refine comp_inv (fun i zs nw => nw = _ ∧ IntsAre zs (((innerP ds).take i).map fun k => Txt.count (pathS res) (digS k))) ⟨rfl, .nil⟩ ?turn9 ?fin9
          case turn9 =>
            intro i v nw I oI C oC D m₂ zs h tk E' hi6 hv hJ hC hx F3 N3 off ne
            obtain ⟨rfl, hzs2⟩ := hJ
            obtain ⟨k, t9, hk9, rfl⟩ := int_item hI11 hv
            have hk6 := innerP_lt k (List.mem_of_getElem? hk9)
            k_steps
            dsimp only [Halt]
            refine op_strk hk6 ?_
            k_steps
            dsimp only [Halt]
            exact LCg.CompEnd.intro F3 N3 _ (fun p hp => hp) off (.inr ⟨_, .tail _ (.tail _ (.tail _ (.tail _ (.head _)))), rfl, _, rfl⟩) ⟨rfl, by rw [List.take_add_one, hk9, List.map_append]; exact hzs2.append (.cons _ _ .nil)⟩
          case fin9 =>
            intro zs2 nw hJ
            obtain ⟨rfl, hzs2⟩ := hJ
            rw [List.take_of_length_le (by rw [List.size_toArray, hI11.length, List.length_map]; exact Nat.le_refl _)] at hzs2
            unfold LCg.FinE
            intro D29 h29 tk29 F29 N29 o29
            k_steps
            dsimp only [Halt]
            rw [List.map_congr_left (g := fun _ => (2 : Int)) LO.two] at hzs2
            refine LCg.CompSrc.ledger rfl F29 N29 (.tail _ (.tail _ (.tail _ (.tail _ (.tail _ (.head _)))))) (by rw [List.size_toArray, hI11.length, List.length_map, sizeLine_eq]; have := innerP_len ds; omega) ?_
            intro g30
            refine comp_inv (fun i zs nw => nw = _ ∧ IntsAre zs (((innerP ds).take i).map fun _ => (2 : Int))) ⟨rfl, .nil⟩ ?turn10 ?fin10
            case turn10 =>
              intro i v nw I oI C oC D m₂ zs h tk E' hi6 hv hJ hC hx F3 N3 off ne
              obtain ⟨rfl, hzs3⟩ := hJ
              obtain ⟨k, t9, hk9, rfl⟩ := int_item hI11 hv
              k_steps
              dsimp only [Halt]
              exact LCg.CompEnd.intro F3 N3 _ (fun p hp => hp) off (.inr ⟨_, .tail _ (.tail _ (.tail _ (.tail _ (.tail _ (.head _))))), rfl, _, rfl⟩) ⟨rfl, by rw [List.take_add_one, hk9, List.map_append]; exact hzs3.append (.cons _ _ .nil)⟩
            case fin10 =>
              intro zs3 nw hJ
              obtain ⟨rfl, hzs3⟩ := hJ
              rw [List.take_of_length_le (by rw [List.size_toArray, hI11.length, List.length_map]; exact Nat.le_refl _)] at hzs3
              unfold LCg.FinE
              intro D31 h31 tk31 F31 N31 o31
              (try clear N29); (try clear F29); (try clear N28); (try clear F28); (try clear N27); (try clear F27)
              k_steps
              dsimp only [Halt]
              refine LCt.CompSrcT.ledger rfl F31 N31 (.tail _ (.tail _ (.tail _ (.tail _ (.tail _ (.tail _ (.head _))))))) (by rw [List.size_toArray, hI11.length, List.length_map, sizeLine_eq]; have := innerP_len ds; omega) ?_
              intro g32
              refine comp_invT (fun i zs nw => nw = _ ∧ zs = []) ⟨rfl, rfl⟩ ?turn11 ?fin11
              case turn11 =>
                intro i v nw I oI C oC D m₂ zs h tk E' hi6 hv hJ hC hx F3 N3 off ne
                obtain ⟨rfl, rfl⟩ := hJ
                obtain ⟨k, t9, hk9, rfl⟩ := int_item hI11 hv
                have hk6 := innerP_lt k (List.mem_of_getElem? hk9)
                have hodd := LO.odd k (List.mem_of_getElem? hk9)
                k_steps
                dsimp only [Halt]
                refine op_strk hk6 ?_
                k_steps
                dsimp only [Halt]
                refine op_strk hk6 ?_
                k_steps
                · rename Int.fmod _ 2 = 0 => h0
                  exact absurd h0 hodd
                · dsimp only [Halt]
                  exact LCg.CompEnd.intro F3 N3 _ (fun p hp => hp) off (.inr ⟨_, .tail _ (.tail _ (.tail _ (.tail _ (.tail _ (.tail _ (.head _)))))), rfl, _, rfl⟩) ⟨rfl, rfl⟩
              case fin11 =>
                intro zs4 nw hJ
                obtain ⟨rfl, rfl⟩ := hJ
                unfold LCg.FinE
                intro D33 h33 tk33 F33 N33 o33
                have hI33 : IntsAre [] [] := .nil
                (try clear N31); (try clear F31)
                k_steps
                rename Fr _ _ _ _ => F40
                refine ⟨⟨.bool true, .bool true, [], rfl, fun cls => ?rai, .bool true, ?pst, fun _ => ⟨.nil, fun _ ha => nomatch ha⟩⟩, F40.keep, rfl, hgs6⟩
                case rai => rfl
                case pst =>
                  first | rfl | with_unfolding_all rfl | kernel_rfl
