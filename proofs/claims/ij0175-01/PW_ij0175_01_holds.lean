import PyProof.Rows.All
import Wide.All
import OpenK.AllK
import Wide.FinOn
import PySem.Challenge.RW_ij0175_01
set_option Elab.async false
section
open PySem PySem.W PySem.Calls PyProof.Rows
set_option maxRecDepth 100000
set_option linter.unusedVariables false
namespace MineTop
/-- the program with the rows of its text that the proof looks at -/
def vw : Program := view PySem.Challenge.pw_ij0175_01 [0, 2, 3, 4, 5, 9, 10, 11, 12, 13, 14, 16, 17, 18, 19, 20, 21, 22, 23, 24]
/-- the looks at the law lay the program's quick form -/
theorem said (h : PySem.Challenge.rw_ij0175_01.row.Holds) : PySem.Challenge.rw_ij0175_01.Holds := by
  o_law
  exact h
/-- a tree of objects, from a function -/
def treeF (f : Nat → Obj) (n : Nat) : Nat → Nat → Nat → BT
  | 0, _, _ => .nil
  | k + 1, a, b => match Nat.blt b n with
    | true => .node (f b) (treeF f n k (2 * a) (a + b)) (treeF f n k (2 * a) (2 * a + b))
    | false => .nil
noncomputable def mkS (f : Nat → Obj) (n tk : Nat) (os : OsState) : SharedT := ⟨treeF f n 10 1 0, n, {}, Array.mk [], boot_drawn, tk, os⟩
abbrev q0 : Pos := ⟨0, 0, 0, 0⟩
abbrev qF : Pos := ⟨44, 12, 44, 49⟩
abbrev qB : Pos := ⟨46, 4, 46, 42⟩
abbrev q1 : Pos := ⟨43, 0, 43, 21⟩
abbrev an : Option Value := some (.ref 6)
noncomputable abbrev st0 (P : Params) (os : OsState) : Shared := ⟨boot_heap P, Array.mk [], boot_drawn, boot_toks, os⟩
abbrev envT (p : Program) : Env := { scope := p.main.scope, locals := mainNs, globals := mainNs, cells := [], code := .ref 13, frame := some 14 }
abbrev cT (p : Program) : Code := .body (behindTheImports p) (envT p)
abbrev BT0 : List Frame := [topFrame q0]
def l1 (p : Program) : List Stmt := (behindTheImports p).take 6
def l2 (p : Program) : List Stmt := ((behindTheImports p).drop 6).take 1
def l3 (p : Program) : List Stmt := ((behindTheImports p).drop 6).drop 1
def cLoop (p : Program) : Code := match l2 p with
  | .For t _ b o _ :: _ => .forLoop t (.ref 98) b o (envT p)
  | _ => default
def textOf : Expr → Str
  | .Constant (.str s) _ _ => s
  | _ => default
/-- the rows of the table that the top writes out -/
def disp (p : Program) : List (Str × Str) := match (behindTheImports p).drop 5 with
  | .Assign _ (.Dict ks vs _) _ :: _ => List.zipWith (fun k v => (textOf (k.getD default), textOf v)) ks vs
  | _ => []
def kO (p : Program) (i : Nat) : Str := (((disp p)[i]?).getD default).1
def vO (p : Program) (i : Nat) : Str := (((disp p)[i]?).getD default).2
def tkO (i : Nat) : Nat := bif Nat.blt i 35 then 225 + 3 * i else 327 + 2 * (i - 34)
def strip (s : Str) : Str := ⟨(s.cps.toList.filter fun c => !(Nat.beq c 95)).toArray⟩
def ent (P : Params) (k : Str) (a : Nat) (v : Value) : DictEntry := ⟨PyData.keyHash P k, .str k a, v⟩
def ent0 (P : Params) (p : Program) (i : Nat) : DictEntry := ent P (kO p i) (tkO i) (.str (vO p i) (tkO i + 1))
def ent1 (P : Params) (p : Program) (x : Nat × Nat) : DictEntry := ent P (strip (kO p x.1)) x.2 (.str (vO p x.1) (tkO x.1 + 1))
def news : List (Nat × Nat) := [(34, 434), (35, 441), (31, 448), (16, 455), (17, 462), (18, 469), (19, 476), (20, 483), (21, 490), (22, 497), (23, 504), (24, 511), (25, 518), (26, 525), (27, 532), (28, 539), (29, 546), (30, 553), (37, 572), (38, 579), (39, 586), (15, 605), (32, 630), (36, 643)]
def perm : List Nat := [0, 10, 13, 11, 12, 5, 14, 1, 41, 42, 43, 2, 34, 35, 31, 16, 17, 18, 19, 20, 21, 22, 23, 24, 25, 26, 27, 28, 29, 30, 3, 4, 37, 38, 39, 6, 40, 15, 7, 8, 9, 32, 33, 36]
def alias' (P : Params) (p : Program) (c : Nat) : Obj := ⟨.type "dict", none, .dict ((List.range 44).map (ent0 P p) ++ (news.take c).map (ent1 P p)).toArray (44 + c), Array.mk []⟩
def tup (p : Program) (i : Nat) : Obj := ⟨.type "tuple", none, .seq (Array.mk [.str (kO p i) (tkO i), .str (vO p i) (tkO i + 1)]) 0, Array.mk []⟩
def sorted' : Obj := ⟨.type "list", none, .seq (perm.map fun i => Value.ref (49 + i)).toArray 2, Array.mk []⟩
def iter' (j : Nat) : Obj := ⟨.type "list_iterator", none, .fields (Array.mk [.ref 95, .int (Int.ofNat j) 0]), Array.mk []⟩
noncomputable def ns0 (P : Params) : List DictEntry := match ((boot_heap P).objs.toList.drop 3) with
  | ⟨_, _, .dict es _, _⟩ :: _ => (match es.toList with
    | e :: r => { e with val := .str (Str.ofString "cpy313.locale") 194 } :: r
    | [] => []) ++ [ent P (Str.ofString "_wall") 193 (.ref 21), ent P (Str.ofString "_replace_encoding") 205 (.ref 28), ent P (Str.ofString "_append_modifier") 215 (.ref 35), ent P (Str.ofString "_build_localename") 224 (.ref 42), ent P (Str.ofString "locale_encoding_alias") 357 (.ref 43)]
  | _ => []
noncomputable def ns' (P : Params) (l : List DictEntry) (n : Nat) : Obj := ⟨.type "dict", none, .dict (ns0 P ++ l).toArray n, Array.mk []⟩
noncomputable def nsL (P : Params) (p : Program) (i a : Nat) : Obj := ns' P [ent P (Str.ofString "k") 358 (.str (strip (kO p i)) a), ent P (Str.ofString "v") 359 (.str (vO p i) (tkO i + 1))] 16

-- the states between the parts
noncomputable def X0 (p : Program) (w : World) (os : OsState) : Option (Shared × Thread) := PySem.W.Fast.tw15667345088766844465 PySem.W.Fast.tw14364793385576792824 p w 11 an 12 (st0 w.params os) (topStub p)
noncomputable def fb (x : Option (Shared × Thread)) (i : Nat) : Obj := match x with
  | some (s, _) => (s.heap.objs.toList[i]?).getD default
  | none => default
noncomputable def Sb (p : Program) (w : World) (os : OsState) : SharedT := mkS (fb (X0 p w os)) 15 187 os
noncomputable def X1 (p : Program) (w : World) (os : OsState) : Option (Flow × SharedT × Code × Pos) := PySem.W.Fast.tw10110043849684766642 PySem.W.Fast.tw14364793385576792824 p w 11 an 1 1000 (Sb p w os) (piecesOf (l1 p) (envT p) (cT p) q0 BT0)
noncomputable def objR (x : Option (Flow × SharedT × Code × Pos)) (i : Nat) : Obj := match x with
  | some (_, s, _) => (s.tree.get i).getD default
  | none => default
noncomputable def objG (x : Option (SharedT × Thread)) (i : Nat) : Obj := match x with
  | some (s, _) => (s.tree.get i).getD default
  | none => default
noncomputable def kG (x : Option (SharedT × Thread)) : Result → Sem Fin := match x with
  | some (_, ⟨_, _, _, .ret k _ _ _ _ _ _ :: _⟩) => k
  | _ => fun _ => .raise .none
noncomputable def fB (P : Params) (i : Nat) : Obj := ((boot_heap P).objs.toList[i]?).getD default
noncomputable def f1 (P : Params) (p : Program) (g : Nat → Obj) (i : Nat) : Obj := bif Nat.blt i 11 then (bif Nat.beq i 3 then ns' P [] 14 else fB P i) else bif Nat.beq i 43 then alias' P p 0 else g i
noncomputable def S1 (P : Params) (p : Program) (g : Nat → Obj) (os : OsState) : SharedT := mkS (f1 P p g) 46 358 os
noncomputable def fLow (P : Params) (p : Program) (g : Nat → Obj) (c x a : Nat) (i : Nat) : Obj := bif Nat.blt i 11 then (bif Nat.beq i 3 then nsL P p x a else fB P i) else bif Nat.beq i 43 then alias' P p c else g i
noncomputable def fL (P : Params) (p : Program) (g h : Nat → Obj) (j c x a : Nat) (i : Nat) : Obj :=
  bif Nat.blt i 46 then fLow P p g c x a i else bif Nat.beq i 95 then sorted' else bif Nat.beq i 98 then iter' j else bif Nat.blt i 49 then h i else bif Nat.blt i 93 then tup p (i - 49) else h i
noncomputable def SL (P : Params) (p : Program) (g h : Nat → Obj) (j c x a tk : Nat) (os : OsState) : SharedT := mkS (fL P p g h j c x a) (99 + 3 * j) tk os
noncomputable def TL (p : Program) (k : Result → Sem Fin) : Thread := ⟨PySem.W.Fast.tw11892475500146522536 PySem.W.Fast.tw14364793385576792824 (cLoop p), cLoop p, qB, [.ret k none false [] (cT p) qF [], topFrame q0]⟩
noncomputable def f2 (P : Params) (p : Program) (g h : Nat → Obj) (i : Nat) : Obj := bif Nat.blt i 46 then fLow P p g 24 36 643 i else h i
noncomputable def S2 (P : Params) (p : Program) (g h : Nat → Obj) (os : OsState) : SharedT := mkS (f2 P p g h) 233 646 os

theorem pre (w : World) (os : OsState) : topGo treeTable PySem.Challenge.pw_ij0175_01 w 11 an 12 (st0 w.params os) (topStub PySem.Challenge.pw_ij0175_01) = some ((Sb PySem.Challenge.pw_ij0175_01 w os).abs, ⟨denote treeTable (cT PySem.Challenge.pw_ij0175_01), cT PySem.Challenge.pw_ij0175_01, q0, BT0⟩) := by
  refine byRow2 "special-get-raises" (P := fun w => topGo treeTable PySem.Challenge.pw_ij0175_01 w 11 an 12 (st0 w.params os) (topStub PySem.Challenge.pw_ij0175_01) = some ((Sb PySem.Challenge.pw_ij0175_01 w os).abs, ⟨denote treeTable (cT PySem.Challenge.pw_ij0175_01), cT PySem.Challenge.pw_ij0175_01, q0, BT0⟩)) ?_ ?_ w
  all_goals
    intro w
    rw [PySem.W.Fast.te15667345088766844465, PySem.W.Fast.te14364793385576792824, PySem.W.Fast.te11892475500146522536, PySem.W.Fast.te5175542366172373081]
    kernel_rfl
end MineTop
end
section
open PySem PySem.W PySem.Calls PyProof.Rows
set_option maxRecDepth 100000
set_option linter.unusedVariables false
namespace MineTop
theorem treeF_get {f : Nat → Obj} {n : Nat} : ∀ (k a b i : Nat), 0 < a → i + 1 < 2 ^ k → a * i + b < n → (treeF f n k a b).get i = some (f (a * i + b))
  | 0, a, b, i, _, hk, _ => by simp at hk
  | k + 1, a, b, i, ha, hk, hn => by
    have hb : Nat.blt b n = true := Nat.ble_eq_true_of_le (Nat.lt_of_le_of_lt (Nat.le_add_left b (a * i)) hn)
    unfold treeF
    rw [hb]
    show (BT.node (f b) _ _).get i = _
    rw [BT.get_node]
    rw [Nat.pow_succ] at hk
    by_cases h0 : i = 0
    · subst h0; rw [if_pos rfl, Nat.mul_zero, Nat.zero_add]
    · rw [if_neg h0]
      by_cases hp : i % 2 = 1
      · have e : a * i + b = 2 * a * (i / 2) + (a + b) := by
          have : i = 2 * (i / 2) + 1 := by omega
          generalize i / 2 = j at this
          subst this
          rw [Nat.mul_add, Nat.mul_one, ← Nat.mul_assoc, Nat.mul_comm a 2]; omega
        rw [if_pos hp, treeF_get k (2 * a) (a + b) (i / 2) (by omega) (by omega) (by rw [← e]; exact hn), e]
      · have e : a * i + b = 2 * a * (i / 2 - 1) + (2 * a + b) := by
          have : i = 2 * (i / 2 - 1) + 2 := by omega
          generalize i / 2 - 1 = j at this
          subst this
          rw [Nat.mul_add, ← Nat.mul_assoc, Nat.mul_comm a 2]; omega
        rw [if_neg hp, treeF_get k (2 * a) (2 * a + b) (i / 2 - 1) (by omega) (by omega) (by rw [← e]; exact hn), e]
theorem abs_of {s : SharedT} {f : Nat → Obj} {n tk : Nat} {os : OsState} (e : (s.n, s.life, s.gens, s.drawn, s.toks, s.os) = (n, {}, Array.mk [], boot_drawn, tk, os)) (hn : n < 1022) (h : ∀ i, i < n → (s.tree.get i).getD default = f i) : s.abs = (mkS f n tk os).abs := by
  obtain ⟨T, n', life, gens, drawn, toks, os'⟩ := s
  simp only [Prod.mk.injEq] at e
  obtain ⟨rfl, rfl, rfl, rfl, rfl, rfl⟩ := e
  have : absHeap T n' {} = absHeap (treeF f n' 10 1 0) n' {} := by
    unfold absHeap BT.list
    refine congrArg (fun l => Heap.mk (List.toArray l) _) (List.map_congr_left fun i hi => ?_)
    have hi' : i < n' := List.mem_range.mp hi
    rw [treeF_get 10 1 0 i (by decide) (by omega) (by omega)]
    simpa using h i hi'
  exact congrArg (fun x => Shared.mk x (Array.mk []) boot_drawn toks os') this
abbrev stG (r : SharedT × Thread) := ((r.1.n, r.1.life, r.1.gens, r.1.drawn, r.1.toks, r.1.os), r.2)
abbrev stR (r : Flow × SharedT × Code × Pos) := (r.1, (r.2.1.n, r.2.1.life, r.2.1.gens, r.2.1.drawn, r.2.1.toks, r.2.1.os), r.2.2)
theorem go_abs {X : Option (SharedT × Thread)} {f : Nat → Obj} {n tk : Nat} {os : OsState} {t : Thread} (e : X.map stG = some ((n, {}, Array.mk [], boot_drawn, tk, os), t)) (hn : n < 1022) (h : ∀ i, i < n → objG X i = f i) :
    ∃ s, X = some (s, t) ∧ s.abs = (mkS f n tk os).abs := by
  obtain ⟨⟨s, t'⟩, rfl, e'⟩ := Option.map_eq_some_iff.mp e
  obtain ⟨e1, rfl⟩ := Prod.mk.inj e'
  exact ⟨s, rfl, abs_of e1 hn h⟩
theorem run_abs {X : Option (Flow × SharedT × Code × Pos)} {f : Nat → Obj} {n tk : Nat} {os : OsState} {fl : Flow} {c : Code} {q : Pos} (e : X.map stR = some (fl, (n, {}, Array.mk [], boot_drawn, tk, os), c, q)) (hn : n < 1022) (h : ∀ i, i < n → objR X i = f i) :
    ∃ s, X = some (fl, s, c, q) ∧ s.abs = (mkS f n tk os).abs := by
  obtain ⟨⟨fl', s, cq⟩, rfl, e'⟩ := Option.map_eq_some_iff.mp e
  obtain ⟨rfl, e2⟩ := Prod.mk.inj e'
  obtain ⟨e1, rfl⟩ := Prod.mk.inj e2
  exact ⟨s, rfl, abs_of e1 hn h⟩
def tab (x : Nat → Obj) (a : Nat) : Nat → List Obj
  | 0 => []
  | n + 1 => x (a + n) :: tab x a n
theorem tab_eq {x y : Nat → Obj} {a : Nat} : ∀ {n : Nat}, tab x a n = tab y a n → ∀ i, a ≤ i → i < a + n → x i = y i
  | 0, _, i, h1, h2 => by omega
  | n + 1, e, i, h1, h2 => by
    obtain ⟨e1, e2⟩ := List.cons.inj e
    by_cases h : i = a + n
    · subst h; exact e1
    · exact tab_eq e2 i h1 (by omega)

theorem key1F (w : World) (os : OsState) : (segRunT treeTable PySem.Challenge.pw_ij0175_01 (w.withFollow "special-get-raises" false) 11 an 1 1000 (Sb PySem.Challenge.pw_ij0175_01 (w.withFollow "special-get-raises" false) os) (piecesOf (l1 PySem.Challenge.pw_ij0175_01) (envT PySem.Challenge.pw_ij0175_01) (cT PySem.Challenge.pw_ij0175_01) q0 BT0) = X1 PySem.Challenge.pw_ij0175_01 (w.withFollow "special-get-raises" false) os) ∧ (X1 PySem.Challenge.pw_ij0175_01 (w.withFollow "special-get-raises" false) os).map stR = some (.next, (46, {}, Array.mk [], boot_drawn, 358, os), cT PySem.Challenge.pw_ij0175_01, q1) ∧ [objR (X1 PySem.Challenge.pw_ij0175_01 (w.withFollow "special-get-raises" false) os) 43, objR (X1 PySem.Challenge.pw_ij0175_01 (w.withFollow "special-get-raises" false) os) 10, objR (X1 PySem.Challenge.pw_ij0175_01 (w.withFollow "special-get-raises" false) os) 9, objR (X1 PySem.Challenge.pw_ij0175_01 (w.withFollow "special-get-raises" false) os) 8, objR (X1 PySem.Challenge.pw_ij0175_01 (w.withFollow "special-get-raises" false) os) 7, objR (X1 PySem.Challenge.pw_ij0175_01 (w.withFollow "special-get-raises" false) os) 6, objR (X1 PySem.Challenge.pw_ij0175_01 (w.withFollow "special-get-raises" false) os) 5, objR (X1 PySem.Challenge.pw_ij0175_01 (w.withFollow "special-get-raises" false) os) 4, objR (X1 PySem.Challenge.pw_ij0175_01 (w.withFollow "special-get-raises" false) os) 3, objR (X1 PySem.Challenge.pw_ij0175_01 (w.withFollow "special-get-raises" false) os) 2, objR (X1 PySem.Challenge.pw_ij0175_01 (w.withFollow "special-get-raises" false) os) 1, objR (X1 PySem.Challenge.pw_ij0175_01 (w.withFollow "special-get-raises" false) os) 0] = [alias' (w.withFollow "special-get-raises" false).params PySem.Challenge.pw_ij0175_01 0, fB (w.withFollow "special-get-raises" false).params 10, fB (w.withFollow "special-get-raises" false).params 9, fB (w.withFollow "special-get-raises" false).params 8, fB (w.withFollow "special-get-raises" false).params 7, fB (w.withFollow "special-get-raises" false).params 6, fB (w.withFollow "special-get-raises" false).params 5, fB (w.withFollow "special-get-raises" false).params 4, ns' (w.withFollow "special-get-raises" false).params [] 14, fB (w.withFollow "special-get-raises" false).params 2, fB (w.withFollow "special-get-raises" false).params 1, fB (w.withFollow "special-get-raises" false).params 0] := by
  rw [PySem.W.Fast.te10110043849684766642, PySem.W.Fast.te14364793385576792824, PySem.W.Fast.te5175542366172373081]
  exact ⟨by rfl, by kernel_rfl, by kernel_rfl⟩
theorem key1T (w : World) (os : OsState) : (segRunT treeTable PySem.Challenge.pw_ij0175_01 (w.withFollow "special-get-raises" true) 11 an 1 1000 (Sb PySem.Challenge.pw_ij0175_01 (w.withFollow "special-get-raises" true) os) (piecesOf (l1 PySem.Challenge.pw_ij0175_01) (envT PySem.Challenge.pw_ij0175_01) (cT PySem.Challenge.pw_ij0175_01) q0 BT0) = X1 PySem.Challenge.pw_ij0175_01 (w.withFollow "special-get-raises" true) os) ∧ (X1 PySem.Challenge.pw_ij0175_01 (w.withFollow "special-get-raises" true) os).map stR = some (.next, (46, {}, Array.mk [], boot_drawn, 358, os), cT PySem.Challenge.pw_ij0175_01, q1) ∧ [objR (X1 PySem.Challenge.pw_ij0175_01 (w.withFollow "special-get-raises" true) os) 43, objR (X1 PySem.Challenge.pw_ij0175_01 (w.withFollow "special-get-raises" true) os) 10, objR (X1 PySem.Challenge.pw_ij0175_01 (w.withFollow "special-get-raises" true) os) 9, objR (X1 PySem.Challenge.pw_ij0175_01 (w.withFollow "special-get-raises" true) os) 8, objR (X1 PySem.Challenge.pw_ij0175_01 (w.withFollow "special-get-raises" true) os) 7, objR (X1 PySem.Challenge.pw_ij0175_01 (w.withFollow "special-get-raises" true) os) 6, objR (X1 PySem.Challenge.pw_ij0175_01 (w.withFollow "special-get-raises" true) os) 5, objR (X1 PySem.Challenge.pw_ij0175_01 (w.withFollow "special-get-raises" true) os) 4, objR (X1 PySem.Challenge.pw_ij0175_01 (w.withFollow "special-get-raises" true) os) 3, objR (X1 PySem.Challenge.pw_ij0175_01 (w.withFollow "special-get-raises" true) os) 2, objR (X1 PySem.Challenge.pw_ij0175_01 (w.withFollow "special-get-raises" true) os) 1, objR (X1 PySem.Challenge.pw_ij0175_01 (w.withFollow "special-get-raises" true) os) 0] = [alias' (w.withFollow "special-get-raises" true).params PySem.Challenge.pw_ij0175_01 0, fB (w.withFollow "special-get-raises" true).params 10, fB (w.withFollow "special-get-raises" true).params 9, fB (w.withFollow "special-get-raises" true).params 8, fB (w.withFollow "special-get-raises" true).params 7, fB (w.withFollow "special-get-raises" true).params 6, fB (w.withFollow "special-get-raises" true).params 5, fB (w.withFollow "special-get-raises" true).params 4, ns' (w.withFollow "special-get-raises" true).params [] 14, fB (w.withFollow "special-get-raises" true).params 2, fB (w.withFollow "special-get-raises" true).params 1, fB (w.withFollow "special-get-raises" true).params 0] := by
  rw [PySem.W.Fast.te10110043849684766642, PySem.W.Fast.te14364793385576792824, PySem.W.Fast.te5175542366172373081]
  exact ⟨by rfl, by kernel_rfl, by kernel_rfl⟩
theorem key1 (w : World) (os : OsState) : (segRunT treeTable PySem.Challenge.pw_ij0175_01 w 11 an 1 1000 (Sb PySem.Challenge.pw_ij0175_01 w os) (piecesOf (l1 PySem.Challenge.pw_ij0175_01) (envT PySem.Challenge.pw_ij0175_01) (cT PySem.Challenge.pw_ij0175_01) q0 BT0) = X1 PySem.Challenge.pw_ij0175_01 w os) ∧ (X1 PySem.Challenge.pw_ij0175_01 w os).map stR = some (.next, (46, {}, Array.mk [], boot_drawn, 358, os), cT PySem.Challenge.pw_ij0175_01, q1) ∧ [objR (X1 PySem.Challenge.pw_ij0175_01 w os) 43, objR (X1 PySem.Challenge.pw_ij0175_01 w os) 10, objR (X1 PySem.Challenge.pw_ij0175_01 w os) 9, objR (X1 PySem.Challenge.pw_ij0175_01 w os) 8, objR (X1 PySem.Challenge.pw_ij0175_01 w os) 7, objR (X1 PySem.Challenge.pw_ij0175_01 w os) 6, objR (X1 PySem.Challenge.pw_ij0175_01 w os) 5, objR (X1 PySem.Challenge.pw_ij0175_01 w os) 4, objR (X1 PySem.Challenge.pw_ij0175_01 w os) 3, objR (X1 PySem.Challenge.pw_ij0175_01 w os) 2, objR (X1 PySem.Challenge.pw_ij0175_01 w os) 1, objR (X1 PySem.Challenge.pw_ij0175_01 w os) 0] = [alias' w.params PySem.Challenge.pw_ij0175_01 0, fB w.params 10, fB w.params 9, fB w.params 8, fB w.params 7, fB w.params 6, fB w.params 5, fB w.params 4, ns' w.params [] 14, fB w.params 2, fB w.params 1, fB w.params 0] :=
  byRow2 "special-get-raises" (P := fun w => ∀ (os : OsState), (segRunT treeTable PySem.Challenge.pw_ij0175_01 w 11 an 1 1000 (Sb PySem.Challenge.pw_ij0175_01 w os) (piecesOf (l1 PySem.Challenge.pw_ij0175_01) (envT PySem.Challenge.pw_ij0175_01) (cT PySem.Challenge.pw_ij0175_01) q0 BT0) = X1 PySem.Challenge.pw_ij0175_01 w os) ∧ (X1 PySem.Challenge.pw_ij0175_01 w os).map stR = some (.next, (46, {}, Array.mk [], boot_drawn, 358, os), cT PySem.Challenge.pw_ij0175_01, q1) ∧ [objR (X1 PySem.Challenge.pw_ij0175_01 w os) 43, objR (X1 PySem.Challenge.pw_ij0175_01 w os) 10, objR (X1 PySem.Challenge.pw_ij0175_01 w os) 9, objR (X1 PySem.Challenge.pw_ij0175_01 w os) 8, objR (X1 PySem.Challenge.pw_ij0175_01 w os) 7, objR (X1 PySem.Challenge.pw_ij0175_01 w os) 6, objR (X1 PySem.Challenge.pw_ij0175_01 w os) 5, objR (X1 PySem.Challenge.pw_ij0175_01 w os) 4, objR (X1 PySem.Challenge.pw_ij0175_01 w os) 3, objR (X1 PySem.Challenge.pw_ij0175_01 w os) 2, objR (X1 PySem.Challenge.pw_ij0175_01 w os) 1, objR (X1 PySem.Challenge.pw_ij0175_01 w os) 0] = [alias' w.params PySem.Challenge.pw_ij0175_01 0, fB w.params 10, fB w.params 9, fB w.params 8, fB w.params 7, fB w.params 6, fB w.params 5, fB w.params 4, ns' w.params [] 14, fB w.params 2, fB w.params 1, fB w.params 0]) (fun w os => key1F w os) (fun w os => key1T w os) w os

theorem part1 (w : World) (os : OsState) : ∃ s, segRunT treeTable PySem.Challenge.pw_ij0175_01 w 11 an 1 1000 (Sb PySem.Challenge.pw_ij0175_01 w os) (piecesOf (l1 PySem.Challenge.pw_ij0175_01) (envT PySem.Challenge.pw_ij0175_01) (cT PySem.Challenge.pw_ij0175_01) q0 BT0) = some (.next, s, cT PySem.Challenge.pw_ij0175_01, q1) ∧ s.abs = (S1 w.params PySem.Challenge.pw_ij0175_01 (objR (X1 PySem.Challenge.pw_ij0175_01 w os)) os).abs := by
  obtain ⟨e, k1, k2⟩ := key1 w os
  obtain ⟨k5, k3⟩ := List.cons.inj k2
  have k4 : tab (objR (X1 PySem.Challenge.pw_ij0175_01 w os)) 0 11 = tab (fun i => bif Nat.beq i 3 then ns' w.params [] 14 else fB w.params i) 0 11 := k3
  rw [e]
  refine run_abs (f := f1 w.params PySem.Challenge.pw_ij0175_01 (objR (X1 PySem.Challenge.pw_ij0175_01 w os))) k1 (by decide) fun i hi => ?_
  unfold f1
  cases a : Nat.blt i 11 with
  | true => exact tab_eq k4 i (Nat.zero_le _) (by have := Nat.le_of_ble_eq_true a; omega)
  | false =>
    cases b : Nat.beq i 43 with
    | true => obtain rfl := Nat.eq_of_beq_eq_true b; exact k5
    | false => rfl
end MineTop
end
section
open PySem PySem.W PySem.Calls PyProof.Rows
set_option maxRecDepth 100000
set_option linter.unusedVariables false
namespace MineTop
theorem fL_is {X : Option (SharedT × Thread)} {P : Params} {p : Program} {g : Nat → Obj} {j c x a : Nat} (e1 : tab (objG X) 0 46 = tab (fLow P p g c x a) 0 46) (e2 : tab (objG X) 49 44 = tab (fun i => tup p (i - 49)) 49 44) (e3 : [objG X 95, objG X 98] = [sorted', iter' j]) (i : Nat) :
    objG X i = fL P p g (objG X) j c x a i := by
  obtain ⟨e4, e5⟩ := List.cons.inj e3
  have e6 := (List.cons.inj e5).1
  unfold fL
  cases h1 : Nat.blt i 46 with
  | true => exact tab_eq e1 i (Nat.zero_le _) (by have := Nat.le_of_ble_eq_true h1; omega)
  | false =>
    cases h2 : Nat.beq i 95 with
    | true => obtain rfl := Nat.eq_of_beq_eq_true h2; exact e4
    | false =>
      cases h3 : Nat.beq i 98 with
      | true => obtain rfl := Nat.eq_of_beq_eq_true h3; exact e6
      | false =>
        cases h4 : Nat.blt i 49 with
        | true => rfl
        | false =>
          cases h5 : Nat.blt i 93 with
          | true =>
            have a1 := Nat.le_of_ble_eq_true h5
            have a2 : ¬ i + 1 ≤ 49 := fun q => by rw [show Nat.blt i 49 = true from Nat.ble_eq_true_of_le q] at h4; cases h4
            exact tab_eq e2 i (by omega) (by omega)
          | false => rfl
noncomputable def X2 (p : Program) (w : World) (g : Nat → Obj) (os : OsState) : Option (SharedT × Thread) := PySem.W.Fast.tw10295753902157049106 PySem.W.Fast.tw14364793385576792824 p w 11 an 1 3168 (S1 w.params p g os) (piecesOf (l2 p) (envT p) (cT p) q1 BT0)
theorem key2F (w : World) (os : OsState) (g : Nat → Obj) : (segGoT treeTable PySem.Challenge.pw_ij0175_01 (w.withFollow "special-get-raises" false) 11 an 1 3168 (S1 (w.withFollow "special-get-raises" false).params PySem.Challenge.pw_ij0175_01 g os) (piecesOf (l2 PySem.Challenge.pw_ij0175_01) (envT PySem.Challenge.pw_ij0175_01) (cT PySem.Challenge.pw_ij0175_01) q1 BT0) = X2 PySem.Challenge.pw_ij0175_01 (w.withFollow "special-get-raises" false) g os) ∧ (X2 PySem.Challenge.pw_ij0175_01 (w.withFollow "special-get-raises" false) g os).map stG = some ((102, {}, Array.mk [], boot_drawn, 364, os), TL PySem.Challenge.pw_ij0175_01 (kG (X2 PySem.Challenge.pw_ij0175_01 (w.withFollow "special-get-raises" false) g os))) ∧ kG (X2 PySem.Challenge.pw_ij0175_01 (w.withFollow "special-get-raises" false) g os) (.ok .next) = .pure (.done .next) ∧ [objG (X2 PySem.Challenge.pw_ij0175_01 (w.withFollow "special-get-raises" false) g os) 45, objG (X2 PySem.Challenge.pw_ij0175_01 (w.withFollow "special-get-raises" false) g os) 44, objG (X2 PySem.Challenge.pw_ij0175_01 (w.withFollow "special-get-raises" false) g os) 43, objG (X2 PySem.Challenge.pw_ij0175_01 (w.withFollow "special-get-raises" false) g os) 42, objG (X2 PySem.Challenge.pw_ij0175_01 (w.withFollow "special-get-raises" false) g os) 41, objG (X2 PySem.Challenge.pw_ij0175_01 (w.withFollow "special-get-raises" false) g os) 40, objG (X2 PySem.Challenge.pw_ij0175_01 (w.withFollow "special-get-raises" false) g os) 39, objG (X2 PySem.Challenge.pw_ij0175_01 (w.withFollow "special-get-raises" false) g os) 38, objG (X2 PySem.Challenge.pw_ij0175_01 (w.withFollow "special-get-raises" false) g os) 37, objG (X2 PySem.Challenge.pw_ij0175_01 (w.withFollow "special-get-raises" false) g os) 36, objG (X2 PySem.Challenge.pw_ij0175_01 (w.withFollow "special-get-raises" false) g os) 35, objG (X2 PySem.Challenge.pw_ij0175_01 (w.withFollow "special-get-raises" false) g os) 34, objG (X2 PySem.Challenge.pw_ij0175_01 (w.withFollow "special-get-raises" false) g os) 33, objG (X2 PySem.Challenge.pw_ij0175_01 (w.withFollow "special-get-raises" false) g os) 32, objG (X2 PySem.Challenge.pw_ij0175_01 (w.withFollow "special-get-raises" false) g os) 31, objG (X2 PySem.Challenge.pw_ij0175_01 (w.withFollow "special-get-raises" false) g os) 30, objG (X2 PySem.Challenge.pw_ij0175_01 (w.withFollow "special-get-raises" false) g os) 29, objG (X2 PySem.Challenge.pw_ij0175_01 (w.withFollow "special-get-raises" false) g os) 28, objG (X2 PySem.Challenge.pw_ij0175_01 (w.withFollow "special-get-raises" false) g os) 27, objG (X2 PySem.Challenge.pw_ij0175_01 (w.withFollow "special-get-raises" false) g os) 26, objG (X2 PySem.Challenge.pw_ij0175_01 (w.withFollow "special-get-raises" false) g os) 25, objG (X2 PySem.Challenge.pw_ij0175_01 (w.withFollow "special-get-raises" false) g os) 24, objG (X2 PySem.Challenge.pw_ij0175_01 (w.withFollow "special-get-raises" false) g os) 23, objG (X2 PySem.Challenge.pw_ij0175_01 (w.withFollow "special-get-raises" false) g os) 22, objG (X2 PySem.Challenge.pw_ij0175_01 (w.withFollow "special-get-raises" false) g os) 21, objG (X2 PySem.Challenge.pw_ij0175_01 (w.withFollow "special-get-raises" false) g os) 20, objG (X2 PySem.Challenge.pw_ij0175_01 (w.withFollow "special-get-raises" false) g os) 19, objG (X2 PySem.Challenge.pw_ij0175_01 (w.withFollow "special-get-raises" false) g os) 18, objG (X2 PySem.Challenge.pw_ij0175_01 (w.withFollow "special-get-raises" false) g os) 17, objG (X2 PySem.Challenge.pw_ij0175_01 (w.withFollow "special-get-raises" false) g os) 16, objG (X2 PySem.Challenge.pw_ij0175_01 (w.withFollow "special-get-raises" false) g os) 15, objG (X2 PySem.Challenge.pw_ij0175_01 (w.withFollow "special-get-raises" false) g os) 14, objG (X2 PySem.Challenge.pw_ij0175_01 (w.withFollow "special-get-raises" false) g os) 13, objG (X2 PySem.Challenge.pw_ij0175_01 (w.withFollow "special-get-raises" false) g os) 12, objG (X2 PySem.Challenge.pw_ij0175_01 (w.withFollow "special-get-raises" false) g os) 11, objG (X2 PySem.Challenge.pw_ij0175_01 (w.withFollow "special-get-raises" false) g os) 10, objG (X2 PySem.Challenge.pw_ij0175_01 (w.withFollow "special-get-raises" false) g os) 9, objG (X2 PySem.Challenge.pw_ij0175_01 (w.withFollow "special-get-raises" false) g os) 8, objG (X2 PySem.Challenge.pw_ij0175_01 (w.withFollow "special-get-raises" false) g os) 7, objG (X2 PySem.Challenge.pw_ij0175_01 (w.withFollow "special-get-raises" false) g os) 6, objG (X2 PySem.Challenge.pw_ij0175_01 (w.withFollow "special-get-raises" false) g os) 5, objG (X2 PySem.Challenge.pw_ij0175_01 (w.withFollow "special-get-raises" false) g os) 4, objG (X2 PySem.Challenge.pw_ij0175_01 (w.withFollow "special-get-raises" false) g os) 3, objG (X2 PySem.Challenge.pw_ij0175_01 (w.withFollow "special-get-raises" false) g os) 2, objG (X2 PySem.Challenge.pw_ij0175_01 (w.withFollow "special-get-raises" false) g os) 1, objG (X2 PySem.Challenge.pw_ij0175_01 (w.withFollow "special-get-raises" false) g os) 0] = [g 45, g 44, alias' (w.withFollow "special-get-raises" false).params PySem.Challenge.pw_ij0175_01 0, g 42, g 41, g 40, g 39, g 38, g 37, g 36, g 35, g 34, g 33, g 32, g 31, g 30, g 29, g 28, g 27, g 26, g 25, g 24, g 23, g 22, g 21, g 20, g 19, g 18, g 17, g 16, g 15, g 14, g 13, g 12, g 11, fB (w.withFollow "special-get-raises" false).params 10, fB (w.withFollow "special-get-raises" false).params 9, fB (w.withFollow "special-get-raises" false).params 8, fB (w.withFollow "special-get-raises" false).params 7, fB (w.withFollow "special-get-raises" false).params 6, fB (w.withFollow "special-get-raises" false).params 5, fB (w.withFollow "special-get-raises" false).params 4, nsL (w.withFollow "special-get-raises" false).params PySem.Challenge.pw_ij0175_01 0 225, fB (w.withFollow "special-get-raises" false).params 2, fB (w.withFollow "special-get-raises" false).params 1, fB (w.withFollow "special-get-raises" false).params 0] ∧ [objG (X2 PySem.Challenge.pw_ij0175_01 (w.withFollow "special-get-raises" false) g os) 92, objG (X2 PySem.Challenge.pw_ij0175_01 (w.withFollow "special-get-raises" false) g os) 91, objG (X2 PySem.Challenge.pw_ij0175_01 (w.withFollow "special-get-raises" false) g os) 90, objG (X2 PySem.Challenge.pw_ij0175_01 (w.withFollow "special-get-raises" false) g os) 89, objG (X2 PySem.Challenge.pw_ij0175_01 (w.withFollow "special-get-raises" false) g os) 88, objG (X2 PySem.Challenge.pw_ij0175_01 (w.withFollow "special-get-raises" false) g os) 87, objG (X2 PySem.Challenge.pw_ij0175_01 (w.withFollow "special-get-raises" false) g os) 86, objG (X2 PySem.Challenge.pw_ij0175_01 (w.withFollow "special-get-raises" false) g os) 85, objG (X2 PySem.Challenge.pw_ij0175_01 (w.withFollow "special-get-raises" false) g os) 84, objG (X2 PySem.Challenge.pw_ij0175_01 (w.withFollow "special-get-raises" false) g os) 83, objG (X2 PySem.Challenge.pw_ij0175_01 (w.withFollow "special-get-raises" false) g os) 82, objG (X2 PySem.Challenge.pw_ij0175_01 (w.withFollow "special-get-raises" false) g os) 81, objG (X2 PySem.Challenge.pw_ij0175_01 (w.withFollow "special-get-raises" false) g os) 80, objG (X2 PySem.Challenge.pw_ij0175_01 (w.withFollow "special-get-raises" false) g os) 79, objG (X2 PySem.Challenge.pw_ij0175_01 (w.withFollow "special-get-raises" false) g os) 78, objG (X2 PySem.Challenge.pw_ij0175_01 (w.withFollow "special-get-raises" false) g os) 77, objG (X2 PySem.Challenge.pw_ij0175_01 (w.withFollow "special-get-raises" false) g os) 76, objG (X2 PySem.Challenge.pw_ij0175_01 (w.withFollow "special-get-raises" false) g os) 75, objG (X2 PySem.Challenge.pw_ij0175_01 (w.withFollow "special-get-raises" false) g os) 74, objG (X2 PySem.Challenge.pw_ij0175_01 (w.withFollow "special-get-raises" false) g os) 73, objG (X2 PySem.Challenge.pw_ij0175_01 (w.withFollow "special-get-raises" false) g os) 72, objG (X2 PySem.Challenge.pw_ij0175_01 (w.withFollow "special-get-raises" false) g os) 71, objG (X2 PySem.Challenge.pw_ij0175_01 (w.withFollow "special-get-raises" false) g os) 70, objG (X2 PySem.Challenge.pw_ij0175_01 (w.withFollow "special-get-raises" false) g os) 69, objG (X2 PySem.Challenge.pw_ij0175_01 (w.withFollow "special-get-raises" false) g os) 68, objG (X2 PySem.Challenge.pw_ij0175_01 (w.withFollow "special-get-raises" false) g os) 67, objG (X2 PySem.Challenge.pw_ij0175_01 (w.withFollow "special-get-raises" false) g os) 66, objG (X2 PySem.Challenge.pw_ij0175_01 (w.withFollow "special-get-raises" false) g os) 65, objG (X2 PySem.Challenge.pw_ij0175_01 (w.withFollow "special-get-raises" false) g os) 64, objG (X2 PySem.Challenge.pw_ij0175_01 (w.withFollow "special-get-raises" false) g os) 63, objG (X2 PySem.Challenge.pw_ij0175_01 (w.withFollow "special-get-raises" false) g os) 62, objG (X2 PySem.Challenge.pw_ij0175_01 (w.withFollow "special-get-raises" false) g os) 61, objG (X2 PySem.Challenge.pw_ij0175_01 (w.withFollow "special-get-raises" false) g os) 60, objG (X2 PySem.Challenge.pw_ij0175_01 (w.withFollow "special-get-raises" false) g os) 59, objG (X2 PySem.Challenge.pw_ij0175_01 (w.withFollow "special-get-raises" false) g os) 58, objG (X2 PySem.Challenge.pw_ij0175_01 (w.withFollow "special-get-raises" false) g os) 57, objG (X2 PySem.Challenge.pw_ij0175_01 (w.withFollow "special-get-raises" false) g os) 56, objG (X2 PySem.Challenge.pw_ij0175_01 (w.withFollow "special-get-raises" false) g os) 55, objG (X2 PySem.Challenge.pw_ij0175_01 (w.withFollow "special-get-raises" false) g os) 54, objG (X2 PySem.Challenge.pw_ij0175_01 (w.withFollow "special-get-raises" false) g os) 53, objG (X2 PySem.Challenge.pw_ij0175_01 (w.withFollow "special-get-raises" false) g os) 52, objG (X2 PySem.Challenge.pw_ij0175_01 (w.withFollow "special-get-raises" false) g os) 51, objG (X2 PySem.Challenge.pw_ij0175_01 (w.withFollow "special-get-raises" false) g os) 50, objG (X2 PySem.Challenge.pw_ij0175_01 (w.withFollow "special-get-raises" false) g os) 49] = [tup PySem.Challenge.pw_ij0175_01 43, tup PySem.Challenge.pw_ij0175_01 42, tup PySem.Challenge.pw_ij0175_01 41, tup PySem.Challenge.pw_ij0175_01 40, tup PySem.Challenge.pw_ij0175_01 39, tup PySem.Challenge.pw_ij0175_01 38, tup PySem.Challenge.pw_ij0175_01 37, tup PySem.Challenge.pw_ij0175_01 36, tup PySem.Challenge.pw_ij0175_01 35, tup PySem.Challenge.pw_ij0175_01 34, tup PySem.Challenge.pw_ij0175_01 33, tup PySem.Challenge.pw_ij0175_01 32, tup PySem.Challenge.pw_ij0175_01 31, tup PySem.Challenge.pw_ij0175_01 30, tup PySem.Challenge.pw_ij0175_01 29, tup PySem.Challenge.pw_ij0175_01 28, tup PySem.Challenge.pw_ij0175_01 27, tup PySem.Challenge.pw_ij0175_01 26, tup PySem.Challenge.pw_ij0175_01 25, tup PySem.Challenge.pw_ij0175_01 24, tup PySem.Challenge.pw_ij0175_01 23, tup PySem.Challenge.pw_ij0175_01 22, tup PySem.Challenge.pw_ij0175_01 21, tup PySem.Challenge.pw_ij0175_01 20, tup PySem.Challenge.pw_ij0175_01 19, tup PySem.Challenge.pw_ij0175_01 18, tup PySem.Challenge.pw_ij0175_01 17, tup PySem.Challenge.pw_ij0175_01 16, tup PySem.Challenge.pw_ij0175_01 15, tup PySem.Challenge.pw_ij0175_01 14, tup PySem.Challenge.pw_ij0175_01 13, tup PySem.Challenge.pw_ij0175_01 12, tup PySem.Challenge.pw_ij0175_01 11, tup PySem.Challenge.pw_ij0175_01 10, tup PySem.Challenge.pw_ij0175_01 9, tup PySem.Challenge.pw_ij0175_01 8, tup PySem.Challenge.pw_ij0175_01 7, tup PySem.Challenge.pw_ij0175_01 6, tup PySem.Challenge.pw_ij0175_01 5, tup PySem.Challenge.pw_ij0175_01 4, tup PySem.Challenge.pw_ij0175_01 3, tup PySem.Challenge.pw_ij0175_01 2, tup PySem.Challenge.pw_ij0175_01 1, tup PySem.Challenge.pw_ij0175_01 0] ∧ [objG (X2 PySem.Challenge.pw_ij0175_01 (w.withFollow "special-get-raises" false) g os) 95, objG (X2 PySem.Challenge.pw_ij0175_01 (w.withFollow "special-get-raises" false) g os) 98] = [sorted', iter' 1] := by
  rw [PySem.W.Fast.te10295753902157049106, PySem.W.Fast.te14364793385576792824, PySem.W.Fast.te5175542366172373081]
  exact ⟨by rfl, by kernel_rfl, by kernel_rfl, by kernel_rfl, by kernel_rfl, by kernel_rfl⟩
theorem key2T (w : World) (os : OsState) (g : Nat → Obj) : (segGoT treeTable PySem.Challenge.pw_ij0175_01 (w.withFollow "special-get-raises" true) 11 an 1 3168 (S1 (w.withFollow "special-get-raises" true).params PySem.Challenge.pw_ij0175_01 g os) (piecesOf (l2 PySem.Challenge.pw_ij0175_01) (envT PySem.Challenge.pw_ij0175_01) (cT PySem.Challenge.pw_ij0175_01) q1 BT0) = X2 PySem.Challenge.pw_ij0175_01 (w.withFollow "special-get-raises" true) g os) ∧ (X2 PySem.Challenge.pw_ij0175_01 (w.withFollow "special-get-raises" true) g os).map stG = some ((102, {}, Array.mk [], boot_drawn, 364, os), TL PySem.Challenge.pw_ij0175_01 (kG (X2 PySem.Challenge.pw_ij0175_01 (w.withFollow "special-get-raises" true) g os))) ∧ kG (X2 PySem.Challenge.pw_ij0175_01 (w.withFollow "special-get-raises" true) g os) (.ok .next) = .pure (.done .next) ∧ [objG (X2 PySem.Challenge.pw_ij0175_01 (w.withFollow "special-get-raises" true) g os) 45, objG (X2 PySem.Challenge.pw_ij0175_01 (w.withFollow "special-get-raises" true) g os) 44, objG (X2 PySem.Challenge.pw_ij0175_01 (w.withFollow "special-get-raises" true) g os) 43, objG (X2 PySem.Challenge.pw_ij0175_01 (w.withFollow "special-get-raises" true) g os) 42, objG (X2 PySem.Challenge.pw_ij0175_01 (w.withFollow "special-get-raises" true) g os) 41, objG (X2 PySem.Challenge.pw_ij0175_01 (w.withFollow "special-get-raises" true) g os) 40, objG (X2 PySem.Challenge.pw_ij0175_01 (w.withFollow "special-get-raises" true) g os) 39, objG (X2 PySem.Challenge.pw_ij0175_01 (w.withFollow "special-get-raises" true) g os) 38, objG (X2 PySem.Challenge.pw_ij0175_01 (w.withFollow "special-get-raises" true) g os) 37, objG (X2 PySem.Challenge.pw_ij0175_01 (w.withFollow "special-get-raises" true) g os) 36, objG (X2 PySem.Challenge.pw_ij0175_01 (w.withFollow "special-get-raises" true) g os) 35, objG (X2 PySem.Challenge.pw_ij0175_01 (w.withFollow "special-get-raises" true) g os) 34, objG (X2 PySem.Challenge.pw_ij0175_01 (w.withFollow "special-get-raises" true) g os) 33, objG (X2 PySem.Challenge.pw_ij0175_01 (w.withFollow "special-get-raises" true) g os) 32, objG (X2 PySem.Challenge.pw_ij0175_01 (w.withFollow "special-get-raises" true) g os) 31, objG (X2 PySem.Challenge.pw_ij0175_01 (w.withFollow "special-get-raises" true) g os) 30, objG (X2 PySem.Challenge.pw_ij0175_01 (w.withFollow "special-get-raises" true) g os) 29, objG (X2 PySem.Challenge.pw_ij0175_01 (w.withFollow "special-get-raises" true) g os) 28, objG (X2 PySem.Challenge.pw_ij0175_01 (w.withFollow "special-get-raises" true) g os) 27, objG (X2 PySem.Challenge.pw_ij0175_01 (w.withFollow "special-get-raises" true) g os) 26, objG (X2 PySem.Challenge.pw_ij0175_01 (w.withFollow "special-get-raises" true) g os) 25, objG (X2 PySem.Challenge.pw_ij0175_01 (w.withFollow "special-get-raises" true) g os) 24, objG (X2 PySem.Challenge.pw_ij0175_01 (w.withFollow "special-get-raises" true) g os) 23, objG (X2 PySem.Challenge.pw_ij0175_01 (w.withFollow "special-get-raises" true) g os) 22, objG (X2 PySem.Challenge.pw_ij0175_01 (w.withFollow "special-get-raises" true) g os) 21, objG (X2 PySem.Challenge.pw_ij0175_01 (w.withFollow "special-get-raises" true) g os) 20, objG (X2 PySem.Challenge.pw_ij0175_01 (w.withFollow "special-get-raises" true) g os) 19, objG (X2 PySem.Challenge.pw_ij0175_01 (w.withFollow "special-get-raises" true) g os) 18, objG (X2 PySem.Challenge.pw_ij0175_01 (w.withFollow "special-get-raises" true) g os) 17, objG (X2 PySem.Challenge.pw_ij0175_01 (w.withFollow "special-get-raises" true) g os) 16, objG (X2 PySem.Challenge.pw_ij0175_01 (w.withFollow "special-get-raises" true) g os) 15, objG (X2 PySem.Challenge.pw_ij0175_01 (w.withFollow "special-get-raises" true) g os) 14, objG (X2 PySem.Challenge.pw_ij0175_01 (w.withFollow "special-get-raises" true) g os) 13, objG (X2 PySem.Challenge.pw_ij0175_01 (w.withFollow "special-get-raises" true) g os) 12, objG (X2 PySem.Challenge.pw_ij0175_01 (w.withFollow "special-get-raises" true) g os) 11, objG (X2 PySem.Challenge.pw_ij0175_01 (w.withFollow "special-get-raises" true) g os) 10, objG (X2 PySem.Challenge.pw_ij0175_01 (w.withFollow "special-get-raises" true) g os) 9, objG (X2 PySem.Challenge.pw_ij0175_01 (w.withFollow "special-get-raises" true) g os) 8, objG (X2 PySem.Challenge.pw_ij0175_01 (w.withFollow "special-get-raises" true) g os) 7, objG (X2 PySem.Challenge.pw_ij0175_01 (w.withFollow "special-get-raises" true) g os) 6, objG (X2 PySem.Challenge.pw_ij0175_01 (w.withFollow "special-get-raises" true) g os) 5, objG (X2 PySem.Challenge.pw_ij0175_01 (w.withFollow "special-get-raises" true) g os) 4, objG (X2 PySem.Challenge.pw_ij0175_01 (w.withFollow "special-get-raises" true) g os) 3, objG (X2 PySem.Challenge.pw_ij0175_01 (w.withFollow "special-get-raises" true) g os) 2, objG (X2 PySem.Challenge.pw_ij0175_01 (w.withFollow "special-get-raises" true) g os) 1, objG (X2 PySem.Challenge.pw_ij0175_01 (w.withFollow "special-get-raises" true) g os) 0] = [g 45, g 44, alias' (w.withFollow "special-get-raises" true).params PySem.Challenge.pw_ij0175_01 0, g 42, g 41, g 40, g 39, g 38, g 37, g 36, g 35, g 34, g 33, g 32, g 31, g 30, g 29, g 28, g 27, g 26, g 25, g 24, g 23, g 22, g 21, g 20, g 19, g 18, g 17, g 16, g 15, g 14, g 13, g 12, g 11, fB (w.withFollow "special-get-raises" true).params 10, fB (w.withFollow "special-get-raises" true).params 9, fB (w.withFollow "special-get-raises" true).params 8, fB (w.withFollow "special-get-raises" true).params 7, fB (w.withFollow "special-get-raises" true).params 6, fB (w.withFollow "special-get-raises" true).params 5, fB (w.withFollow "special-get-raises" true).params 4, nsL (w.withFollow "special-get-raises" true).params PySem.Challenge.pw_ij0175_01 0 225, fB (w.withFollow "special-get-raises" true).params 2, fB (w.withFollow "special-get-raises" true).params 1, fB (w.withFollow "special-get-raises" true).params 0] ∧ [objG (X2 PySem.Challenge.pw_ij0175_01 (w.withFollow "special-get-raises" true) g os) 92, objG (X2 PySem.Challenge.pw_ij0175_01 (w.withFollow "special-get-raises" true) g os) 91, objG (X2 PySem.Challenge.pw_ij0175_01 (w.withFollow "special-get-raises" true) g os) 90, objG (X2 PySem.Challenge.pw_ij0175_01 (w.withFollow "special-get-raises" true) g os) 89, objG (X2 PySem.Challenge.pw_ij0175_01 (w.withFollow "special-get-raises" true) g os) 88, objG (X2 PySem.Challenge.pw_ij0175_01 (w.withFollow "special-get-raises" true) g os) 87, objG (X2 PySem.Challenge.pw_ij0175_01 (w.withFollow "special-get-raises" true) g os) 86, objG (X2 PySem.Challenge.pw_ij0175_01 (w.withFollow "special-get-raises" true) g os) 85, objG (X2 PySem.Challenge.pw_ij0175_01 (w.withFollow "special-get-raises" true) g os) 84, objG (X2 PySem.Challenge.pw_ij0175_01 (w.withFollow "special-get-raises" true) g os) 83, objG (X2 PySem.Challenge.pw_ij0175_01 (w.withFollow "special-get-raises" true) g os) 82, objG (X2 PySem.Challenge.pw_ij0175_01 (w.withFollow "special-get-raises" true) g os) 81, objG (X2 PySem.Challenge.pw_ij0175_01 (w.withFollow "special-get-raises" true) g os) 80, objG (X2 PySem.Challenge.pw_ij0175_01 (w.withFollow "special-get-raises" true) g os) 79, objG (X2 PySem.Challenge.pw_ij0175_01 (w.withFollow "special-get-raises" true) g os) 78, objG (X2 PySem.Challenge.pw_ij0175_01 (w.withFollow "special-get-raises" true) g os) 77, objG (X2 PySem.Challenge.pw_ij0175_01 (w.withFollow "special-get-raises" true) g os) 76, objG (X2 PySem.Challenge.pw_ij0175_01 (w.withFollow "special-get-raises" true) g os) 75, objG (X2 PySem.Challenge.pw_ij0175_01 (w.withFollow "special-get-raises" true) g os) 74, objG (X2 PySem.Challenge.pw_ij0175_01 (w.withFollow "special-get-raises" true) g os) 73, objG (X2 PySem.Challenge.pw_ij0175_01 (w.withFollow "special-get-raises" true) g os) 72, objG (X2 PySem.Challenge.pw_ij0175_01 (w.withFollow "special-get-raises" true) g os) 71, objG (X2 PySem.Challenge.pw_ij0175_01 (w.withFollow "special-get-raises" true) g os) 70, objG (X2 PySem.Challenge.pw_ij0175_01 (w.withFollow "special-get-raises" true) g os) 69, objG (X2 PySem.Challenge.pw_ij0175_01 (w.withFollow "special-get-raises" true) g os) 68, objG (X2 PySem.Challenge.pw_ij0175_01 (w.withFollow "special-get-raises" true) g os) 67, objG (X2 PySem.Challenge.pw_ij0175_01 (w.withFollow "special-get-raises" true) g os) 66, objG (X2 PySem.Challenge.pw_ij0175_01 (w.withFollow "special-get-raises" true) g os) 65, objG (X2 PySem.Challenge.pw_ij0175_01 (w.withFollow "special-get-raises" true) g os) 64, objG (X2 PySem.Challenge.pw_ij0175_01 (w.withFollow "special-get-raises" true) g os) 63, objG (X2 PySem.Challenge.pw_ij0175_01 (w.withFollow "special-get-raises" true) g os) 62, objG (X2 PySem.Challenge.pw_ij0175_01 (w.withFollow "special-get-raises" true) g os) 61, objG (X2 PySem.Challenge.pw_ij0175_01 (w.withFollow "special-get-raises" true) g os) 60, objG (X2 PySem.Challenge.pw_ij0175_01 (w.withFollow "special-get-raises" true) g os) 59, objG (X2 PySem.Challenge.pw_ij0175_01 (w.withFollow "special-get-raises" true) g os) 58, objG (X2 PySem.Challenge.pw_ij0175_01 (w.withFollow "special-get-raises" true) g os) 57, objG (X2 PySem.Challenge.pw_ij0175_01 (w.withFollow "special-get-raises" true) g os) 56, objG (X2 PySem.Challenge.pw_ij0175_01 (w.withFollow "special-get-raises" true) g os) 55, objG (X2 PySem.Challenge.pw_ij0175_01 (w.withFollow "special-get-raises" true) g os) 54, objG (X2 PySem.Challenge.pw_ij0175_01 (w.withFollow "special-get-raises" true) g os) 53, objG (X2 PySem.Challenge.pw_ij0175_01 (w.withFollow "special-get-raises" true) g os) 52, objG (X2 PySem.Challenge.pw_ij0175_01 (w.withFollow "special-get-raises" true) g os) 51, objG (X2 PySem.Challenge.pw_ij0175_01 (w.withFollow "special-get-raises" true) g os) 50, objG (X2 PySem.Challenge.pw_ij0175_01 (w.withFollow "special-get-raises" true) g os) 49] = [tup PySem.Challenge.pw_ij0175_01 43, tup PySem.Challenge.pw_ij0175_01 42, tup PySem.Challenge.pw_ij0175_01 41, tup PySem.Challenge.pw_ij0175_01 40, tup PySem.Challenge.pw_ij0175_01 39, tup PySem.Challenge.pw_ij0175_01 38, tup PySem.Challenge.pw_ij0175_01 37, tup PySem.Challenge.pw_ij0175_01 36, tup PySem.Challenge.pw_ij0175_01 35, tup PySem.Challenge.pw_ij0175_01 34, tup PySem.Challenge.pw_ij0175_01 33, tup PySem.Challenge.pw_ij0175_01 32, tup PySem.Challenge.pw_ij0175_01 31, tup PySem.Challenge.pw_ij0175_01 30, tup PySem.Challenge.pw_ij0175_01 29, tup PySem.Challenge.pw_ij0175_01 28, tup PySem.Challenge.pw_ij0175_01 27, tup PySem.Challenge.pw_ij0175_01 26, tup PySem.Challenge.pw_ij0175_01 25, tup PySem.Challenge.pw_ij0175_01 24, tup PySem.Challenge.pw_ij0175_01 23, tup PySem.Challenge.pw_ij0175_01 22, tup PySem.Challenge.pw_ij0175_01 21, tup PySem.Challenge.pw_ij0175_01 20, tup PySem.Challenge.pw_ij0175_01 19, tup PySem.Challenge.pw_ij0175_01 18, tup PySem.Challenge.pw_ij0175_01 17, tup PySem.Challenge.pw_ij0175_01 16, tup PySem.Challenge.pw_ij0175_01 15, tup PySem.Challenge.pw_ij0175_01 14, tup PySem.Challenge.pw_ij0175_01 13, tup PySem.Challenge.pw_ij0175_01 12, tup PySem.Challenge.pw_ij0175_01 11, tup PySem.Challenge.pw_ij0175_01 10, tup PySem.Challenge.pw_ij0175_01 9, tup PySem.Challenge.pw_ij0175_01 8, tup PySem.Challenge.pw_ij0175_01 7, tup PySem.Challenge.pw_ij0175_01 6, tup PySem.Challenge.pw_ij0175_01 5, tup PySem.Challenge.pw_ij0175_01 4, tup PySem.Challenge.pw_ij0175_01 3, tup PySem.Challenge.pw_ij0175_01 2, tup PySem.Challenge.pw_ij0175_01 1, tup PySem.Challenge.pw_ij0175_01 0] ∧ [objG (X2 PySem.Challenge.pw_ij0175_01 (w.withFollow "special-get-raises" true) g os) 95, objG (X2 PySem.Challenge.pw_ij0175_01 (w.withFollow "special-get-raises" true) g os) 98] = [sorted', iter' 1] := by
  rw [PySem.W.Fast.te10295753902157049106, PySem.W.Fast.te14364793385576792824, PySem.W.Fast.te5175542366172373081]
  exact ⟨by rfl, by kernel_rfl, by kernel_rfl, by kernel_rfl, by kernel_rfl, by kernel_rfl⟩
theorem key2 (w : World) (os : OsState) (g : Nat → Obj) : (segGoT treeTable PySem.Challenge.pw_ij0175_01 w 11 an 1 3168 (S1 w.params PySem.Challenge.pw_ij0175_01 g os) (piecesOf (l2 PySem.Challenge.pw_ij0175_01) (envT PySem.Challenge.pw_ij0175_01) (cT PySem.Challenge.pw_ij0175_01) q1 BT0) = X2 PySem.Challenge.pw_ij0175_01 w g os) ∧ (X2 PySem.Challenge.pw_ij0175_01 w g os).map stG = some ((102, {}, Array.mk [], boot_drawn, 364, os), TL PySem.Challenge.pw_ij0175_01 (kG (X2 PySem.Challenge.pw_ij0175_01 w g os))) ∧ kG (X2 PySem.Challenge.pw_ij0175_01 w g os) (.ok .next) = .pure (.done .next) ∧ [objG (X2 PySem.Challenge.pw_ij0175_01 w g os) 45, objG (X2 PySem.Challenge.pw_ij0175_01 w g os) 44, objG (X2 PySem.Challenge.pw_ij0175_01 w g os) 43, objG (X2 PySem.Challenge.pw_ij0175_01 w g os) 42, objG (X2 PySem.Challenge.pw_ij0175_01 w g os) 41, objG (X2 PySem.Challenge.pw_ij0175_01 w g os) 40, objG (X2 PySem.Challenge.pw_ij0175_01 w g os) 39, objG (X2 PySem.Challenge.pw_ij0175_01 w g os) 38, objG (X2 PySem.Challenge.pw_ij0175_01 w g os) 37, objG (X2 PySem.Challenge.pw_ij0175_01 w g os) 36, objG (X2 PySem.Challenge.pw_ij0175_01 w g os) 35, objG (X2 PySem.Challenge.pw_ij0175_01 w g os) 34, objG (X2 PySem.Challenge.pw_ij0175_01 w g os) 33, objG (X2 PySem.Challenge.pw_ij0175_01 w g os) 32, objG (X2 PySem.Challenge.pw_ij0175_01 w g os) 31, objG (X2 PySem.Challenge.pw_ij0175_01 w g os) 30, objG (X2 PySem.Challenge.pw_ij0175_01 w g os) 29, objG (X2 PySem.Challenge.pw_ij0175_01 w g os) 28, objG (X2 PySem.Challenge.pw_ij0175_01 w g os) 27, objG (X2 PySem.Challenge.pw_ij0175_01 w g os) 26, objG (X2 PySem.Challenge.pw_ij0175_01 w g os) 25, objG (X2 PySem.Challenge.pw_ij0175_01 w g os) 24, objG (X2 PySem.Challenge.pw_ij0175_01 w g os) 23, objG (X2 PySem.Challenge.pw_ij0175_01 w g os) 22, objG (X2 PySem.Challenge.pw_ij0175_01 w g os) 21, objG (X2 PySem.Challenge.pw_ij0175_01 w g os) 20, objG (X2 PySem.Challenge.pw_ij0175_01 w g os) 19, objG (X2 PySem.Challenge.pw_ij0175_01 w g os) 18, objG (X2 PySem.Challenge.pw_ij0175_01 w g os) 17, objG (X2 PySem.Challenge.pw_ij0175_01 w g os) 16, objG (X2 PySem.Challenge.pw_ij0175_01 w g os) 15, objG (X2 PySem.Challenge.pw_ij0175_01 w g os) 14, objG (X2 PySem.Challenge.pw_ij0175_01 w g os) 13, objG (X2 PySem.Challenge.pw_ij0175_01 w g os) 12, objG (X2 PySem.Challenge.pw_ij0175_01 w g os) 11, objG (X2 PySem.Challenge.pw_ij0175_01 w g os) 10, objG (X2 PySem.Challenge.pw_ij0175_01 w g os) 9, objG (X2 PySem.Challenge.pw_ij0175_01 w g os) 8, objG (X2 PySem.Challenge.pw_ij0175_01 w g os) 7, objG (X2 PySem.Challenge.pw_ij0175_01 w g os) 6, objG (X2 PySem.Challenge.pw_ij0175_01 w g os) 5, objG (X2 PySem.Challenge.pw_ij0175_01 w g os) 4, objG (X2 PySem.Challenge.pw_ij0175_01 w g os) 3, objG (X2 PySem.Challenge.pw_ij0175_01 w g os) 2, objG (X2 PySem.Challenge.pw_ij0175_01 w g os) 1, objG (X2 PySem.Challenge.pw_ij0175_01 w g os) 0] = [g 45, g 44, alias' w.params PySem.Challenge.pw_ij0175_01 0, g 42, g 41, g 40, g 39, g 38, g 37, g 36, g 35, g 34, g 33, g 32, g 31, g 30, g 29, g 28, g 27, g 26, g 25, g 24, g 23, g 22, g 21, g 20, g 19, g 18, g 17, g 16, g 15, g 14, g 13, g 12, g 11, fB w.params 10, fB w.params 9, fB w.params 8, fB w.params 7, fB w.params 6, fB w.params 5, fB w.params 4, nsL w.params PySem.Challenge.pw_ij0175_01 0 225, fB w.params 2, fB w.params 1, fB w.params 0] ∧ [objG (X2 PySem.Challenge.pw_ij0175_01 w g os) 92, objG (X2 PySem.Challenge.pw_ij0175_01 w g os) 91, objG (X2 PySem.Challenge.pw_ij0175_01 w g os) 90, objG (X2 PySem.Challenge.pw_ij0175_01 w g os) 89, objG (X2 PySem.Challenge.pw_ij0175_01 w g os) 88, objG (X2 PySem.Challenge.pw_ij0175_01 w g os) 87, objG (X2 PySem.Challenge.pw_ij0175_01 w g os) 86, objG (X2 PySem.Challenge.pw_ij0175_01 w g os) 85, objG (X2 PySem.Challenge.pw_ij0175_01 w g os) 84, objG (X2 PySem.Challenge.pw_ij0175_01 w g os) 83, objG (X2 PySem.Challenge.pw_ij0175_01 w g os) 82, objG (X2 PySem.Challenge.pw_ij0175_01 w g os) 81, objG (X2 PySem.Challenge.pw_ij0175_01 w g os) 80, objG (X2 PySem.Challenge.pw_ij0175_01 w g os) 79, objG (X2 PySem.Challenge.pw_ij0175_01 w g os) 78, objG (X2 PySem.Challenge.pw_ij0175_01 w g os) 77, objG (X2 PySem.Challenge.pw_ij0175_01 w g os) 76, objG (X2 PySem.Challenge.pw_ij0175_01 w g os) 75, objG (X2 PySem.Challenge.pw_ij0175_01 w g os) 74, objG (X2 PySem.Challenge.pw_ij0175_01 w g os) 73, objG (X2 PySem.Challenge.pw_ij0175_01 w g os) 72, objG (X2 PySem.Challenge.pw_ij0175_01 w g os) 71, objG (X2 PySem.Challenge.pw_ij0175_01 w g os) 70, objG (X2 PySem.Challenge.pw_ij0175_01 w g os) 69, objG (X2 PySem.Challenge.pw_ij0175_01 w g os) 68, objG (X2 PySem.Challenge.pw_ij0175_01 w g os) 67, objG (X2 PySem.Challenge.pw_ij0175_01 w g os) 66, objG (X2 PySem.Challenge.pw_ij0175_01 w g os) 65, objG (X2 PySem.Challenge.pw_ij0175_01 w g os) 64, objG (X2 PySem.Challenge.pw_ij0175_01 w g os) 63, objG (X2 PySem.Challenge.pw_ij0175_01 w g os) 62, objG (X2 PySem.Challenge.pw_ij0175_01 w g os) 61, objG (X2 PySem.Challenge.pw_ij0175_01 w g os) 60, objG (X2 PySem.Challenge.pw_ij0175_01 w g os) 59, objG (X2 PySem.Challenge.pw_ij0175_01 w g os) 58, objG (X2 PySem.Challenge.pw_ij0175_01 w g os) 57, objG (X2 PySem.Challenge.pw_ij0175_01 w g os) 56, objG (X2 PySem.Challenge.pw_ij0175_01 w g os) 55, objG (X2 PySem.Challenge.pw_ij0175_01 w g os) 54, objG (X2 PySem.Challenge.pw_ij0175_01 w g os) 53, objG (X2 PySem.Challenge.pw_ij0175_01 w g os) 52, objG (X2 PySem.Challenge.pw_ij0175_01 w g os) 51, objG (X2 PySem.Challenge.pw_ij0175_01 w g os) 50, objG (X2 PySem.Challenge.pw_ij0175_01 w g os) 49] = [tup PySem.Challenge.pw_ij0175_01 43, tup PySem.Challenge.pw_ij0175_01 42, tup PySem.Challenge.pw_ij0175_01 41, tup PySem.Challenge.pw_ij0175_01 40, tup PySem.Challenge.pw_ij0175_01 39, tup PySem.Challenge.pw_ij0175_01 38, tup PySem.Challenge.pw_ij0175_01 37, tup PySem.Challenge.pw_ij0175_01 36, tup PySem.Challenge.pw_ij0175_01 35, tup PySem.Challenge.pw_ij0175_01 34, tup PySem.Challenge.pw_ij0175_01 33, tup PySem.Challenge.pw_ij0175_01 32, tup PySem.Challenge.pw_ij0175_01 31, tup PySem.Challenge.pw_ij0175_01 30, tup PySem.Challenge.pw_ij0175_01 29, tup PySem.Challenge.pw_ij0175_01 28, tup PySem.Challenge.pw_ij0175_01 27, tup PySem.Challenge.pw_ij0175_01 26, tup PySem.Challenge.pw_ij0175_01 25, tup PySem.Challenge.pw_ij0175_01 24, tup PySem.Challenge.pw_ij0175_01 23, tup PySem.Challenge.pw_ij0175_01 22, tup PySem.Challenge.pw_ij0175_01 21, tup PySem.Challenge.pw_ij0175_01 20, tup PySem.Challenge.pw_ij0175_01 19, tup PySem.Challenge.pw_ij0175_01 18, tup PySem.Challenge.pw_ij0175_01 17, tup PySem.Challenge.pw_ij0175_01 16, tup PySem.Challenge.pw_ij0175_01 15, tup PySem.Challenge.pw_ij0175_01 14, tup PySem.Challenge.pw_ij0175_01 13, tup PySem.Challenge.pw_ij0175_01 12, tup PySem.Challenge.pw_ij0175_01 11, tup PySem.Challenge.pw_ij0175_01 10, tup PySem.Challenge.pw_ij0175_01 9, tup PySem.Challenge.pw_ij0175_01 8, tup PySem.Challenge.pw_ij0175_01 7, tup PySem.Challenge.pw_ij0175_01 6, tup PySem.Challenge.pw_ij0175_01 5, tup PySem.Challenge.pw_ij0175_01 4, tup PySem.Challenge.pw_ij0175_01 3, tup PySem.Challenge.pw_ij0175_01 2, tup PySem.Challenge.pw_ij0175_01 1, tup PySem.Challenge.pw_ij0175_01 0] ∧ [objG (X2 PySem.Challenge.pw_ij0175_01 w g os) 95, objG (X2 PySem.Challenge.pw_ij0175_01 w g os) 98] = [sorted', iter' 1] :=
  byRow2 "special-get-raises" (P := fun w => ∀ (os : OsState) (g : Nat → Obj), (segGoT treeTable PySem.Challenge.pw_ij0175_01 w 11 an 1 3168 (S1 w.params PySem.Challenge.pw_ij0175_01 g os) (piecesOf (l2 PySem.Challenge.pw_ij0175_01) (envT PySem.Challenge.pw_ij0175_01) (cT PySem.Challenge.pw_ij0175_01) q1 BT0) = X2 PySem.Challenge.pw_ij0175_01 w g os) ∧ (X2 PySem.Challenge.pw_ij0175_01 w g os).map stG = some ((102, {}, Array.mk [], boot_drawn, 364, os), TL PySem.Challenge.pw_ij0175_01 (kG (X2 PySem.Challenge.pw_ij0175_01 w g os))) ∧ kG (X2 PySem.Challenge.pw_ij0175_01 w g os) (.ok .next) = .pure (.done .next) ∧ [objG (X2 PySem.Challenge.pw_ij0175_01 w g os) 45, objG (X2 PySem.Challenge.pw_ij0175_01 w g os) 44, objG (X2 PySem.Challenge.pw_ij0175_01 w g os) 43, objG (X2 PySem.Challenge.pw_ij0175_01 w g os) 42, objG (X2 PySem.Challenge.pw_ij0175_01 w g os) 41, objG (X2 PySem.Challenge.pw_ij0175_01 w g os) 40, objG (X2 PySem.Challenge.pw_ij0175_01 w g os) 39, objG (X2 PySem.Challenge.pw_ij0175_01 w g os) 38, objG (X2 PySem.Challenge.pw_ij0175_01 w g os) 37, objG (X2 PySem.Challenge.pw_ij0175_01 w g os) 36, objG (X2 PySem.Challenge.pw_ij0175_01 w g os) 35, objG (X2 PySem.Challenge.pw_ij0175_01 w g os) 34, objG (X2 PySem.Challenge.pw_ij0175_01 w g os) 33, objG (X2 PySem.Challenge.pw_ij0175_01 w g os) 32, objG (X2 PySem.Challenge.pw_ij0175_01 w g os) 31, objG (X2 PySem.Challenge.pw_ij0175_01 w g os) 30, objG (X2 PySem.Challenge.pw_ij0175_01 w g os) 29, objG (X2 PySem.Challenge.pw_ij0175_01 w g os) 28, objG (X2 PySem.Challenge.pw_ij0175_01 w g os) 27, objG (X2 PySem.Challenge.pw_ij0175_01 w g os) 26, objG (X2 PySem.Challenge.pw_ij0175_01 w g os) 25, objG (X2 PySem.Challenge.pw_ij0175_01 w g os) 24, objG (X2 PySem.Challenge.pw_ij0175_01 w g os) 23, objG (X2 PySem.Challenge.pw_ij0175_01 w g os) 22, objG (X2 PySem.Challenge.pw_ij0175_01 w g os) 21, objG (X2 PySem.Challenge.pw_ij0175_01 w g os) 20, objG (X2 PySem.Challenge.pw_ij0175_01 w g os) 19, objG (X2 PySem.Challenge.pw_ij0175_01 w g os) 18, objG (X2 PySem.Challenge.pw_ij0175_01 w g os) 17, objG (X2 PySem.Challenge.pw_ij0175_01 w g os) 16, objG (X2 PySem.Challenge.pw_ij0175_01 w g os) 15, objG (X2 PySem.Challenge.pw_ij0175_01 w g os) 14, objG (X2 PySem.Challenge.pw_ij0175_01 w g os) 13, objG (X2 PySem.Challenge.pw_ij0175_01 w g os) 12, objG (X2 PySem.Challenge.pw_ij0175_01 w g os) 11, objG (X2 PySem.Challenge.pw_ij0175_01 w g os) 10, objG (X2 PySem.Challenge.pw_ij0175_01 w g os) 9, objG (X2 PySem.Challenge.pw_ij0175_01 w g os) 8, objG (X2 PySem.Challenge.pw_ij0175_01 w g os) 7, objG (X2 PySem.Challenge.pw_ij0175_01 w g os) 6, objG (X2 PySem.Challenge.pw_ij0175_01 w g os) 5, objG (X2 PySem.Challenge.pw_ij0175_01 w g os) 4, objG (X2 PySem.Challenge.pw_ij0175_01 w g os) 3, objG (X2 PySem.Challenge.pw_ij0175_01 w g os) 2, objG (X2 PySem.Challenge.pw_ij0175_01 w g os) 1, objG (X2 PySem.Challenge.pw_ij0175_01 w g os) 0] = [g 45, g 44, alias' w.params PySem.Challenge.pw_ij0175_01 0, g 42, g 41, g 40, g 39, g 38, g 37, g 36, g 35, g 34, g 33, g 32, g 31, g 30, g 29, g 28, g 27, g 26, g 25, g 24, g 23, g 22, g 21, g 20, g 19, g 18, g 17, g 16, g 15, g 14, g 13, g 12, g 11, fB w.params 10, fB w.params 9, fB w.params 8, fB w.params 7, fB w.params 6, fB w.params 5, fB w.params 4, nsL w.params PySem.Challenge.pw_ij0175_01 0 225, fB w.params 2, fB w.params 1, fB w.params 0] ∧ [objG (X2 PySem.Challenge.pw_ij0175_01 w g os) 92, objG (X2 PySem.Challenge.pw_ij0175_01 w g os) 91, objG (X2 PySem.Challenge.pw_ij0175_01 w g os) 90, objG (X2 PySem.Challenge.pw_ij0175_01 w g os) 89, objG (X2 PySem.Challenge.pw_ij0175_01 w g os) 88, objG (X2 PySem.Challenge.pw_ij0175_01 w g os) 87, objG (X2 PySem.Challenge.pw_ij0175_01 w g os) 86, objG (X2 PySem.Challenge.pw_ij0175_01 w g os) 85, objG (X2 PySem.Challenge.pw_ij0175_01 w g os) 84, objG (X2 PySem.Challenge.pw_ij0175_01 w g os) 83, objG (X2 PySem.Challenge.pw_ij0175_01 w g os) 82, objG (X2 PySem.Challenge.pw_ij0175_01 w g os) 81, objG (X2 PySem.Challenge.pw_ij0175_01 w g os) 80, objG (X2 PySem.Challenge.pw_ij0175_01 w g os) 79, objG (X2 PySem.Challenge.pw_ij0175_01 w g os) 78, objG (X2 PySem.Challenge.pw_ij0175_01 w g os) 77, objG (X2 PySem.Challenge.pw_ij0175_01 w g os) 76, objG (X2 PySem.Challenge.pw_ij0175_01 w g os) 75, objG (X2 PySem.Challenge.pw_ij0175_01 w g os) 74, objG (X2 PySem.Challenge.pw_ij0175_01 w g os) 73, objG (X2 PySem.Challenge.pw_ij0175_01 w g os) 72, objG (X2 PySem.Challenge.pw_ij0175_01 w g os) 71, objG (X2 PySem.Challenge.pw_ij0175_01 w g os) 70, objG (X2 PySem.Challenge.pw_ij0175_01 w g os) 69, objG (X2 PySem.Challenge.pw_ij0175_01 w g os) 68, objG (X2 PySem.Challenge.pw_ij0175_01 w g os) 67, objG (X2 PySem.Challenge.pw_ij0175_01 w g os) 66, objG (X2 PySem.Challenge.pw_ij0175_01 w g os) 65, objG (X2 PySem.Challenge.pw_ij0175_01 w g os) 64, objG (X2 PySem.Challenge.pw_ij0175_01 w g os) 63, objG (X2 PySem.Challenge.pw_ij0175_01 w g os) 62, objG (X2 PySem.Challenge.pw_ij0175_01 w g os) 61, objG (X2 PySem.Challenge.pw_ij0175_01 w g os) 60, objG (X2 PySem.Challenge.pw_ij0175_01 w g os) 59, objG (X2 PySem.Challenge.pw_ij0175_01 w g os) 58, objG (X2 PySem.Challenge.pw_ij0175_01 w g os) 57, objG (X2 PySem.Challenge.pw_ij0175_01 w g os) 56, objG (X2 PySem.Challenge.pw_ij0175_01 w g os) 55, objG (X2 PySem.Challenge.pw_ij0175_01 w g os) 54, objG (X2 PySem.Challenge.pw_ij0175_01 w g os) 53, objG (X2 PySem.Challenge.pw_ij0175_01 w g os) 52, objG (X2 PySem.Challenge.pw_ij0175_01 w g os) 51, objG (X2 PySem.Challenge.pw_ij0175_01 w g os) 50, objG (X2 PySem.Challenge.pw_ij0175_01 w g os) 49] = [tup PySem.Challenge.pw_ij0175_01 43, tup PySem.Challenge.pw_ij0175_01 42, tup PySem.Challenge.pw_ij0175_01 41, tup PySem.Challenge.pw_ij0175_01 40, tup PySem.Challenge.pw_ij0175_01 39, tup PySem.Challenge.pw_ij0175_01 38, tup PySem.Challenge.pw_ij0175_01 37, tup PySem.Challenge.pw_ij0175_01 36, tup PySem.Challenge.pw_ij0175_01 35, tup PySem.Challenge.pw_ij0175_01 34, tup PySem.Challenge.pw_ij0175_01 33, tup PySem.Challenge.pw_ij0175_01 32, tup PySem.Challenge.pw_ij0175_01 31, tup PySem.Challenge.pw_ij0175_01 30, tup PySem.Challenge.pw_ij0175_01 29, tup PySem.Challenge.pw_ij0175_01 28, tup PySem.Challenge.pw_ij0175_01 27, tup PySem.Challenge.pw_ij0175_01 26, tup PySem.Challenge.pw_ij0175_01 25, tup PySem.Challenge.pw_ij0175_01 24, tup PySem.Challenge.pw_ij0175_01 23, tup PySem.Challenge.pw_ij0175_01 22, tup PySem.Challenge.pw_ij0175_01 21, tup PySem.Challenge.pw_ij0175_01 20, tup PySem.Challenge.pw_ij0175_01 19, tup PySem.Challenge.pw_ij0175_01 18, tup PySem.Challenge.pw_ij0175_01 17, tup PySem.Challenge.pw_ij0175_01 16, tup PySem.Challenge.pw_ij0175_01 15, tup PySem.Challenge.pw_ij0175_01 14, tup PySem.Challenge.pw_ij0175_01 13, tup PySem.Challenge.pw_ij0175_01 12, tup PySem.Challenge.pw_ij0175_01 11, tup PySem.Challenge.pw_ij0175_01 10, tup PySem.Challenge.pw_ij0175_01 9, tup PySem.Challenge.pw_ij0175_01 8, tup PySem.Challenge.pw_ij0175_01 7, tup PySem.Challenge.pw_ij0175_01 6, tup PySem.Challenge.pw_ij0175_01 5, tup PySem.Challenge.pw_ij0175_01 4, tup PySem.Challenge.pw_ij0175_01 3, tup PySem.Challenge.pw_ij0175_01 2, tup PySem.Challenge.pw_ij0175_01 1, tup PySem.Challenge.pw_ij0175_01 0] ∧ [objG (X2 PySem.Challenge.pw_ij0175_01 w g os) 95, objG (X2 PySem.Challenge.pw_ij0175_01 w g os) 98] = [sorted', iter' 1]) (fun w os g => key2F w os g) (fun w os g => key2T w os g) w os g

theorem part2 (w : World) (os : OsState) (g : Nat → Obj) : ∃ s k h, segGoT treeTable PySem.Challenge.pw_ij0175_01 w 11 an 1 3168 (S1 w.params PySem.Challenge.pw_ij0175_01 g os) (piecesOf (l2 PySem.Challenge.pw_ij0175_01) (envT PySem.Challenge.pw_ij0175_01) (cT PySem.Challenge.pw_ij0175_01) q1 BT0) = some (s, TL PySem.Challenge.pw_ij0175_01 k) ∧ s.abs = (SL w.params PySem.Challenge.pw_ij0175_01 g h 1 0 0 225 364 os).abs ∧ k (.ok .next) = .pure (.done .next) := by
  obtain ⟨e, k1, k2, k3, k4, k5⟩ := key2 w os g
  obtain ⟨s, h1, h2⟩ := go_abs (f := fL w.params PySem.Challenge.pw_ij0175_01 g (objG (X2 PySem.Challenge.pw_ij0175_01 w g os)) 1 0 0 225) k1 (by decide) fun i _ => fL_is k3 k4 k5 i
  exact ⟨s, kG (X2 PySem.Challenge.pw_ij0175_01 w g os), objG (X2 PySem.Challenge.pw_ij0175_01 w g os), e.trans h1, h2, k2⟩
end MineTop
end
section
open PySem PySem.W PySem.Calls PyProof.Rows
set_option maxRecDepth 100000
set_option linter.unusedVariables false
namespace MineTop
noncomputable def X3 (p : Program) (w : World) (g h : Nat → Obj) (k : Result → Sem Fin) (os : OsState) (n j c x a tk : Nat) : Option (SharedT × Thread) := PySem.W.Fast.tw10295753902157049106 PySem.W.Fast.tw14364793385576792824 p w 11 an 1 n (SL w.params p g h j c x a tk os) (TL p k)
theorem keyL1F (w : World) (os : OsState) (g h : Nat → Obj) (k : Result → Sem Fin) : (segGoT treeTable PySem.Challenge.pw_ij0175_01 (w.withFollow "special-get-raises" false) 11 an 1 1772 (SL (w.withFollow "special-get-raises" false).params PySem.Challenge.pw_ij0175_01 g h 1 0 0 225 364 os) (TL PySem.Challenge.pw_ij0175_01 k) = X3 PySem.Challenge.pw_ij0175_01 (w.withFollow "special-get-raises" false) g h k os 1772 1 0 0 225 364) ∧ (X3 PySem.Challenge.pw_ij0175_01 (w.withFollow "special-get-raises" false) g h k os 1772 1 0 0 225 364).map stG = some ((144, {}, Array.mk [], boot_drawn, 451, os), TL PySem.Challenge.pw_ij0175_01 k) ∧ [objG (X3 PySem.Challenge.pw_ij0175_01 (w.withFollow "special-get-raises" false) g h k os 1772 1 0 0 225 364) 45, objG (X3 PySem.Challenge.pw_ij0175_01 (w.withFollow "special-get-raises" false) g h k os 1772 1 0 0 225 364) 44, objG (X3 PySem.Challenge.pw_ij0175_01 (w.withFollow "special-get-raises" false) g h k os 1772 1 0 0 225 364) 43, objG (X3 PySem.Challenge.pw_ij0175_01 (w.withFollow "special-get-raises" false) g h k os 1772 1 0 0 225 364) 42, objG (X3 PySem.Challenge.pw_ij0175_01 (w.withFollow "special-get-raises" false) g h k os 1772 1 0 0 225 364) 41, objG (X3 PySem.Challenge.pw_ij0175_01 (w.withFollow "special-get-raises" false) g h k os 1772 1 0 0 225 364) 40, objG (X3 PySem.Challenge.pw_ij0175_01 (w.withFollow "special-get-raises" false) g h k os 1772 1 0 0 225 364) 39, objG (X3 PySem.Challenge.pw_ij0175_01 (w.withFollow "special-get-raises" false) g h k os 1772 1 0 0 225 364) 38, objG (X3 PySem.Challenge.pw_ij0175_01 (w.withFollow "special-get-raises" false) g h k os 1772 1 0 0 225 364) 37, objG (X3 PySem.Challenge.pw_ij0175_01 (w.withFollow "special-get-raises" false) g h k os 1772 1 0 0 225 364) 36, objG (X3 PySem.Challenge.pw_ij0175_01 (w.withFollow "special-get-raises" false) g h k os 1772 1 0 0 225 364) 35, objG (X3 PySem.Challenge.pw_ij0175_01 (w.withFollow "special-get-raises" false) g h k os 1772 1 0 0 225 364) 34, objG (X3 PySem.Challenge.pw_ij0175_01 (w.withFollow "special-get-raises" false) g h k os 1772 1 0 0 225 364) 33, objG (X3 PySem.Challenge.pw_ij0175_01 (w.withFollow "special-get-raises" false) g h k os 1772 1 0 0 225 364) 32, objG (X3 PySem.Challenge.pw_ij0175_01 (w.withFollow "special-get-raises" false) g h k os 1772 1 0 0 225 364) 31, objG (X3 PySem.Challenge.pw_ij0175_01 (w.withFollow "special-get-raises" false) g h k os 1772 1 0 0 225 364) 30, objG (X3 PySem.Challenge.pw_ij0175_01 (w.withFollow "special-get-raises" false) g h k os 1772 1 0 0 225 364) 29, objG (X3 PySem.Challenge.pw_ij0175_01 (w.withFollow "special-get-raises" false) g h k os 1772 1 0 0 225 364) 28, objG (X3 PySem.Challenge.pw_ij0175_01 (w.withFollow "special-get-raises" false) g h k os 1772 1 0 0 225 364) 27, objG (X3 PySem.Challenge.pw_ij0175_01 (w.withFollow "special-get-raises" false) g h k os 1772 1 0 0 225 364) 26, objG (X3 PySem.Challenge.pw_ij0175_01 (w.withFollow "special-get-raises" false) g h k os 1772 1 0 0 225 364) 25, objG (X3 PySem.Challenge.pw_ij0175_01 (w.withFollow "special-get-raises" false) g h k os 1772 1 0 0 225 364) 24, objG (X3 PySem.Challenge.pw_ij0175_01 (w.withFollow "special-get-raises" false) g h k os 1772 1 0 0 225 364) 23, objG (X3 PySem.Challenge.pw_ij0175_01 (w.withFollow "special-get-raises" false) g h k os 1772 1 0 0 225 364) 22, objG (X3 PySem.Challenge.pw_ij0175_01 (w.withFollow "special-get-raises" false) g h k os 1772 1 0 0 225 364) 21, objG (X3 PySem.Challenge.pw_ij0175_01 (w.withFollow "special-get-raises" false) g h k os 1772 1 0 0 225 364) 20, objG (X3 PySem.Challenge.pw_ij0175_01 (w.withFollow "special-get-raises" false) g h k os 1772 1 0 0 225 364) 19, objG (X3 PySem.Challenge.pw_ij0175_01 (w.withFollow "special-get-raises" false) g h k os 1772 1 0 0 225 364) 18, objG (X3 PySem.Challenge.pw_ij0175_01 (w.withFollow "special-get-raises" false) g h k os 1772 1 0 0 225 364) 17, objG (X3 PySem.Challenge.pw_ij0175_01 (w.withFollow "special-get-raises" false) g h k os 1772 1 0 0 225 364) 16, objG (X3 PySem.Challenge.pw_ij0175_01 (w.withFollow "special-get-raises" false) g h k os 1772 1 0 0 225 364) 15, objG (X3 PySem.Challenge.pw_ij0175_01 (w.withFollow "special-get-raises" false) g h k os 1772 1 0 0 225 364) 14, objG (X3 PySem.Challenge.pw_ij0175_01 (w.withFollow "special-get-raises" false) g h k os 1772 1 0 0 225 364) 13, objG (X3 PySem.Challenge.pw_ij0175_01 (w.withFollow "special-get-raises" false) g h k os 1772 1 0 0 225 364) 12, objG (X3 PySem.Challenge.pw_ij0175_01 (w.withFollow "special-get-raises" false) g h k os 1772 1 0 0 225 364) 11, objG (X3 PySem.Challenge.pw_ij0175_01 (w.withFollow "special-get-raises" false) g h k os 1772 1 0 0 225 364) 10, objG (X3 PySem.Challenge.pw_ij0175_01 (w.withFollow "special-get-raises" false) g h k os 1772 1 0 0 225 364) 9, objG (X3 PySem.Challenge.pw_ij0175_01 (w.withFollow "special-get-raises" false) g h k os 1772 1 0 0 225 364) 8, objG (X3 PySem.Challenge.pw_ij0175_01 (w.withFollow "special-get-raises" false) g h k os 1772 1 0 0 225 364) 7, objG (X3 PySem.Challenge.pw_ij0175_01 (w.withFollow "special-get-raises" false) g h k os 1772 1 0 0 225 364) 6, objG (X3 PySem.Challenge.pw_ij0175_01 (w.withFollow "special-get-raises" false) g h k os 1772 1 0 0 225 364) 5, objG (X3 PySem.Challenge.pw_ij0175_01 (w.withFollow "special-get-raises" false) g h k os 1772 1 0 0 225 364) 4, objG (X3 PySem.Challenge.pw_ij0175_01 (w.withFollow "special-get-raises" false) g h k os 1772 1 0 0 225 364) 3, objG (X3 PySem.Challenge.pw_ij0175_01 (w.withFollow "special-get-raises" false) g h k os 1772 1 0 0 225 364) 2, objG (X3 PySem.Challenge.pw_ij0175_01 (w.withFollow "special-get-raises" false) g h k os 1772 1 0 0 225 364) 1, objG (X3 PySem.Challenge.pw_ij0175_01 (w.withFollow "special-get-raises" false) g h k os 1772 1 0 0 225 364) 0] = [g 45, g 44, alias' (w.withFollow "special-get-raises" false).params PySem.Challenge.pw_ij0175_01 3, g 42, g 41, g 40, g 39, g 38, g 37, g 36, g 35, g 34, g 33, g 32, g 31, g 30, g 29, g 28, g 27, g 26, g 25, g 24, g 23, g 22, g 21, g 20, g 19, g 18, g 17, g 16, g 15, g 14, g 13, g 12, g 11, fB (w.withFollow "special-get-raises" false).params 10, fB (w.withFollow "special-get-raises" false).params 9, fB (w.withFollow "special-get-raises" false).params 8, fB (w.withFollow "special-get-raises" false).params 7, fB (w.withFollow "special-get-raises" false).params 6, fB (w.withFollow "special-get-raises" false).params 5, fB (w.withFollow "special-get-raises" false).params 4, nsL (w.withFollow "special-get-raises" false).params PySem.Challenge.pw_ij0175_01 31 448, fB (w.withFollow "special-get-raises" false).params 2, fB (w.withFollow "special-get-raises" false).params 1, fB (w.withFollow "special-get-raises" false).params 0] ∧ [objG (X3 PySem.Challenge.pw_ij0175_01 (w.withFollow "special-get-raises" false) g h k os 1772 1 0 0 225 364) 92, objG (X3 PySem.Challenge.pw_ij0175_01 (w.withFollow "special-get-raises" false) g h k os 1772 1 0 0 225 364) 91, objG (X3 PySem.Challenge.pw_ij0175_01 (w.withFollow "special-get-raises" false) g h k os 1772 1 0 0 225 364) 90, objG (X3 PySem.Challenge.pw_ij0175_01 (w.withFollow "special-get-raises" false) g h k os 1772 1 0 0 225 364) 89, objG (X3 PySem.Challenge.pw_ij0175_01 (w.withFollow "special-get-raises" false) g h k os 1772 1 0 0 225 364) 88, objG (X3 PySem.Challenge.pw_ij0175_01 (w.withFollow "special-get-raises" false) g h k os 1772 1 0 0 225 364) 87, objG (X3 PySem.Challenge.pw_ij0175_01 (w.withFollow "special-get-raises" false) g h k os 1772 1 0 0 225 364) 86, objG (X3 PySem.Challenge.pw_ij0175_01 (w.withFollow "special-get-raises" false) g h k os 1772 1 0 0 225 364) 85, objG (X3 PySem.Challenge.pw_ij0175_01 (w.withFollow "special-get-raises" false) g h k os 1772 1 0 0 225 364) 84, objG (X3 PySem.Challenge.pw_ij0175_01 (w.withFollow "special-get-raises" false) g h k os 1772 1 0 0 225 364) 83, objG (X3 PySem.Challenge.pw_ij0175_01 (w.withFollow "special-get-raises" false) g h k os 1772 1 0 0 225 364) 82, objG (X3 PySem.Challenge.pw_ij0175_01 (w.withFollow "special-get-raises" false) g h k os 1772 1 0 0 225 364) 81, objG (X3 PySem.Challenge.pw_ij0175_01 (w.withFollow "special-get-raises" false) g h k os 1772 1 0 0 225 364) 80, objG (X3 PySem.Challenge.pw_ij0175_01 (w.withFollow "special-get-raises" false) g h k os 1772 1 0 0 225 364) 79, objG (X3 PySem.Challenge.pw_ij0175_01 (w.withFollow "special-get-raises" false) g h k os 1772 1 0 0 225 364) 78, objG (X3 PySem.Challenge.pw_ij0175_01 (w.withFollow "special-get-raises" false) g h k os 1772 1 0 0 225 364) 77, objG (X3 PySem.Challenge.pw_ij0175_01 (w.withFollow "special-get-raises" false) g h k os 1772 1 0 0 225 364) 76, objG (X3 PySem.Challenge.pw_ij0175_01 (w.withFollow "special-get-raises" false) g h k os 1772 1 0 0 225 364) 75, objG (X3 PySem.Challenge.pw_ij0175_01 (w.withFollow "special-get-raises" false) g h k os 1772 1 0 0 225 364) 74, objG (X3 PySem.Challenge.pw_ij0175_01 (w.withFollow "special-get-raises" false) g h k os 1772 1 0 0 225 364) 73, objG (X3 PySem.Challenge.pw_ij0175_01 (w.withFollow "special-get-raises" false) g h k os 1772 1 0 0 225 364) 72, objG (X3 PySem.Challenge.pw_ij0175_01 (w.withFollow "special-get-raises" false) g h k os 1772 1 0 0 225 364) 71, objG (X3 PySem.Challenge.pw_ij0175_01 (w.withFollow "special-get-raises" false) g h k os 1772 1 0 0 225 364) 70, objG (X3 PySem.Challenge.pw_ij0175_01 (w.withFollow "special-get-raises" false) g h k os 1772 1 0 0 225 364) 69, objG (X3 PySem.Challenge.pw_ij0175_01 (w.withFollow "special-get-raises" false) g h k os 1772 1 0 0 225 364) 68, objG (X3 PySem.Challenge.pw_ij0175_01 (w.withFollow "special-get-raises" false) g h k os 1772 1 0 0 225 364) 67, objG (X3 PySem.Challenge.pw_ij0175_01 (w.withFollow "special-get-raises" false) g h k os 1772 1 0 0 225 364) 66, objG (X3 PySem.Challenge.pw_ij0175_01 (w.withFollow "special-get-raises" false) g h k os 1772 1 0 0 225 364) 65, objG (X3 PySem.Challenge.pw_ij0175_01 (w.withFollow "special-get-raises" false) g h k os 1772 1 0 0 225 364) 64, objG (X3 PySem.Challenge.pw_ij0175_01 (w.withFollow "special-get-raises" false) g h k os 1772 1 0 0 225 364) 63, objG (X3 PySem.Challenge.pw_ij0175_01 (w.withFollow "special-get-raises" false) g h k os 1772 1 0 0 225 364) 62, objG (X3 PySem.Challenge.pw_ij0175_01 (w.withFollow "special-get-raises" false) g h k os 1772 1 0 0 225 364) 61, objG (X3 PySem.Challenge.pw_ij0175_01 (w.withFollow "special-get-raises" false) g h k os 1772 1 0 0 225 364) 60, objG (X3 PySem.Challenge.pw_ij0175_01 (w.withFollow "special-get-raises" false) g h k os 1772 1 0 0 225 364) 59, objG (X3 PySem.Challenge.pw_ij0175_01 (w.withFollow "special-get-raises" false) g h k os 1772 1 0 0 225 364) 58, objG (X3 PySem.Challenge.pw_ij0175_01 (w.withFollow "special-get-raises" false) g h k os 1772 1 0 0 225 364) 57, objG (X3 PySem.Challenge.pw_ij0175_01 (w.withFollow "special-get-raises" false) g h k os 1772 1 0 0 225 364) 56, objG (X3 PySem.Challenge.pw_ij0175_01 (w.withFollow "special-get-raises" false) g h k os 1772 1 0 0 225 364) 55, objG (X3 PySem.Challenge.pw_ij0175_01 (w.withFollow "special-get-raises" false) g h k os 1772 1 0 0 225 364) 54, objG (X3 PySem.Challenge.pw_ij0175_01 (w.withFollow "special-get-raises" false) g h k os 1772 1 0 0 225 364) 53, objG (X3 PySem.Challenge.pw_ij0175_01 (w.withFollow "special-get-raises" false) g h k os 1772 1 0 0 225 364) 52, objG (X3 PySem.Challenge.pw_ij0175_01 (w.withFollow "special-get-raises" false) g h k os 1772 1 0 0 225 364) 51, objG (X3 PySem.Challenge.pw_ij0175_01 (w.withFollow "special-get-raises" false) g h k os 1772 1 0 0 225 364) 50, objG (X3 PySem.Challenge.pw_ij0175_01 (w.withFollow "special-get-raises" false) g h k os 1772 1 0 0 225 364) 49] = [tup PySem.Challenge.pw_ij0175_01 43, tup PySem.Challenge.pw_ij0175_01 42, tup PySem.Challenge.pw_ij0175_01 41, tup PySem.Challenge.pw_ij0175_01 40, tup PySem.Challenge.pw_ij0175_01 39, tup PySem.Challenge.pw_ij0175_01 38, tup PySem.Challenge.pw_ij0175_01 37, tup PySem.Challenge.pw_ij0175_01 36, tup PySem.Challenge.pw_ij0175_01 35, tup PySem.Challenge.pw_ij0175_01 34, tup PySem.Challenge.pw_ij0175_01 33, tup PySem.Challenge.pw_ij0175_01 32, tup PySem.Challenge.pw_ij0175_01 31, tup PySem.Challenge.pw_ij0175_01 30, tup PySem.Challenge.pw_ij0175_01 29, tup PySem.Challenge.pw_ij0175_01 28, tup PySem.Challenge.pw_ij0175_01 27, tup PySem.Challenge.pw_ij0175_01 26, tup PySem.Challenge.pw_ij0175_01 25, tup PySem.Challenge.pw_ij0175_01 24, tup PySem.Challenge.pw_ij0175_01 23, tup PySem.Challenge.pw_ij0175_01 22, tup PySem.Challenge.pw_ij0175_01 21, tup PySem.Challenge.pw_ij0175_01 20, tup PySem.Challenge.pw_ij0175_01 19, tup PySem.Challenge.pw_ij0175_01 18, tup PySem.Challenge.pw_ij0175_01 17, tup PySem.Challenge.pw_ij0175_01 16, tup PySem.Challenge.pw_ij0175_01 15, tup PySem.Challenge.pw_ij0175_01 14, tup PySem.Challenge.pw_ij0175_01 13, tup PySem.Challenge.pw_ij0175_01 12, tup PySem.Challenge.pw_ij0175_01 11, tup PySem.Challenge.pw_ij0175_01 10, tup PySem.Challenge.pw_ij0175_01 9, tup PySem.Challenge.pw_ij0175_01 8, tup PySem.Challenge.pw_ij0175_01 7, tup PySem.Challenge.pw_ij0175_01 6, tup PySem.Challenge.pw_ij0175_01 5, tup PySem.Challenge.pw_ij0175_01 4, tup PySem.Challenge.pw_ij0175_01 3, tup PySem.Challenge.pw_ij0175_01 2, tup PySem.Challenge.pw_ij0175_01 1, tup PySem.Challenge.pw_ij0175_01 0] ∧ [objG (X3 PySem.Challenge.pw_ij0175_01 (w.withFollow "special-get-raises" false) g h k os 1772 1 0 0 225 364) 95, objG (X3 PySem.Challenge.pw_ij0175_01 (w.withFollow "special-get-raises" false) g h k os 1772 1 0 0 225 364) 98] = [sorted', iter' 15] := by
  rw [PySem.W.Fast.te10295753902157049106, PySem.W.Fast.te14364793385576792824, PySem.W.Fast.te5175542366172373081]
  exact ⟨by rfl, by kernel_rfl, by kernel_rfl, by kernel_rfl, by kernel_rfl⟩
theorem keyL1T (w : World) (os : OsState) (g h : Nat → Obj) (k : Result → Sem Fin) : (segGoT treeTable PySem.Challenge.pw_ij0175_01 (w.withFollow "special-get-raises" true) 11 an 1 1772 (SL (w.withFollow "special-get-raises" true).params PySem.Challenge.pw_ij0175_01 g h 1 0 0 225 364 os) (TL PySem.Challenge.pw_ij0175_01 k) = X3 PySem.Challenge.pw_ij0175_01 (w.withFollow "special-get-raises" true) g h k os 1772 1 0 0 225 364) ∧ (X3 PySem.Challenge.pw_ij0175_01 (w.withFollow "special-get-raises" true) g h k os 1772 1 0 0 225 364).map stG = some ((144, {}, Array.mk [], boot_drawn, 451, os), TL PySem.Challenge.pw_ij0175_01 k) ∧ [objG (X3 PySem.Challenge.pw_ij0175_01 (w.withFollow "special-get-raises" true) g h k os 1772 1 0 0 225 364) 45, objG (X3 PySem.Challenge.pw_ij0175_01 (w.withFollow "special-get-raises" true) g h k os 1772 1 0 0 225 364) 44, objG (X3 PySem.Challenge.pw_ij0175_01 (w.withFollow "special-get-raises" true) g h k os 1772 1 0 0 225 364) 43, objG (X3 PySem.Challenge.pw_ij0175_01 (w.withFollow "special-get-raises" true) g h k os 1772 1 0 0 225 364) 42, objG (X3 PySem.Challenge.pw_ij0175_01 (w.withFollow "special-get-raises" true) g h k os 1772 1 0 0 225 364) 41, objG (X3 PySem.Challenge.pw_ij0175_01 (w.withFollow "special-get-raises" true) g h k os 1772 1 0 0 225 364) 40, objG (X3 PySem.Challenge.pw_ij0175_01 (w.withFollow "special-get-raises" true) g h k os 1772 1 0 0 225 364) 39, objG (X3 PySem.Challenge.pw_ij0175_01 (w.withFollow "special-get-raises" true) g h k os 1772 1 0 0 225 364) 38, objG (X3 PySem.Challenge.pw_ij0175_01 (w.withFollow "special-get-raises" true) g h k os 1772 1 0 0 225 364) 37, objG (X3 PySem.Challenge.pw_ij0175_01 (w.withFollow "special-get-raises" true) g h k os 1772 1 0 0 225 364) 36, objG (X3 PySem.Challenge.pw_ij0175_01 (w.withFollow "special-get-raises" true) g h k os 1772 1 0 0 225 364) 35, objG (X3 PySem.Challenge.pw_ij0175_01 (w.withFollow "special-get-raises" true) g h k os 1772 1 0 0 225 364) 34, objG (X3 PySem.Challenge.pw_ij0175_01 (w.withFollow "special-get-raises" true) g h k os 1772 1 0 0 225 364) 33, objG (X3 PySem.Challenge.pw_ij0175_01 (w.withFollow "special-get-raises" true) g h k os 1772 1 0 0 225 364) 32, objG (X3 PySem.Challenge.pw_ij0175_01 (w.withFollow "special-get-raises" true) g h k os 1772 1 0 0 225 364) 31, objG (X3 PySem.Challenge.pw_ij0175_01 (w.withFollow "special-get-raises" true) g h k os 1772 1 0 0 225 364) 30, objG (X3 PySem.Challenge.pw_ij0175_01 (w.withFollow "special-get-raises" true) g h k os 1772 1 0 0 225 364) 29, objG (X3 PySem.Challenge.pw_ij0175_01 (w.withFollow "special-get-raises" true) g h k os 1772 1 0 0 225 364) 28, objG (X3 PySem.Challenge.pw_ij0175_01 (w.withFollow "special-get-raises" true) g h k os 1772 1 0 0 225 364) 27, objG (X3 PySem.Challenge.pw_ij0175_01 (w.withFollow "special-get-raises" true) g h k os 1772 1 0 0 225 364) 26, objG (X3 PySem.Challenge.pw_ij0175_01 (w.withFollow "special-get-raises" true) g h k os 1772 1 0 0 225 364) 25, objG (X3 PySem.Challenge.pw_ij0175_01 (w.withFollow "special-get-raises" true) g h k os 1772 1 0 0 225 364) 24, objG (X3 PySem.Challenge.pw_ij0175_01 (w.withFollow "special-get-raises" true) g h k os 1772 1 0 0 225 364) 23, objG (X3 PySem.Challenge.pw_ij0175_01 (w.withFollow "special-get-raises" true) g h k os 1772 1 0 0 225 364) 22, objG (X3 PySem.Challenge.pw_ij0175_01 (w.withFollow "special-get-raises" true) g h k os 1772 1 0 0 225 364) 21, objG (X3 PySem.Challenge.pw_ij0175_01 (w.withFollow "special-get-raises" true) g h k os 1772 1 0 0 225 364) 20, objG (X3 PySem.Challenge.pw_ij0175_01 (w.withFollow "special-get-raises" true) g h k os 1772 1 0 0 225 364) 19, objG (X3 PySem.Challenge.pw_ij0175_01 (w.withFollow "special-get-raises" true) g h k os 1772 1 0 0 225 364) 18, objG (X3 PySem.Challenge.pw_ij0175_01 (w.withFollow "special-get-raises" true) g h k os 1772 1 0 0 225 364) 17, objG (X3 PySem.Challenge.pw_ij0175_01 (w.withFollow "special-get-raises" true) g h k os 1772 1 0 0 225 364) 16, objG (X3 PySem.Challenge.pw_ij0175_01 (w.withFollow "special-get-raises" true) g h k os 1772 1 0 0 225 364) 15, objG (X3 PySem.Challenge.pw_ij0175_01 (w.withFollow "special-get-raises" true) g h k os 1772 1 0 0 225 364) 14, objG (X3 PySem.Challenge.pw_ij0175_01 (w.withFollow "special-get-raises" true) g h k os 1772 1 0 0 225 364) 13, objG (X3 PySem.Challenge.pw_ij0175_01 (w.withFollow "special-get-raises" true) g h k os 1772 1 0 0 225 364) 12, objG (X3 PySem.Challenge.pw_ij0175_01 (w.withFollow "special-get-raises" true) g h k os 1772 1 0 0 225 364) 11, objG (X3 PySem.Challenge.pw_ij0175_01 (w.withFollow "special-get-raises" true) g h k os 1772 1 0 0 225 364) 10, objG (X3 PySem.Challenge.pw_ij0175_01 (w.withFollow "special-get-raises" true) g h k os 1772 1 0 0 225 364) 9, objG (X3 PySem.Challenge.pw_ij0175_01 (w.withFollow "special-get-raises" true) g h k os 1772 1 0 0 225 364) 8, objG (X3 PySem.Challenge.pw_ij0175_01 (w.withFollow "special-get-raises" true) g h k os 1772 1 0 0 225 364) 7, objG (X3 PySem.Challenge.pw_ij0175_01 (w.withFollow "special-get-raises" true) g h k os 1772 1 0 0 225 364) 6, objG (X3 PySem.Challenge.pw_ij0175_01 (w.withFollow "special-get-raises" true) g h k os 1772 1 0 0 225 364) 5, objG (X3 PySem.Challenge.pw_ij0175_01 (w.withFollow "special-get-raises" true) g h k os 1772 1 0 0 225 364) 4, objG (X3 PySem.Challenge.pw_ij0175_01 (w.withFollow "special-get-raises" true) g h k os 1772 1 0 0 225 364) 3, objG (X3 PySem.Challenge.pw_ij0175_01 (w.withFollow "special-get-raises" true) g h k os 1772 1 0 0 225 364) 2, objG (X3 PySem.Challenge.pw_ij0175_01 (w.withFollow "special-get-raises" true) g h k os 1772 1 0 0 225 364) 1, objG (X3 PySem.Challenge.pw_ij0175_01 (w.withFollow "special-get-raises" true) g h k os 1772 1 0 0 225 364) 0] = [g 45, g 44, alias' (w.withFollow "special-get-raises" true).params PySem.Challenge.pw_ij0175_01 3, g 42, g 41, g 40, g 39, g 38, g 37, g 36, g 35, g 34, g 33, g 32, g 31, g 30, g 29, g 28, g 27, g 26, g 25, g 24, g 23, g 22, g 21, g 20, g 19, g 18, g 17, g 16, g 15, g 14, g 13, g 12, g 11, fB (w.withFollow "special-get-raises" true).params 10, fB (w.withFollow "special-get-raises" true).params 9, fB (w.withFollow "special-get-raises" true).params 8, fB (w.withFollow "special-get-raises" true).params 7, fB (w.withFollow "special-get-raises" true).params 6, fB (w.withFollow "special-get-raises" true).params 5, fB (w.withFollow "special-get-raises" true).params 4, nsL (w.withFollow "special-get-raises" true).params PySem.Challenge.pw_ij0175_01 31 448, fB (w.withFollow "special-get-raises" true).params 2, fB (w.withFollow "special-get-raises" true).params 1, fB (w.withFollow "special-get-raises" true).params 0] ∧ [objG (X3 PySem.Challenge.pw_ij0175_01 (w.withFollow "special-get-raises" true) g h k os 1772 1 0 0 225 364) 92, objG (X3 PySem.Challenge.pw_ij0175_01 (w.withFollow "special-get-raises" true) g h k os 1772 1 0 0 225 364) 91, objG (X3 PySem.Challenge.pw_ij0175_01 (w.withFollow "special-get-raises" true) g h k os 1772 1 0 0 225 364) 90, objG (X3 PySem.Challenge.pw_ij0175_01 (w.withFollow "special-get-raises" true) g h k os 1772 1 0 0 225 364) 89, objG (X3 PySem.Challenge.pw_ij0175_01 (w.withFollow "special-get-raises" true) g h k os 1772 1 0 0 225 364) 88, objG (X3 PySem.Challenge.pw_ij0175_01 (w.withFollow "special-get-raises" true) g h k os 1772 1 0 0 225 364) 87, objG (X3 PySem.Challenge.pw_ij0175_01 (w.withFollow "special-get-raises" true) g h k os 1772 1 0 0 225 364) 86, objG (X3 PySem.Challenge.pw_ij0175_01 (w.withFollow "special-get-raises" true) g h k os 1772 1 0 0 225 364) 85, objG (X3 PySem.Challenge.pw_ij0175_01 (w.withFollow "special-get-raises" true) g h k os 1772 1 0 0 225 364) 84, objG (X3 PySem.Challenge.pw_ij0175_01 (w.withFollow "special-get-raises" true) g h k os 1772 1 0 0 225 364) 83, objG (X3 PySem.Challenge.pw_ij0175_01 (w.withFollow "special-get-raises" true) g h k os 1772 1 0 0 225 364) 82, objG (X3 PySem.Challenge.pw_ij0175_01 (w.withFollow "special-get-raises" true) g h k os 1772 1 0 0 225 364) 81, objG (X3 PySem.Challenge.pw_ij0175_01 (w.withFollow "special-get-raises" true) g h k os 1772 1 0 0 225 364) 80, objG (X3 PySem.Challenge.pw_ij0175_01 (w.withFollow "special-get-raises" true) g h k os 1772 1 0 0 225 364) 79, objG (X3 PySem.Challenge.pw_ij0175_01 (w.withFollow "special-get-raises" true) g h k os 1772 1 0 0 225 364) 78, objG (X3 PySem.Challenge.pw_ij0175_01 (w.withFollow "special-get-raises" true) g h k os 1772 1 0 0 225 364) 77, objG (X3 PySem.Challenge.pw_ij0175_01 (w.withFollow "special-get-raises" true) g h k os 1772 1 0 0 225 364) 76, objG (X3 PySem.Challenge.pw_ij0175_01 (w.withFollow "special-get-raises" true) g h k os 1772 1 0 0 225 364) 75, objG (X3 PySem.Challenge.pw_ij0175_01 (w.withFollow "special-get-raises" true) g h k os 1772 1 0 0 225 364) 74, objG (X3 PySem.Challenge.pw_ij0175_01 (w.withFollow "special-get-raises" true) g h k os 1772 1 0 0 225 364) 73, objG (X3 PySem.Challenge.pw_ij0175_01 (w.withFollow "special-get-raises" true) g h k os 1772 1 0 0 225 364) 72, objG (X3 PySem.Challenge.pw_ij0175_01 (w.withFollow "special-get-raises" true) g h k os 1772 1 0 0 225 364) 71, objG (X3 PySem.Challenge.pw_ij0175_01 (w.withFollow "special-get-raises" true) g h k os 1772 1 0 0 225 364) 70, objG (X3 PySem.Challenge.pw_ij0175_01 (w.withFollow "special-get-raises" true) g h k os 1772 1 0 0 225 364) 69, objG (X3 PySem.Challenge.pw_ij0175_01 (w.withFollow "special-get-raises" true) g h k os 1772 1 0 0 225 364) 68, objG (X3 PySem.Challenge.pw_ij0175_01 (w.withFollow "special-get-raises" true) g h k os 1772 1 0 0 225 364) 67, objG (X3 PySem.Challenge.pw_ij0175_01 (w.withFollow "special-get-raises" true) g h k os 1772 1 0 0 225 364) 66, objG (X3 PySem.Challenge.pw_ij0175_01 (w.withFollow "special-get-raises" true) g h k os 1772 1 0 0 225 364) 65, objG (X3 PySem.Challenge.pw_ij0175_01 (w.withFollow "special-get-raises" true) g h k os 1772 1 0 0 225 364) 64, objG (X3 PySem.Challenge.pw_ij0175_01 (w.withFollow "special-get-raises" true) g h k os 1772 1 0 0 225 364) 63, objG (X3 PySem.Challenge.pw_ij0175_01 (w.withFollow "special-get-raises" true) g h k os 1772 1 0 0 225 364) 62, objG (X3 PySem.Challenge.pw_ij0175_01 (w.withFollow "special-get-raises" true) g h k os 1772 1 0 0 225 364) 61, objG (X3 PySem.Challenge.pw_ij0175_01 (w.withFollow "special-get-raises" true) g h k os 1772 1 0 0 225 364) 60, objG (X3 PySem.Challenge.pw_ij0175_01 (w.withFollow "special-get-raises" true) g h k os 1772 1 0 0 225 364) 59, objG (X3 PySem.Challenge.pw_ij0175_01 (w.withFollow "special-get-raises" true) g h k os 1772 1 0 0 225 364) 58, objG (X3 PySem.Challenge.pw_ij0175_01 (w.withFollow "special-get-raises" true) g h k os 1772 1 0 0 225 364) 57, objG (X3 PySem.Challenge.pw_ij0175_01 (w.withFollow "special-get-raises" true) g h k os 1772 1 0 0 225 364) 56, objG (X3 PySem.Challenge.pw_ij0175_01 (w.withFollow "special-get-raises" true) g h k os 1772 1 0 0 225 364) 55, objG (X3 PySem.Challenge.pw_ij0175_01 (w.withFollow "special-get-raises" true) g h k os 1772 1 0 0 225 364) 54, objG (X3 PySem.Challenge.pw_ij0175_01 (w.withFollow "special-get-raises" true) g h k os 1772 1 0 0 225 364) 53, objG (X3 PySem.Challenge.pw_ij0175_01 (w.withFollow "special-get-raises" true) g h k os 1772 1 0 0 225 364) 52, objG (X3 PySem.Challenge.pw_ij0175_01 (w.withFollow "special-get-raises" true) g h k os 1772 1 0 0 225 364) 51, objG (X3 PySem.Challenge.pw_ij0175_01 (w.withFollow "special-get-raises" true) g h k os 1772 1 0 0 225 364) 50, objG (X3 PySem.Challenge.pw_ij0175_01 (w.withFollow "special-get-raises" true) g h k os 1772 1 0 0 225 364) 49] = [tup PySem.Challenge.pw_ij0175_01 43, tup PySem.Challenge.pw_ij0175_01 42, tup PySem.Challenge.pw_ij0175_01 41, tup PySem.Challenge.pw_ij0175_01 40, tup PySem.Challenge.pw_ij0175_01 39, tup PySem.Challenge.pw_ij0175_01 38, tup PySem.Challenge.pw_ij0175_01 37, tup PySem.Challenge.pw_ij0175_01 36, tup PySem.Challenge.pw_ij0175_01 35, tup PySem.Challenge.pw_ij0175_01 34, tup PySem.Challenge.pw_ij0175_01 33, tup PySem.Challenge.pw_ij0175_01 32, tup PySem.Challenge.pw_ij0175_01 31, tup PySem.Challenge.pw_ij0175_01 30, tup PySem.Challenge.pw_ij0175_01 29, tup PySem.Challenge.pw_ij0175_01 28, tup PySem.Challenge.pw_ij0175_01 27, tup PySem.Challenge.pw_ij0175_01 26, tup PySem.Challenge.pw_ij0175_01 25, tup PySem.Challenge.pw_ij0175_01 24, tup PySem.Challenge.pw_ij0175_01 23, tup PySem.Challenge.pw_ij0175_01 22, tup PySem.Challenge.pw_ij0175_01 21, tup PySem.Challenge.pw_ij0175_01 20, tup PySem.Challenge.pw_ij0175_01 19, tup PySem.Challenge.pw_ij0175_01 18, tup PySem.Challenge.pw_ij0175_01 17, tup PySem.Challenge.pw_ij0175_01 16, tup PySem.Challenge.pw_ij0175_01 15, tup PySem.Challenge.pw_ij0175_01 14, tup PySem.Challenge.pw_ij0175_01 13, tup PySem.Challenge.pw_ij0175_01 12, tup PySem.Challenge.pw_ij0175_01 11, tup PySem.Challenge.pw_ij0175_01 10, tup PySem.Challenge.pw_ij0175_01 9, tup PySem.Challenge.pw_ij0175_01 8, tup PySem.Challenge.pw_ij0175_01 7, tup PySem.Challenge.pw_ij0175_01 6, tup PySem.Challenge.pw_ij0175_01 5, tup PySem.Challenge.pw_ij0175_01 4, tup PySem.Challenge.pw_ij0175_01 3, tup PySem.Challenge.pw_ij0175_01 2, tup PySem.Challenge.pw_ij0175_01 1, tup PySem.Challenge.pw_ij0175_01 0] ∧ [objG (X3 PySem.Challenge.pw_ij0175_01 (w.withFollow "special-get-raises" true) g h k os 1772 1 0 0 225 364) 95, objG (X3 PySem.Challenge.pw_ij0175_01 (w.withFollow "special-get-raises" true) g h k os 1772 1 0 0 225 364) 98] = [sorted', iter' 15] := by
  rw [PySem.W.Fast.te10295753902157049106, PySem.W.Fast.te14364793385576792824, PySem.W.Fast.te5175542366172373081]
  exact ⟨by rfl, by kernel_rfl, by kernel_rfl, by kernel_rfl, by kernel_rfl⟩
theorem keyL1 (w : World) (os : OsState) (g h : Nat → Obj) (k : Result → Sem Fin) : (segGoT treeTable PySem.Challenge.pw_ij0175_01 w 11 an 1 1772 (SL w.params PySem.Challenge.pw_ij0175_01 g h 1 0 0 225 364 os) (TL PySem.Challenge.pw_ij0175_01 k) = X3 PySem.Challenge.pw_ij0175_01 w g h k os 1772 1 0 0 225 364) ∧ (X3 PySem.Challenge.pw_ij0175_01 w g h k os 1772 1 0 0 225 364).map stG = some ((144, {}, Array.mk [], boot_drawn, 451, os), TL PySem.Challenge.pw_ij0175_01 k) ∧ [objG (X3 PySem.Challenge.pw_ij0175_01 w g h k os 1772 1 0 0 225 364) 45, objG (X3 PySem.Challenge.pw_ij0175_01 w g h k os 1772 1 0 0 225 364) 44, objG (X3 PySem.Challenge.pw_ij0175_01 w g h k os 1772 1 0 0 225 364) 43, objG (X3 PySem.Challenge.pw_ij0175_01 w g h k os 1772 1 0 0 225 364) 42, objG (X3 PySem.Challenge.pw_ij0175_01 w g h k os 1772 1 0 0 225 364) 41, objG (X3 PySem.Challenge.pw_ij0175_01 w g h k os 1772 1 0 0 225 364) 40, objG (X3 PySem.Challenge.pw_ij0175_01 w g h k os 1772 1 0 0 225 364) 39, objG (X3 PySem.Challenge.pw_ij0175_01 w g h k os 1772 1 0 0 225 364) 38, objG (X3 PySem.Challenge.pw_ij0175_01 w g h k os 1772 1 0 0 225 364) 37, objG (X3 PySem.Challenge.pw_ij0175_01 w g h k os 1772 1 0 0 225 364) 36, objG (X3 PySem.Challenge.pw_ij0175_01 w g h k os 1772 1 0 0 225 364) 35, objG (X3 PySem.Challenge.pw_ij0175_01 w g h k os 1772 1 0 0 225 364) 34, objG (X3 PySem.Challenge.pw_ij0175_01 w g h k os 1772 1 0 0 225 364) 33, objG (X3 PySem.Challenge.pw_ij0175_01 w g h k os 1772 1 0 0 225 364) 32, objG (X3 PySem.Challenge.pw_ij0175_01 w g h k os 1772 1 0 0 225 364) 31, objG (X3 PySem.Challenge.pw_ij0175_01 w g h k os 1772 1 0 0 225 364) 30, objG (X3 PySem.Challenge.pw_ij0175_01 w g h k os 1772 1 0 0 225 364) 29, objG (X3 PySem.Challenge.pw_ij0175_01 w g h k os 1772 1 0 0 225 364) 28, objG (X3 PySem.Challenge.pw_ij0175_01 w g h k os 1772 1 0 0 225 364) 27, objG (X3 PySem.Challenge.pw_ij0175_01 w g h k os 1772 1 0 0 225 364) 26, objG (X3 PySem.Challenge.pw_ij0175_01 w g h k os 1772 1 0 0 225 364) 25, objG (X3 PySem.Challenge.pw_ij0175_01 w g h k os 1772 1 0 0 225 364) 24, objG (X3 PySem.Challenge.pw_ij0175_01 w g h k os 1772 1 0 0 225 364) 23, objG (X3 PySem.Challenge.pw_ij0175_01 w g h k os 1772 1 0 0 225 364) 22, objG (X3 PySem.Challenge.pw_ij0175_01 w g h k os 1772 1 0 0 225 364) 21, objG (X3 PySem.Challenge.pw_ij0175_01 w g h k os 1772 1 0 0 225 364) 20, objG (X3 PySem.Challenge.pw_ij0175_01 w g h k os 1772 1 0 0 225 364) 19, objG (X3 PySem.Challenge.pw_ij0175_01 w g h k os 1772 1 0 0 225 364) 18, objG (X3 PySem.Challenge.pw_ij0175_01 w g h k os 1772 1 0 0 225 364) 17, objG (X3 PySem.Challenge.pw_ij0175_01 w g h k os 1772 1 0 0 225 364) 16, objG (X3 PySem.Challenge.pw_ij0175_01 w g h k os 1772 1 0 0 225 364) 15, objG (X3 PySem.Challenge.pw_ij0175_01 w g h k os 1772 1 0 0 225 364) 14, objG (X3 PySem.Challenge.pw_ij0175_01 w g h k os 1772 1 0 0 225 364) 13, objG (X3 PySem.Challenge.pw_ij0175_01 w g h k os 1772 1 0 0 225 364) 12, objG (X3 PySem.Challenge.pw_ij0175_01 w g h k os 1772 1 0 0 225 364) 11, objG (X3 PySem.Challenge.pw_ij0175_01 w g h k os 1772 1 0 0 225 364) 10, objG (X3 PySem.Challenge.pw_ij0175_01 w g h k os 1772 1 0 0 225 364) 9, objG (X3 PySem.Challenge.pw_ij0175_01 w g h k os 1772 1 0 0 225 364) 8, objG (X3 PySem.Challenge.pw_ij0175_01 w g h k os 1772 1 0 0 225 364) 7, objG (X3 PySem.Challenge.pw_ij0175_01 w g h k os 1772 1 0 0 225 364) 6, objG (X3 PySem.Challenge.pw_ij0175_01 w g h k os 1772 1 0 0 225 364) 5, objG (X3 PySem.Challenge.pw_ij0175_01 w g h k os 1772 1 0 0 225 364) 4, objG (X3 PySem.Challenge.pw_ij0175_01 w g h k os 1772 1 0 0 225 364) 3, objG (X3 PySem.Challenge.pw_ij0175_01 w g h k os 1772 1 0 0 225 364) 2, objG (X3 PySem.Challenge.pw_ij0175_01 w g h k os 1772 1 0 0 225 364) 1, objG (X3 PySem.Challenge.pw_ij0175_01 w g h k os 1772 1 0 0 225 364) 0] = [g 45, g 44, alias' w.params PySem.Challenge.pw_ij0175_01 3, g 42, g 41, g 40, g 39, g 38, g 37, g 36, g 35, g 34, g 33, g 32, g 31, g 30, g 29, g 28, g 27, g 26, g 25, g 24, g 23, g 22, g 21, g 20, g 19, g 18, g 17, g 16, g 15, g 14, g 13, g 12, g 11, fB w.params 10, fB w.params 9, fB w.params 8, fB w.params 7, fB w.params 6, fB w.params 5, fB w.params 4, nsL w.params PySem.Challenge.pw_ij0175_01 31 448, fB w.params 2, fB w.params 1, fB w.params 0] ∧ [objG (X3 PySem.Challenge.pw_ij0175_01 w g h k os 1772 1 0 0 225 364) 92, objG (X3 PySem.Challenge.pw_ij0175_01 w g h k os 1772 1 0 0 225 364) 91, objG (X3 PySem.Challenge.pw_ij0175_01 w g h k os 1772 1 0 0 225 364) 90, objG (X3 PySem.Challenge.pw_ij0175_01 w g h k os 1772 1 0 0 225 364) 89, objG (X3 PySem.Challenge.pw_ij0175_01 w g h k os 1772 1 0 0 225 364) 88, objG (X3 PySem.Challenge.pw_ij0175_01 w g h k os 1772 1 0 0 225 364) 87, objG (X3 PySem.Challenge.pw_ij0175_01 w g h k os 1772 1 0 0 225 364) 86, objG (X3 PySem.Challenge.pw_ij0175_01 w g h k os 1772 1 0 0 225 364) 85, objG (X3 PySem.Challenge.pw_ij0175_01 w g h k os 1772 1 0 0 225 364) 84, objG (X3 PySem.Challenge.pw_ij0175_01 w g h k os 1772 1 0 0 225 364) 83, objG (X3 PySem.Challenge.pw_ij0175_01 w g h k os 1772 1 0 0 225 364) 82, objG (X3 PySem.Challenge.pw_ij0175_01 w g h k os 1772 1 0 0 225 364) 81, objG (X3 PySem.Challenge.pw_ij0175_01 w g h k os 1772 1 0 0 225 364) 80, objG (X3 PySem.Challenge.pw_ij0175_01 w g h k os 1772 1 0 0 225 364) 79, objG (X3 PySem.Challenge.pw_ij0175_01 w g h k os 1772 1 0 0 225 364) 78, objG (X3 PySem.Challenge.pw_ij0175_01 w g h k os 1772 1 0 0 225 364) 77, objG (X3 PySem.Challenge.pw_ij0175_01 w g h k os 1772 1 0 0 225 364) 76, objG (X3 PySem.Challenge.pw_ij0175_01 w g h k os 1772 1 0 0 225 364) 75, objG (X3 PySem.Challenge.pw_ij0175_01 w g h k os 1772 1 0 0 225 364) 74, objG (X3 PySem.Challenge.pw_ij0175_01 w g h k os 1772 1 0 0 225 364) 73, objG (X3 PySem.Challenge.pw_ij0175_01 w g h k os 1772 1 0 0 225 364) 72, objG (X3 PySem.Challenge.pw_ij0175_01 w g h k os 1772 1 0 0 225 364) 71, objG (X3 PySem.Challenge.pw_ij0175_01 w g h k os 1772 1 0 0 225 364) 70, objG (X3 PySem.Challenge.pw_ij0175_01 w g h k os 1772 1 0 0 225 364) 69, objG (X3 PySem.Challenge.pw_ij0175_01 w g h k os 1772 1 0 0 225 364) 68, objG (X3 PySem.Challenge.pw_ij0175_01 w g h k os 1772 1 0 0 225 364) 67, objG (X3 PySem.Challenge.pw_ij0175_01 w g h k os 1772 1 0 0 225 364) 66, objG (X3 PySem.Challenge.pw_ij0175_01 w g h k os 1772 1 0 0 225 364) 65, objG (X3 PySem.Challenge.pw_ij0175_01 w g h k os 1772 1 0 0 225 364) 64, objG (X3 PySem.Challenge.pw_ij0175_01 w g h k os 1772 1 0 0 225 364) 63, objG (X3 PySem.Challenge.pw_ij0175_01 w g h k os 1772 1 0 0 225 364) 62, objG (X3 PySem.Challenge.pw_ij0175_01 w g h k os 1772 1 0 0 225 364) 61, objG (X3 PySem.Challenge.pw_ij0175_01 w g h k os 1772 1 0 0 225 364) 60, objG (X3 PySem.Challenge.pw_ij0175_01 w g h k os 1772 1 0 0 225 364) 59, objG (X3 PySem.Challenge.pw_ij0175_01 w g h k os 1772 1 0 0 225 364) 58, objG (X3 PySem.Challenge.pw_ij0175_01 w g h k os 1772 1 0 0 225 364) 57, objG (X3 PySem.Challenge.pw_ij0175_01 w g h k os 1772 1 0 0 225 364) 56, objG (X3 PySem.Challenge.pw_ij0175_01 w g h k os 1772 1 0 0 225 364) 55, objG (X3 PySem.Challenge.pw_ij0175_01 w g h k os 1772 1 0 0 225 364) 54, objG (X3 PySem.Challenge.pw_ij0175_01 w g h k os 1772 1 0 0 225 364) 53, objG (X3 PySem.Challenge.pw_ij0175_01 w g h k os 1772 1 0 0 225 364) 52, objG (X3 PySem.Challenge.pw_ij0175_01 w g h k os 1772 1 0 0 225 364) 51, objG (X3 PySem.Challenge.pw_ij0175_01 w g h k os 1772 1 0 0 225 364) 50, objG (X3 PySem.Challenge.pw_ij0175_01 w g h k os 1772 1 0 0 225 364) 49] = [tup PySem.Challenge.pw_ij0175_01 43, tup PySem.Challenge.pw_ij0175_01 42, tup PySem.Challenge.pw_ij0175_01 41, tup PySem.Challenge.pw_ij0175_01 40, tup PySem.Challenge.pw_ij0175_01 39, tup PySem.Challenge.pw_ij0175_01 38, tup PySem.Challenge.pw_ij0175_01 37, tup PySem.Challenge.pw_ij0175_01 36, tup PySem.Challenge.pw_ij0175_01 35, tup PySem.Challenge.pw_ij0175_01 34, tup PySem.Challenge.pw_ij0175_01 33, tup PySem.Challenge.pw_ij0175_01 32, tup PySem.Challenge.pw_ij0175_01 31, tup PySem.Challenge.pw_ij0175_01 30, tup PySem.Challenge.pw_ij0175_01 29, tup PySem.Challenge.pw_ij0175_01 28, tup PySem.Challenge.pw_ij0175_01 27, tup PySem.Challenge.pw_ij0175_01 26, tup PySem.Challenge.pw_ij0175_01 25, tup PySem.Challenge.pw_ij0175_01 24, tup PySem.Challenge.pw_ij0175_01 23, tup PySem.Challenge.pw_ij0175_01 22, tup PySem.Challenge.pw_ij0175_01 21, tup PySem.Challenge.pw_ij0175_01 20, tup PySem.Challenge.pw_ij0175_01 19, tup PySem.Challenge.pw_ij0175_01 18, tup PySem.Challenge.pw_ij0175_01 17, tup PySem.Challenge.pw_ij0175_01 16, tup PySem.Challenge.pw_ij0175_01 15, tup PySem.Challenge.pw_ij0175_01 14, tup PySem.Challenge.pw_ij0175_01 13, tup PySem.Challenge.pw_ij0175_01 12, tup PySem.Challenge.pw_ij0175_01 11, tup PySem.Challenge.pw_ij0175_01 10, tup PySem.Challenge.pw_ij0175_01 9, tup PySem.Challenge.pw_ij0175_01 8, tup PySem.Challenge.pw_ij0175_01 7, tup PySem.Challenge.pw_ij0175_01 6, tup PySem.Challenge.pw_ij0175_01 5, tup PySem.Challenge.pw_ij0175_01 4, tup PySem.Challenge.pw_ij0175_01 3, tup PySem.Challenge.pw_ij0175_01 2, tup PySem.Challenge.pw_ij0175_01 1, tup PySem.Challenge.pw_ij0175_01 0] ∧ [objG (X3 PySem.Challenge.pw_ij0175_01 w g h k os 1772 1 0 0 225 364) 95, objG (X3 PySem.Challenge.pw_ij0175_01 w g h k os 1772 1 0 0 225 364) 98] = [sorted', iter' 15] :=
  byRow2 "special-get-raises" (P := fun w => ∀ (os : OsState) (g h : Nat → Obj) (k : Result → Sem Fin), (segGoT treeTable PySem.Challenge.pw_ij0175_01 w 11 an 1 1772 (SL w.params PySem.Challenge.pw_ij0175_01 g h 1 0 0 225 364 os) (TL PySem.Challenge.pw_ij0175_01 k) = X3 PySem.Challenge.pw_ij0175_01 w g h k os 1772 1 0 0 225 364) ∧ (X3 PySem.Challenge.pw_ij0175_01 w g h k os 1772 1 0 0 225 364).map stG = some ((144, {}, Array.mk [], boot_drawn, 451, os), TL PySem.Challenge.pw_ij0175_01 k) ∧ [objG (X3 PySem.Challenge.pw_ij0175_01 w g h k os 1772 1 0 0 225 364) 45, objG (X3 PySem.Challenge.pw_ij0175_01 w g h k os 1772 1 0 0 225 364) 44, objG (X3 PySem.Challenge.pw_ij0175_01 w g h k os 1772 1 0 0 225 364) 43, objG (X3 PySem.Challenge.pw_ij0175_01 w g h k os 1772 1 0 0 225 364) 42, objG (X3 PySem.Challenge.pw_ij0175_01 w g h k os 1772 1 0 0 225 364) 41, objG (X3 PySem.Challenge.pw_ij0175_01 w g h k os 1772 1 0 0 225 364) 40, objG (X3 PySem.Challenge.pw_ij0175_01 w g h k os 1772 1 0 0 225 364) 39, objG (X3 PySem.Challenge.pw_ij0175_01 w g h k os 1772 1 0 0 225 364) 38, objG (X3 PySem.Challenge.pw_ij0175_01 w g h k os 1772 1 0 0 225 364) 37, objG (X3 PySem.Challenge.pw_ij0175_01 w g h k os 1772 1 0 0 225 364) 36, objG (X3 PySem.Challenge.pw_ij0175_01 w g h k os 1772 1 0 0 225 364) 35, objG (X3 PySem.Challenge.pw_ij0175_01 w g h k os 1772 1 0 0 225 364) 34, objG (X3 PySem.Challenge.pw_ij0175_01 w g h k os 1772 1 0 0 225 364) 33, objG (X3 PySem.Challenge.pw_ij0175_01 w g h k os 1772 1 0 0 225 364) 32, objG (X3 PySem.Challenge.pw_ij0175_01 w g h k os 1772 1 0 0 225 364) 31, objG (X3 PySem.Challenge.pw_ij0175_01 w g h k os 1772 1 0 0 225 364) 30, objG (X3 PySem.Challenge.pw_ij0175_01 w g h k os 1772 1 0 0 225 364) 29, objG (X3 PySem.Challenge.pw_ij0175_01 w g h k os 1772 1 0 0 225 364) 28, objG (X3 PySem.Challenge.pw_ij0175_01 w g h k os 1772 1 0 0 225 364) 27, objG (X3 PySem.Challenge.pw_ij0175_01 w g h k os 1772 1 0 0 225 364) 26, objG (X3 PySem.Challenge.pw_ij0175_01 w g h k os 1772 1 0 0 225 364) 25, objG (X3 PySem.Challenge.pw_ij0175_01 w g h k os 1772 1 0 0 225 364) 24, objG (X3 PySem.Challenge.pw_ij0175_01 w g h k os 1772 1 0 0 225 364) 23, objG (X3 PySem.Challenge.pw_ij0175_01 w g h k os 1772 1 0 0 225 364) 22, objG (X3 PySem.Challenge.pw_ij0175_01 w g h k os 1772 1 0 0 225 364) 21, objG (X3 PySem.Challenge.pw_ij0175_01 w g h k os 1772 1 0 0 225 364) 20, objG (X3 PySem.Challenge.pw_ij0175_01 w g h k os 1772 1 0 0 225 364) 19, objG (X3 PySem.Challenge.pw_ij0175_01 w g h k os 1772 1 0 0 225 364) 18, objG (X3 PySem.Challenge.pw_ij0175_01 w g h k os 1772 1 0 0 225 364) 17, objG (X3 PySem.Challenge.pw_ij0175_01 w g h k os 1772 1 0 0 225 364) 16, objG (X3 PySem.Challenge.pw_ij0175_01 w g h k os 1772 1 0 0 225 364) 15, objG (X3 PySem.Challenge.pw_ij0175_01 w g h k os 1772 1 0 0 225 364) 14, objG (X3 PySem.Challenge.pw_ij0175_01 w g h k os 1772 1 0 0 225 364) 13, objG (X3 PySem.Challenge.pw_ij0175_01 w g h k os 1772 1 0 0 225 364) 12, objG (X3 PySem.Challenge.pw_ij0175_01 w g h k os 1772 1 0 0 225 364) 11, objG (X3 PySem.Challenge.pw_ij0175_01 w g h k os 1772 1 0 0 225 364) 10, objG (X3 PySem.Challenge.pw_ij0175_01 w g h k os 1772 1 0 0 225 364) 9, objG (X3 PySem.Challenge.pw_ij0175_01 w g h k os 1772 1 0 0 225 364) 8, objG (X3 PySem.Challenge.pw_ij0175_01 w g h k os 1772 1 0 0 225 364) 7, objG (X3 PySem.Challenge.pw_ij0175_01 w g h k os 1772 1 0 0 225 364) 6, objG (X3 PySem.Challenge.pw_ij0175_01 w g h k os 1772 1 0 0 225 364) 5, objG (X3 PySem.Challenge.pw_ij0175_01 w g h k os 1772 1 0 0 225 364) 4, objG (X3 PySem.Challenge.pw_ij0175_01 w g h k os 1772 1 0 0 225 364) 3, objG (X3 PySem.Challenge.pw_ij0175_01 w g h k os 1772 1 0 0 225 364) 2, objG (X3 PySem.Challenge.pw_ij0175_01 w g h k os 1772 1 0 0 225 364) 1, objG (X3 PySem.Challenge.pw_ij0175_01 w g h k os 1772 1 0 0 225 364) 0] = [g 45, g 44, alias' w.params PySem.Challenge.pw_ij0175_01 3, g 42, g 41, g 40, g 39, g 38, g 37, g 36, g 35, g 34, g 33, g 32, g 31, g 30, g 29, g 28, g 27, g 26, g 25, g 24, g 23, g 22, g 21, g 20, g 19, g 18, g 17, g 16, g 15, g 14, g 13, g 12, g 11, fB w.params 10, fB w.params 9, fB w.params 8, fB w.params 7, fB w.params 6, fB w.params 5, fB w.params 4, nsL w.params PySem.Challenge.pw_ij0175_01 31 448, fB w.params 2, fB w.params 1, fB w.params 0] ∧ [objG (X3 PySem.Challenge.pw_ij0175_01 w g h k os 1772 1 0 0 225 364) 92, objG (X3 PySem.Challenge.pw_ij0175_01 w g h k os 1772 1 0 0 225 364) 91, objG (X3 PySem.Challenge.pw_ij0175_01 w g h k os 1772 1 0 0 225 364) 90, objG (X3 PySem.Challenge.pw_ij0175_01 w g h k os 1772 1 0 0 225 364) 89, objG (X3 PySem.Challenge.pw_ij0175_01 w g h k os 1772 1 0 0 225 364) 88, objG (X3 PySem.Challenge.pw_ij0175_01 w g h k os 1772 1 0 0 225 364) 87, objG (X3 PySem.Challenge.pw_ij0175_01 w g h k os 1772 1 0 0 225 364) 86, objG (X3 PySem.Challenge.pw_ij0175_01 w g h k os 1772 1 0 0 225 364) 85, objG (X3 PySem.Challenge.pw_ij0175_01 w g h k os 1772 1 0 0 225 364) 84, objG (X3 PySem.Challenge.pw_ij0175_01 w g h k os 1772 1 0 0 225 364) 83, objG (X3 PySem.Challenge.pw_ij0175_01 w g h k os 1772 1 0 0 225 364) 82, objG (X3 PySem.Challenge.pw_ij0175_01 w g h k os 1772 1 0 0 225 364) 81, objG (X3 PySem.Challenge.pw_ij0175_01 w g h k os 1772 1 0 0 225 364) 80, objG (X3 PySem.Challenge.pw_ij0175_01 w g h k os 1772 1 0 0 225 364) 79, objG (X3 PySem.Challenge.pw_ij0175_01 w g h k os 1772 1 0 0 225 364) 78, objG (X3 PySem.Challenge.pw_ij0175_01 w g h k os 1772 1 0 0 225 364) 77, objG (X3 PySem.Challenge.pw_ij0175_01 w g h k os 1772 1 0 0 225 364) 76, objG (X3 PySem.Challenge.pw_ij0175_01 w g h k os 1772 1 0 0 225 364) 75, objG (X3 PySem.Challenge.pw_ij0175_01 w g h k os 1772 1 0 0 225 364) 74, objG (X3 PySem.Challenge.pw_ij0175_01 w g h k os 1772 1 0 0 225 364) 73, objG (X3 PySem.Challenge.pw_ij0175_01 w g h k os 1772 1 0 0 225 364) 72, objG (X3 PySem.Challenge.pw_ij0175_01 w g h k os 1772 1 0 0 225 364) 71, objG (X3 PySem.Challenge.pw_ij0175_01 w g h k os 1772 1 0 0 225 364) 70, objG (X3 PySem.Challenge.pw_ij0175_01 w g h k os 1772 1 0 0 225 364) 69, objG (X3 PySem.Challenge.pw_ij0175_01 w g h k os 1772 1 0 0 225 364) 68, objG (X3 PySem.Challenge.pw_ij0175_01 w g h k os 1772 1 0 0 225 364) 67, objG (X3 PySem.Challenge.pw_ij0175_01 w g h k os 1772 1 0 0 225 364) 66, objG (X3 PySem.Challenge.pw_ij0175_01 w g h k os 1772 1 0 0 225 364) 65, objG (X3 PySem.Challenge.pw_ij0175_01 w g h k os 1772 1 0 0 225 364) 64, objG (X3 PySem.Challenge.pw_ij0175_01 w g h k os 1772 1 0 0 225 364) 63, objG (X3 PySem.Challenge.pw_ij0175_01 w g h k os 1772 1 0 0 225 364) 62, objG (X3 PySem.Challenge.pw_ij0175_01 w g h k os 1772 1 0 0 225 364) 61, objG (X3 PySem.Challenge.pw_ij0175_01 w g h k os 1772 1 0 0 225 364) 60, objG (X3 PySem.Challenge.pw_ij0175_01 w g h k os 1772 1 0 0 225 364) 59, objG (X3 PySem.Challenge.pw_ij0175_01 w g h k os 1772 1 0 0 225 364) 58, objG (X3 PySem.Challenge.pw_ij0175_01 w g h k os 1772 1 0 0 225 364) 57, objG (X3 PySem.Challenge.pw_ij0175_01 w g h k os 1772 1 0 0 225 364) 56, objG (X3 PySem.Challenge.pw_ij0175_01 w g h k os 1772 1 0 0 225 364) 55, objG (X3 PySem.Challenge.pw_ij0175_01 w g h k os 1772 1 0 0 225 364) 54, objG (X3 PySem.Challenge.pw_ij0175_01 w g h k os 1772 1 0 0 225 364) 53, objG (X3 PySem.Challenge.pw_ij0175_01 w g h k os 1772 1 0 0 225 364) 52, objG (X3 PySem.Challenge.pw_ij0175_01 w g h k os 1772 1 0 0 225 364) 51, objG (X3 PySem.Challenge.pw_ij0175_01 w g h k os 1772 1 0 0 225 364) 50, objG (X3 PySem.Challenge.pw_ij0175_01 w g h k os 1772 1 0 0 225 364) 49] = [tup PySem.Challenge.pw_ij0175_01 43, tup PySem.Challenge.pw_ij0175_01 42, tup PySem.Challenge.pw_ij0175_01 41, tup PySem.Challenge.pw_ij0175_01 40, tup PySem.Challenge.pw_ij0175_01 39, tup PySem.Challenge.pw_ij0175_01 38, tup PySem.Challenge.pw_ij0175_01 37, tup PySem.Challenge.pw_ij0175_01 36, tup PySem.Challenge.pw_ij0175_01 35, tup PySem.Challenge.pw_ij0175_01 34, tup PySem.Challenge.pw_ij0175_01 33, tup PySem.Challenge.pw_ij0175_01 32, tup PySem.Challenge.pw_ij0175_01 31, tup PySem.Challenge.pw_ij0175_01 30, tup PySem.Challenge.pw_ij0175_01 29, tup PySem.Challenge.pw_ij0175_01 28, tup PySem.Challenge.pw_ij0175_01 27, tup PySem.Challenge.pw_ij0175_01 26, tup PySem.Challenge.pw_ij0175_01 25, tup PySem.Challenge.pw_ij0175_01 24, tup PySem.Challenge.pw_ij0175_01 23, tup PySem.Challenge.pw_ij0175_01 22, tup PySem.Challenge.pw_ij0175_01 21, tup PySem.Challenge.pw_ij0175_01 20, tup PySem.Challenge.pw_ij0175_01 19, tup PySem.Challenge.pw_ij0175_01 18, tup PySem.Challenge.pw_ij0175_01 17, tup PySem.Challenge.pw_ij0175_01 16, tup PySem.Challenge.pw_ij0175_01 15, tup PySem.Challenge.pw_ij0175_01 14, tup PySem.Challenge.pw_ij0175_01 13, tup PySem.Challenge.pw_ij0175_01 12, tup PySem.Challenge.pw_ij0175_01 11, tup PySem.Challenge.pw_ij0175_01 10, tup PySem.Challenge.pw_ij0175_01 9, tup PySem.Challenge.pw_ij0175_01 8, tup PySem.Challenge.pw_ij0175_01 7, tup PySem.Challenge.pw_ij0175_01 6, tup PySem.Challenge.pw_ij0175_01 5, tup PySem.Challenge.pw_ij0175_01 4, tup PySem.Challenge.pw_ij0175_01 3, tup PySem.Challenge.pw_ij0175_01 2, tup PySem.Challenge.pw_ij0175_01 1, tup PySem.Challenge.pw_ij0175_01 0] ∧ [objG (X3 PySem.Challenge.pw_ij0175_01 w g h k os 1772 1 0 0 225 364) 95, objG (X3 PySem.Challenge.pw_ij0175_01 w g h k os 1772 1 0 0 225 364) 98] = [sorted', iter' 15]) (fun w os g h k => keyL1F w os g h k) (fun w os g h k => keyL1T w os g h k) w os g h k

theorem turn1 (w : World) (os : OsState) (g h : Nat → Obj) (k : Result → Sem Fin) : ∃ s h2, segGoT treeTable PySem.Challenge.pw_ij0175_01 w 11 an 1 1772 (SL w.params PySem.Challenge.pw_ij0175_01 g h 1 0 0 225 364 os) (TL PySem.Challenge.pw_ij0175_01 k) = some (s, TL PySem.Challenge.pw_ij0175_01 k) ∧ s.abs = (SL w.params PySem.Challenge.pw_ij0175_01 g h2 15 3 31 448 451 os).abs := by
  obtain ⟨e, k1, k3, k4, k5⟩ := keyL1 w os g h k
  obtain ⟨s, h1, h2⟩ := go_abs (f := fL w.params PySem.Challenge.pw_ij0175_01 g (objG (X3 PySem.Challenge.pw_ij0175_01 w g h k os 1772 1 0 0 225 364)) 15 3 31 448) k1 (by decide) fun i _ => fL_is k3 k4 k5 i
  exact ⟨s, objG (X3 PySem.Challenge.pw_ij0175_01 w g h k os 1772 1 0 0 225 364), e.trans h1, h2⟩
theorem keyL2F (w : World) (os : OsState) (g h : Nat → Obj) (k : Result → Sem Fin) : (segGoT treeTable PySem.Challenge.pw_ij0175_01 (w.withFollow "special-get-raises" false) 11 an 1 1875 (SL (w.withFollow "special-get-raises" false).params PySem.Challenge.pw_ij0175_01 g h 15 3 31 448 451 os) (TL PySem.Challenge.pw_ij0175_01 k) = X3 PySem.Challenge.pw_ij0175_01 (w.withFollow "special-get-raises" false) g h k os 1875 15 3 31 448 451) ∧ (X3 PySem.Challenge.pw_ij0175_01 (w.withFollow "special-get-raises" false) g h k os 1875 15 3 31 448 451).map stG = some ((189, {}, Array.mk [], boot_drawn, 556, os), TL PySem.Challenge.pw_ij0175_01 k) ∧ [objG (X3 PySem.Challenge.pw_ij0175_01 (w.withFollow "special-get-raises" false) g h k os 1875 15 3 31 448 451) 45, objG (X3 PySem.Challenge.pw_ij0175_01 (w.withFollow "special-get-raises" false) g h k os 1875 15 3 31 448 451) 44, objG (X3 PySem.Challenge.pw_ij0175_01 (w.withFollow "special-get-raises" false) g h k os 1875 15 3 31 448 451) 43, objG (X3 PySem.Challenge.pw_ij0175_01 (w.withFollow "special-get-raises" false) g h k os 1875 15 3 31 448 451) 42, objG (X3 PySem.Challenge.pw_ij0175_01 (w.withFollow "special-get-raises" false) g h k os 1875 15 3 31 448 451) 41, objG (X3 PySem.Challenge.pw_ij0175_01 (w.withFollow "special-get-raises" false) g h k os 1875 15 3 31 448 451) 40, objG (X3 PySem.Challenge.pw_ij0175_01 (w.withFollow "special-get-raises" false) g h k os 1875 15 3 31 448 451) 39, objG (X3 PySem.Challenge.pw_ij0175_01 (w.withFollow "special-get-raises" false) g h k os 1875 15 3 31 448 451) 38, objG (X3 PySem.Challenge.pw_ij0175_01 (w.withFollow "special-get-raises" false) g h k os 1875 15 3 31 448 451) 37, objG (X3 PySem.Challenge.pw_ij0175_01 (w.withFollow "special-get-raises" false) g h k os 1875 15 3 31 448 451) 36, objG (X3 PySem.Challenge.pw_ij0175_01 (w.withFollow "special-get-raises" false) g h k os 1875 15 3 31 448 451) 35, objG (X3 PySem.Challenge.pw_ij0175_01 (w.withFollow "special-get-raises" false) g h k os 1875 15 3 31 448 451) 34, objG (X3 PySem.Challenge.pw_ij0175_01 (w.withFollow "special-get-raises" false) g h k os 1875 15 3 31 448 451) 33, objG (X3 PySem.Challenge.pw_ij0175_01 (w.withFollow "special-get-raises" false) g h k os 1875 15 3 31 448 451) 32, objG (X3 PySem.Challenge.pw_ij0175_01 (w.withFollow "special-get-raises" false) g h k os 1875 15 3 31 448 451) 31, objG (X3 PySem.Challenge.pw_ij0175_01 (w.withFollow "special-get-raises" false) g h k os 1875 15 3 31 448 451) 30, objG (X3 PySem.Challenge.pw_ij0175_01 (w.withFollow "special-get-raises" false) g h k os 1875 15 3 31 448 451) 29, objG (X3 PySem.Challenge.pw_ij0175_01 (w.withFollow "special-get-raises" false) g h k os 1875 15 3 31 448 451) 28, objG (X3 PySem.Challenge.pw_ij0175_01 (w.withFollow "special-get-raises" false) g h k os 1875 15 3 31 448 451) 27, objG (X3 PySem.Challenge.pw_ij0175_01 (w.withFollow "special-get-raises" false) g h k os 1875 15 3 31 448 451) 26, objG (X3 PySem.Challenge.pw_ij0175_01 (w.withFollow "special-get-raises" false) g h k os 1875 15 3 31 448 451) 25, objG (X3 PySem.Challenge.pw_ij0175_01 (w.withFollow "special-get-raises" false) g h k os 1875 15 3 31 448 451) 24, objG (X3 PySem.Challenge.pw_ij0175_01 (w.withFollow "special-get-raises" false) g h k os 1875 15 3 31 448 451) 23, objG (X3 PySem.Challenge.pw_ij0175_01 (w.withFollow "special-get-raises" false) g h k os 1875 15 3 31 448 451) 22, objG (X3 PySem.Challenge.pw_ij0175_01 (w.withFollow "special-get-raises" false) g h k os 1875 15 3 31 448 451) 21, objG (X3 PySem.Challenge.pw_ij0175_01 (w.withFollow "special-get-raises" false) g h k os 1875 15 3 31 448 451) 20, objG (X3 PySem.Challenge.pw_ij0175_01 (w.withFollow "special-get-raises" false) g h k os 1875 15 3 31 448 451) 19, objG (X3 PySem.Challenge.pw_ij0175_01 (w.withFollow "special-get-raises" false) g h k os 1875 15 3 31 448 451) 18, objG (X3 PySem.Challenge.pw_ij0175_01 (w.withFollow "special-get-raises" false) g h k os 1875 15 3 31 448 451) 17, objG (X3 PySem.Challenge.pw_ij0175_01 (w.withFollow "special-get-raises" false) g h k os 1875 15 3 31 448 451) 16, objG (X3 PySem.Challenge.pw_ij0175_01 (w.withFollow "special-get-raises" false) g h k os 1875 15 3 31 448 451) 15, objG (X3 PySem.Challenge.pw_ij0175_01 (w.withFollow "special-get-raises" false) g h k os 1875 15 3 31 448 451) 14, objG (X3 PySem.Challenge.pw_ij0175_01 (w.withFollow "special-get-raises" false) g h k os 1875 15 3 31 448 451) 13, objG (X3 PySem.Challenge.pw_ij0175_01 (w.withFollow "special-get-raises" false) g h k os 1875 15 3 31 448 451) 12, objG (X3 PySem.Challenge.pw_ij0175_01 (w.withFollow "special-get-raises" false) g h k os 1875 15 3 31 448 451) 11, objG (X3 PySem.Challenge.pw_ij0175_01 (w.withFollow "special-get-raises" false) g h k os 1875 15 3 31 448 451) 10, objG (X3 PySem.Challenge.pw_ij0175_01 (w.withFollow "special-get-raises" false) g h k os 1875 15 3 31 448 451) 9, objG (X3 PySem.Challenge.pw_ij0175_01 (w.withFollow "special-get-raises" false) g h k os 1875 15 3 31 448 451) 8, objG (X3 PySem.Challenge.pw_ij0175_01 (w.withFollow "special-get-raises" false) g h k os 1875 15 3 31 448 451) 7, objG (X3 PySem.Challenge.pw_ij0175_01 (w.withFollow "special-get-raises" false) g h k os 1875 15 3 31 448 451) 6, objG (X3 PySem.Challenge.pw_ij0175_01 (w.withFollow "special-get-raises" false) g h k os 1875 15 3 31 448 451) 5, objG (X3 PySem.Challenge.pw_ij0175_01 (w.withFollow "special-get-raises" false) g h k os 1875 15 3 31 448 451) 4, objG (X3 PySem.Challenge.pw_ij0175_01 (w.withFollow "special-get-raises" false) g h k os 1875 15 3 31 448 451) 3, objG (X3 PySem.Challenge.pw_ij0175_01 (w.withFollow "special-get-raises" false) g h k os 1875 15 3 31 448 451) 2, objG (X3 PySem.Challenge.pw_ij0175_01 (w.withFollow "special-get-raises" false) g h k os 1875 15 3 31 448 451) 1, objG (X3 PySem.Challenge.pw_ij0175_01 (w.withFollow "special-get-raises" false) g h k os 1875 15 3 31 448 451) 0] = [g 45, g 44, alias' (w.withFollow "special-get-raises" false).params PySem.Challenge.pw_ij0175_01 18, g 42, g 41, g 40, g 39, g 38, g 37, g 36, g 35, g 34, g 33, g 32, g 31, g 30, g 29, g 28, g 27, g 26, g 25, g 24, g 23, g 22, g 21, g 20, g 19, g 18, g 17, g 16, g 15, g 14, g 13, g 12, g 11, fB (w.withFollow "special-get-raises" false).params 10, fB (w.withFollow "special-get-raises" false).params 9, fB (w.withFollow "special-get-raises" false).params 8, fB (w.withFollow "special-get-raises" false).params 7, fB (w.withFollow "special-get-raises" false).params 6, fB (w.withFollow "special-get-raises" false).params 5, fB (w.withFollow "special-get-raises" false).params 4, nsL (w.withFollow "special-get-raises" false).params PySem.Challenge.pw_ij0175_01 30 553, fB (w.withFollow "special-get-raises" false).params 2, fB (w.withFollow "special-get-raises" false).params 1, fB (w.withFollow "special-get-raises" false).params 0] ∧ [objG (X3 PySem.Challenge.pw_ij0175_01 (w.withFollow "special-get-raises" false) g h k os 1875 15 3 31 448 451) 92, objG (X3 PySem.Challenge.pw_ij0175_01 (w.withFollow "special-get-raises" false) g h k os 1875 15 3 31 448 451) 91, objG (X3 PySem.Challenge.pw_ij0175_01 (w.withFollow "special-get-raises" false) g h k os 1875 15 3 31 448 451) 90, objG (X3 PySem.Challenge.pw_ij0175_01 (w.withFollow "special-get-raises" false) g h k os 1875 15 3 31 448 451) 89, objG (X3 PySem.Challenge.pw_ij0175_01 (w.withFollow "special-get-raises" false) g h k os 1875 15 3 31 448 451) 88, objG (X3 PySem.Challenge.pw_ij0175_01 (w.withFollow "special-get-raises" false) g h k os 1875 15 3 31 448 451) 87, objG (X3 PySem.Challenge.pw_ij0175_01 (w.withFollow "special-get-raises" false) g h k os 1875 15 3 31 448 451) 86, objG (X3 PySem.Challenge.pw_ij0175_01 (w.withFollow "special-get-raises" false) g h k os 1875 15 3 31 448 451) 85, objG (X3 PySem.Challenge.pw_ij0175_01 (w.withFollow "special-get-raises" false) g h k os 1875 15 3 31 448 451) 84, objG (X3 PySem.Challenge.pw_ij0175_01 (w.withFollow "special-get-raises" false) g h k os 1875 15 3 31 448 451) 83, objG (X3 PySem.Challenge.pw_ij0175_01 (w.withFollow "special-get-raises" false) g h k os 1875 15 3 31 448 451) 82, objG (X3 PySem.Challenge.pw_ij0175_01 (w.withFollow "special-get-raises" false) g h k os 1875 15 3 31 448 451) 81, objG (X3 PySem.Challenge.pw_ij0175_01 (w.withFollow "special-get-raises" false) g h k os 1875 15 3 31 448 451) 80, objG (X3 PySem.Challenge.pw_ij0175_01 (w.withFollow "special-get-raises" false) g h k os 1875 15 3 31 448 451) 79, objG (X3 PySem.Challenge.pw_ij0175_01 (w.withFollow "special-get-raises" false) g h k os 1875 15 3 31 448 451) 78, objG (X3 PySem.Challenge.pw_ij0175_01 (w.withFollow "special-get-raises" false) g h k os 1875 15 3 31 448 451) 77, objG (X3 PySem.Challenge.pw_ij0175_01 (w.withFollow "special-get-raises" false) g h k os 1875 15 3 31 448 451) 76, objG (X3 PySem.Challenge.pw_ij0175_01 (w.withFollow "special-get-raises" false) g h k os 1875 15 3 31 448 451) 75, objG (X3 PySem.Challenge.pw_ij0175_01 (w.withFollow "special-get-raises" false) g h k os 1875 15 3 31 448 451) 74, objG (X3 PySem.Challenge.pw_ij0175_01 (w.withFollow "special-get-raises" false) g h k os 1875 15 3 31 448 451) 73, objG (X3 PySem.Challenge.pw_ij0175_01 (w.withFollow "special-get-raises" false) g h k os 1875 15 3 31 448 451) 72, objG (X3 PySem.Challenge.pw_ij0175_01 (w.withFollow "special-get-raises" false) g h k os 1875 15 3 31 448 451) 71, objG (X3 PySem.Challenge.pw_ij0175_01 (w.withFollow "special-get-raises" false) g h k os 1875 15 3 31 448 451) 70, objG (X3 PySem.Challenge.pw_ij0175_01 (w.withFollow "special-get-raises" false) g h k os 1875 15 3 31 448 451) 69, objG (X3 PySem.Challenge.pw_ij0175_01 (w.withFollow "special-get-raises" false) g h k os 1875 15 3 31 448 451) 68, objG (X3 PySem.Challenge.pw_ij0175_01 (w.withFollow "special-get-raises" false) g h k os 1875 15 3 31 448 451) 67, objG (X3 PySem.Challenge.pw_ij0175_01 (w.withFollow "special-get-raises" false) g h k os 1875 15 3 31 448 451) 66, objG (X3 PySem.Challenge.pw_ij0175_01 (w.withFollow "special-get-raises" false) g h k os 1875 15 3 31 448 451) 65, objG (X3 PySem.Challenge.pw_ij0175_01 (w.withFollow "special-get-raises" false) g h k os 1875 15 3 31 448 451) 64, objG (X3 PySem.Challenge.pw_ij0175_01 (w.withFollow "special-get-raises" false) g h k os 1875 15 3 31 448 451) 63, objG (X3 PySem.Challenge.pw_ij0175_01 (w.withFollow "special-get-raises" false) g h k os 1875 15 3 31 448 451) 62, objG (X3 PySem.Challenge.pw_ij0175_01 (w.withFollow "special-get-raises" false) g h k os 1875 15 3 31 448 451) 61, objG (X3 PySem.Challenge.pw_ij0175_01 (w.withFollow "special-get-raises" false) g h k os 1875 15 3 31 448 451) 60, objG (X3 PySem.Challenge.pw_ij0175_01 (w.withFollow "special-get-raises" false) g h k os 1875 15 3 31 448 451) 59, objG (X3 PySem.Challenge.pw_ij0175_01 (w.withFollow "special-get-raises" false) g h k os 1875 15 3 31 448 451) 58, objG (X3 PySem.Challenge.pw_ij0175_01 (w.withFollow "special-get-raises" false) g h k os 1875 15 3 31 448 451) 57, objG (X3 PySem.Challenge.pw_ij0175_01 (w.withFollow "special-get-raises" false) g h k os 1875 15 3 31 448 451) 56, objG (X3 PySem.Challenge.pw_ij0175_01 (w.withFollow "special-get-raises" false) g h k os 1875 15 3 31 448 451) 55, objG (X3 PySem.Challenge.pw_ij0175_01 (w.withFollow "special-get-raises" false) g h k os 1875 15 3 31 448 451) 54, objG (X3 PySem.Challenge.pw_ij0175_01 (w.withFollow "special-get-raises" false) g h k os 1875 15 3 31 448 451) 53, objG (X3 PySem.Challenge.pw_ij0175_01 (w.withFollow "special-get-raises" false) g h k os 1875 15 3 31 448 451) 52, objG (X3 PySem.Challenge.pw_ij0175_01 (w.withFollow "special-get-raises" false) g h k os 1875 15 3 31 448 451) 51, objG (X3 PySem.Challenge.pw_ij0175_01 (w.withFollow "special-get-raises" false) g h k os 1875 15 3 31 448 451) 50, objG (X3 PySem.Challenge.pw_ij0175_01 (w.withFollow "special-get-raises" false) g h k os 1875 15 3 31 448 451) 49] = [tup PySem.Challenge.pw_ij0175_01 43, tup PySem.Challenge.pw_ij0175_01 42, tup PySem.Challenge.pw_ij0175_01 41, tup PySem.Challenge.pw_ij0175_01 40, tup PySem.Challenge.pw_ij0175_01 39, tup PySem.Challenge.pw_ij0175_01 38, tup PySem.Challenge.pw_ij0175_01 37, tup PySem.Challenge.pw_ij0175_01 36, tup PySem.Challenge.pw_ij0175_01 35, tup PySem.Challenge.pw_ij0175_01 34, tup PySem.Challenge.pw_ij0175_01 33, tup PySem.Challenge.pw_ij0175_01 32, tup PySem.Challenge.pw_ij0175_01 31, tup PySem.Challenge.pw_ij0175_01 30, tup PySem.Challenge.pw_ij0175_01 29, tup PySem.Challenge.pw_ij0175_01 28, tup PySem.Challenge.pw_ij0175_01 27, tup PySem.Challenge.pw_ij0175_01 26, tup PySem.Challenge.pw_ij0175_01 25, tup PySem.Challenge.pw_ij0175_01 24, tup PySem.Challenge.pw_ij0175_01 23, tup PySem.Challenge.pw_ij0175_01 22, tup PySem.Challenge.pw_ij0175_01 21, tup PySem.Challenge.pw_ij0175_01 20, tup PySem.Challenge.pw_ij0175_01 19, tup PySem.Challenge.pw_ij0175_01 18, tup PySem.Challenge.pw_ij0175_01 17, tup PySem.Challenge.pw_ij0175_01 16, tup PySem.Challenge.pw_ij0175_01 15, tup PySem.Challenge.pw_ij0175_01 14, tup PySem.Challenge.pw_ij0175_01 13, tup PySem.Challenge.pw_ij0175_01 12, tup PySem.Challenge.pw_ij0175_01 11, tup PySem.Challenge.pw_ij0175_01 10, tup PySem.Challenge.pw_ij0175_01 9, tup PySem.Challenge.pw_ij0175_01 8, tup PySem.Challenge.pw_ij0175_01 7, tup PySem.Challenge.pw_ij0175_01 6, tup PySem.Challenge.pw_ij0175_01 5, tup PySem.Challenge.pw_ij0175_01 4, tup PySem.Challenge.pw_ij0175_01 3, tup PySem.Challenge.pw_ij0175_01 2, tup PySem.Challenge.pw_ij0175_01 1, tup PySem.Challenge.pw_ij0175_01 0] ∧ [objG (X3 PySem.Challenge.pw_ij0175_01 (w.withFollow "special-get-raises" false) g h k os 1875 15 3 31 448 451) 95, objG (X3 PySem.Challenge.pw_ij0175_01 (w.withFollow "special-get-raises" false) g h k os 1875 15 3 31 448 451) 98] = [sorted', iter' 30] := by
  rw [PySem.W.Fast.te10295753902157049106, PySem.W.Fast.te14364793385576792824, PySem.W.Fast.te5175542366172373081]
  exact ⟨by rfl, by kernel_rfl, by kernel_rfl, by kernel_rfl, by kernel_rfl⟩
theorem keyL2T (w : World) (os : OsState) (g h : Nat → Obj) (k : Result → Sem Fin) : (segGoT treeTable PySem.Challenge.pw_ij0175_01 (w.withFollow "special-get-raises" true) 11 an 1 1875 (SL (w.withFollow "special-get-raises" true).params PySem.Challenge.pw_ij0175_01 g h 15 3 31 448 451 os) (TL PySem.Challenge.pw_ij0175_01 k) = X3 PySem.Challenge.pw_ij0175_01 (w.withFollow "special-get-raises" true) g h k os 1875 15 3 31 448 451) ∧ (X3 PySem.Challenge.pw_ij0175_01 (w.withFollow "special-get-raises" true) g h k os 1875 15 3 31 448 451).map stG = some ((189, {}, Array.mk [], boot_drawn, 556, os), TL PySem.Challenge.pw_ij0175_01 k) ∧ [objG (X3 PySem.Challenge.pw_ij0175_01 (w.withFollow "special-get-raises" true) g h k os 1875 15 3 31 448 451) 45, objG (X3 PySem.Challenge.pw_ij0175_01 (w.withFollow "special-get-raises" true) g h k os 1875 15 3 31 448 451) 44, objG (X3 PySem.Challenge.pw_ij0175_01 (w.withFollow "special-get-raises" true) g h k os 1875 15 3 31 448 451) 43, objG (X3 PySem.Challenge.pw_ij0175_01 (w.withFollow "special-get-raises" true) g h k os 1875 15 3 31 448 451) 42, objG (X3 PySem.Challenge.pw_ij0175_01 (w.withFollow "special-get-raises" true) g h k os 1875 15 3 31 448 451) 41, objG (X3 PySem.Challenge.pw_ij0175_01 (w.withFollow "special-get-raises" true) g h k os 1875 15 3 31 448 451) 40, objG (X3 PySem.Challenge.pw_ij0175_01 (w.withFollow "special-get-raises" true) g h k os 1875 15 3 31 448 451) 39, objG (X3 PySem.Challenge.pw_ij0175_01 (w.withFollow "special-get-raises" true) g h k os 1875 15 3 31 448 451) 38, objG (X3 PySem.Challenge.pw_ij0175_01 (w.withFollow "special-get-raises" true) g h k os 1875 15 3 31 448 451) 37, objG (X3 PySem.Challenge.pw_ij0175_01 (w.withFollow "special-get-raises" true) g h k os 1875 15 3 31 448 451) 36, objG (X3 PySem.Challenge.pw_ij0175_01 (w.withFollow "special-get-raises" true) g h k os 1875 15 3 31 448 451) 35, objG (X3 PySem.Challenge.pw_ij0175_01 (w.withFollow "special-get-raises" true) g h k os 1875 15 3 31 448 451) 34, objG (X3 PySem.Challenge.pw_ij0175_01 (w.withFollow "special-get-raises" true) g h k os 1875 15 3 31 448 451) 33, objG (X3 PySem.Challenge.pw_ij0175_01 (w.withFollow "special-get-raises" true) g h k os 1875 15 3 31 448 451) 32, objG (X3 PySem.Challenge.pw_ij0175_01 (w.withFollow "special-get-raises" true) g h k os 1875 15 3 31 448 451) 31, objG (X3 PySem.Challenge.pw_ij0175_01 (w.withFollow "special-get-raises" true) g h k os 1875 15 3 31 448 451) 30, objG (X3 PySem.Challenge.pw_ij0175_01 (w.withFollow "special-get-raises" true) g h k os 1875 15 3 31 448 451) 29, objG (X3 PySem.Challenge.pw_ij0175_01 (w.withFollow "special-get-raises" true) g h k os 1875 15 3 31 448 451) 28, objG (X3 PySem.Challenge.pw_ij0175_01 (w.withFollow "special-get-raises" true) g h k os 1875 15 3 31 448 451) 27, objG (X3 PySem.Challenge.pw_ij0175_01 (w.withFollow "special-get-raises" true) g h k os 1875 15 3 31 448 451) 26, objG (X3 PySem.Challenge.pw_ij0175_01 (w.withFollow "special-get-raises" true) g h k os 1875 15 3 31 448 451) 25, objG (X3 PySem.Challenge.pw_ij0175_01 (w.withFollow "special-get-raises" true) g h k os 1875 15 3 31 448 451) 24, objG (X3 PySem.Challenge.pw_ij0175_01 (w.withFollow "special-get-raises" true) g h k os 1875 15 3 31 448 451) 23, objG (X3 PySem.Challenge.pw_ij0175_01 (w.withFollow "special-get-raises" true) g h k os 1875 15 3 31 448 451) 22, objG (X3 PySem.Challenge.pw_ij0175_01 (w.withFollow "special-get-raises" true) g h k os 1875 15 3 31 448 451) 21, objG (X3 PySem.Challenge.pw_ij0175_01 (w.withFollow "special-get-raises" true) g h k os 1875 15 3 31 448 451) 20, objG (X3 PySem.Challenge.pw_ij0175_01 (w.withFollow "special-get-raises" true) g h k os 1875 15 3 31 448 451) 19, objG (X3 PySem.Challenge.pw_ij0175_01 (w.withFollow "special-get-raises" true) g h k os 1875 15 3 31 448 451) 18, objG (X3 PySem.Challenge.pw_ij0175_01 (w.withFollow "special-get-raises" true) g h k os 1875 15 3 31 448 451) 17, objG (X3 PySem.Challenge.pw_ij0175_01 (w.withFollow "special-get-raises" true) g h k os 1875 15 3 31 448 451) 16, objG (X3 PySem.Challenge.pw_ij0175_01 (w.withFollow "special-get-raises" true) g h k os 1875 15 3 31 448 451) 15, objG (X3 PySem.Challenge.pw_ij0175_01 (w.withFollow "special-get-raises" true) g h k os 1875 15 3 31 448 451) 14, objG (X3 PySem.Challenge.pw_ij0175_01 (w.withFollow "special-get-raises" true) g h k os 1875 15 3 31 448 451) 13, objG (X3 PySem.Challenge.pw_ij0175_01 (w.withFollow "special-get-raises" true) g h k os 1875 15 3 31 448 451) 12, objG (X3 PySem.Challenge.pw_ij0175_01 (w.withFollow "special-get-raises" true) g h k os 1875 15 3 31 448 451) 11, objG (X3 PySem.Challenge.pw_ij0175_01 (w.withFollow "special-get-raises" true) g h k os 1875 15 3 31 448 451) 10, objG (X3 PySem.Challenge.pw_ij0175_01 (w.withFollow "special-get-raises" true) g h k os 1875 15 3 31 448 451) 9, objG (X3 PySem.Challenge.pw_ij0175_01 (w.withFollow "special-get-raises" true) g h k os 1875 15 3 31 448 451) 8, objG (X3 PySem.Challenge.pw_ij0175_01 (w.withFollow "special-get-raises" true) g h k os 1875 15 3 31 448 451) 7, objG (X3 PySem.Challenge.pw_ij0175_01 (w.withFollow "special-get-raises" true) g h k os 1875 15 3 31 448 451) 6, objG (X3 PySem.Challenge.pw_ij0175_01 (w.withFollow "special-get-raises" true) g h k os 1875 15 3 31 448 451) 5, objG (X3 PySem.Challenge.pw_ij0175_01 (w.withFollow "special-get-raises" true) g h k os 1875 15 3 31 448 451) 4, objG (X3 PySem.Challenge.pw_ij0175_01 (w.withFollow "special-get-raises" true) g h k os 1875 15 3 31 448 451) 3, objG (X3 PySem.Challenge.pw_ij0175_01 (w.withFollow "special-get-raises" true) g h k os 1875 15 3 31 448 451) 2, objG (X3 PySem.Challenge.pw_ij0175_01 (w.withFollow "special-get-raises" true) g h k os 1875 15 3 31 448 451) 1, objG (X3 PySem.Challenge.pw_ij0175_01 (w.withFollow "special-get-raises" true) g h k os 1875 15 3 31 448 451) 0] = [g 45, g 44, alias' (w.withFollow "special-get-raises" true).params PySem.Challenge.pw_ij0175_01 18, g 42, g 41, g 40, g 39, g 38, g 37, g 36, g 35, g 34, g 33, g 32, g 31, g 30, g 29, g 28, g 27, g 26, g 25, g 24, g 23, g 22, g 21, g 20, g 19, g 18, g 17, g 16, g 15, g 14, g 13, g 12, g 11, fB (w.withFollow "special-get-raises" true).params 10, fB (w.withFollow "special-get-raises" true).params 9, fB (w.withFollow "special-get-raises" true).params 8, fB (w.withFollow "special-get-raises" true).params 7, fB (w.withFollow "special-get-raises" true).params 6, fB (w.withFollow "special-get-raises" true).params 5, fB (w.withFollow "special-get-raises" true).params 4, nsL (w.withFollow "special-get-raises" true).params PySem.Challenge.pw_ij0175_01 30 553, fB (w.withFollow "special-get-raises" true).params 2, fB (w.withFollow "special-get-raises" true).params 1, fB (w.withFollow "special-get-raises" true).params 0] ∧ [objG (X3 PySem.Challenge.pw_ij0175_01 (w.withFollow "special-get-raises" true) g h k os 1875 15 3 31 448 451) 92, objG (X3 PySem.Challenge.pw_ij0175_01 (w.withFollow "special-get-raises" true) g h k os 1875 15 3 31 448 451) 91, objG (X3 PySem.Challenge.pw_ij0175_01 (w.withFollow "special-get-raises" true) g h k os 1875 15 3 31 448 451) 90, objG (X3 PySem.Challenge.pw_ij0175_01 (w.withFollow "special-get-raises" true) g h k os 1875 15 3 31 448 451) 89, objG (X3 PySem.Challenge.pw_ij0175_01 (w.withFollow "special-get-raises" true) g h k os 1875 15 3 31 448 451) 88, objG (X3 PySem.Challenge.pw_ij0175_01 (w.withFollow "special-get-raises" true) g h k os 1875 15 3 31 448 451) 87, objG (X3 PySem.Challenge.pw_ij0175_01 (w.withFollow "special-get-raises" true) g h k os 1875 15 3 31 448 451) 86, objG (X3 PySem.Challenge.pw_ij0175_01 (w.withFollow "special-get-raises" true) g h k os 1875 15 3 31 448 451) 85, objG (X3 PySem.Challenge.pw_ij0175_01 (w.withFollow "special-get-raises" true) g h k os 1875 15 3 31 448 451) 84, objG (X3 PySem.Challenge.pw_ij0175_01 (w.withFollow "special-get-raises" true) g h k os 1875 15 3 31 448 451) 83, objG (X3 PySem.Challenge.pw_ij0175_01 (w.withFollow "special-get-raises" true) g h k os 1875 15 3 31 448 451) 82, objG (X3 PySem.Challenge.pw_ij0175_01 (w.withFollow "special-get-raises" true) g h k os 1875 15 3 31 448 451) 81, objG (X3 PySem.Challenge.pw_ij0175_01 (w.withFollow "special-get-raises" true) g h k os 1875 15 3 31 448 451) 80, objG (X3 PySem.Challenge.pw_ij0175_01 (w.withFollow "special-get-raises" true) g h k os 1875 15 3 31 448 451) 79, objG (X3 PySem.Challenge.pw_ij0175_01 (w.withFollow "special-get-raises" true) g h k os 1875 15 3 31 448 451) 78, objG (X3 PySem.Challenge.pw_ij0175_01 (w.withFollow "special-get-raises" true) g h k os 1875 15 3 31 448 451) 77, objG (X3 PySem.Challenge.pw_ij0175_01 (w.withFollow "special-get-raises" true) g h k os 1875 15 3 31 448 451) 76, objG (X3 PySem.Challenge.pw_ij0175_01 (w.withFollow "special-get-raises" true) g h k os 1875 15 3 31 448 451) 75, objG (X3 PySem.Challenge.pw_ij0175_01 (w.withFollow "special-get-raises" true) g h k os 1875 15 3 31 448 451) 74, objG (X3 PySem.Challenge.pw_ij0175_01 (w.withFollow "special-get-raises" true) g h k os 1875 15 3 31 448 451) 73, objG (X3 PySem.Challenge.pw_ij0175_01 (w.withFollow "special-get-raises" true) g h k os 1875 15 3 31 448 451) 72, objG (X3 PySem.Challenge.pw_ij0175_01 (w.withFollow "special-get-raises" true) g h k os 1875 15 3 31 448 451) 71, objG (X3 PySem.Challenge.pw_ij0175_01 (w.withFollow "special-get-raises" true) g h k os 1875 15 3 31 448 451) 70, objG (X3 PySem.Challenge.pw_ij0175_01 (w.withFollow "special-get-raises" true) g h k os 1875 15 3 31 448 451) 69, objG (X3 PySem.Challenge.pw_ij0175_01 (w.withFollow "special-get-raises" true) g h k os 1875 15 3 31 448 451) 68, objG (X3 PySem.Challenge.pw_ij0175_01 (w.withFollow "special-get-raises" true) g h k os 1875 15 3 31 448 451) 67, objG (X3 PySem.Challenge.pw_ij0175_01 (w.withFollow "special-get-raises" true) g h k os 1875 15 3 31 448 451) 66, objG (X3 PySem.Challenge.pw_ij0175_01 (w.withFollow "special-get-raises" true) g h k os 1875 15 3 31 448 451) 65, objG (X3 PySem.Challenge.pw_ij0175_01 (w.withFollow "special-get-raises" true) g h k os 1875 15 3 31 448 451) 64, objG (X3 PySem.Challenge.pw_ij0175_01 (w.withFollow "special-get-raises" true) g h k os 1875 15 3 31 448 451) 63, objG (X3 PySem.Challenge.pw_ij0175_01 (w.withFollow "special-get-raises" true) g h k os 1875 15 3 31 448 451) 62, objG (X3 PySem.Challenge.pw_ij0175_01 (w.withFollow "special-get-raises" true) g h k os 1875 15 3 31 448 451) 61, objG (X3 PySem.Challenge.pw_ij0175_01 (w.withFollow "special-get-raises" true) g h k os 1875 15 3 31 448 451) 60, objG (X3 PySem.Challenge.pw_ij0175_01 (w.withFollow "special-get-raises" true) g h k os 1875 15 3 31 448 451) 59, objG (X3 PySem.Challenge.pw_ij0175_01 (w.withFollow "special-get-raises" true) g h k os 1875 15 3 31 448 451) 58, objG (X3 PySem.Challenge.pw_ij0175_01 (w.withFollow "special-get-raises" true) g h k os 1875 15 3 31 448 451) 57, objG (X3 PySem.Challenge.pw_ij0175_01 (w.withFollow "special-get-raises" true) g h k os 1875 15 3 31 448 451) 56, objG (X3 PySem.Challenge.pw_ij0175_01 (w.withFollow "special-get-raises" true) g h k os 1875 15 3 31 448 451) 55, objG (X3 PySem.Challenge.pw_ij0175_01 (w.withFollow "special-get-raises" true) g h k os 1875 15 3 31 448 451) 54, objG (X3 PySem.Challenge.pw_ij0175_01 (w.withFollow "special-get-raises" true) g h k os 1875 15 3 31 448 451) 53, objG (X3 PySem.Challenge.pw_ij0175_01 (w.withFollow "special-get-raises" true) g h k os 1875 15 3 31 448 451) 52, objG (X3 PySem.Challenge.pw_ij0175_01 (w.withFollow "special-get-raises" true) g h k os 1875 15 3 31 448 451) 51, objG (X3 PySem.Challenge.pw_ij0175_01 (w.withFollow "special-get-raises" true) g h k os 1875 15 3 31 448 451) 50, objG (X3 PySem.Challenge.pw_ij0175_01 (w.withFollow "special-get-raises" true) g h k os 1875 15 3 31 448 451) 49] = [tup PySem.Challenge.pw_ij0175_01 43, tup PySem.Challenge.pw_ij0175_01 42, tup PySem.Challenge.pw_ij0175_01 41, tup PySem.Challenge.pw_ij0175_01 40, tup PySem.Challenge.pw_ij0175_01 39, tup PySem.Challenge.pw_ij0175_01 38, tup PySem.Challenge.pw_ij0175_01 37, tup PySem.Challenge.pw_ij0175_01 36, tup PySem.Challenge.pw_ij0175_01 35, tup PySem.Challenge.pw_ij0175_01 34, tup PySem.Challenge.pw_ij0175_01 33, tup PySem.Challenge.pw_ij0175_01 32, tup PySem.Challenge.pw_ij0175_01 31, tup PySem.Challenge.pw_ij0175_01 30, tup PySem.Challenge.pw_ij0175_01 29, tup PySem.Challenge.pw_ij0175_01 28, tup PySem.Challenge.pw_ij0175_01 27, tup PySem.Challenge.pw_ij0175_01 26, tup PySem.Challenge.pw_ij0175_01 25, tup PySem.Challenge.pw_ij0175_01 24, tup PySem.Challenge.pw_ij0175_01 23, tup PySem.Challenge.pw_ij0175_01 22, tup PySem.Challenge.pw_ij0175_01 21, tup PySem.Challenge.pw_ij0175_01 20, tup PySem.Challenge.pw_ij0175_01 19, tup PySem.Challenge.pw_ij0175_01 18, tup PySem.Challenge.pw_ij0175_01 17, tup PySem.Challenge.pw_ij0175_01 16, tup PySem.Challenge.pw_ij0175_01 15, tup PySem.Challenge.pw_ij0175_01 14, tup PySem.Challenge.pw_ij0175_01 13, tup PySem.Challenge.pw_ij0175_01 12, tup PySem.Challenge.pw_ij0175_01 11, tup PySem.Challenge.pw_ij0175_01 10, tup PySem.Challenge.pw_ij0175_01 9, tup PySem.Challenge.pw_ij0175_01 8, tup PySem.Challenge.pw_ij0175_01 7, tup PySem.Challenge.pw_ij0175_01 6, tup PySem.Challenge.pw_ij0175_01 5, tup PySem.Challenge.pw_ij0175_01 4, tup PySem.Challenge.pw_ij0175_01 3, tup PySem.Challenge.pw_ij0175_01 2, tup PySem.Challenge.pw_ij0175_01 1, tup PySem.Challenge.pw_ij0175_01 0] ∧ [objG (X3 PySem.Challenge.pw_ij0175_01 (w.withFollow "special-get-raises" true) g h k os 1875 15 3 31 448 451) 95, objG (X3 PySem.Challenge.pw_ij0175_01 (w.withFollow "special-get-raises" true) g h k os 1875 15 3 31 448 451) 98] = [sorted', iter' 30] := by
  rw [PySem.W.Fast.te10295753902157049106, PySem.W.Fast.te14364793385576792824, PySem.W.Fast.te5175542366172373081]
  exact ⟨by rfl, by kernel_rfl, by kernel_rfl, by kernel_rfl, by kernel_rfl⟩
theorem keyL2 (w : World) (os : OsState) (g h : Nat → Obj) (k : Result → Sem Fin) : (segGoT treeTable PySem.Challenge.pw_ij0175_01 w 11 an 1 1875 (SL w.params PySem.Challenge.pw_ij0175_01 g h 15 3 31 448 451 os) (TL PySem.Challenge.pw_ij0175_01 k) = X3 PySem.Challenge.pw_ij0175_01 w g h k os 1875 15 3 31 448 451) ∧ (X3 PySem.Challenge.pw_ij0175_01 w g h k os 1875 15 3 31 448 451).map stG = some ((189, {}, Array.mk [], boot_drawn, 556, os), TL PySem.Challenge.pw_ij0175_01 k) ∧ [objG (X3 PySem.Challenge.pw_ij0175_01 w g h k os 1875 15 3 31 448 451) 45, objG (X3 PySem.Challenge.pw_ij0175_01 w g h k os 1875 15 3 31 448 451) 44, objG (X3 PySem.Challenge.pw_ij0175_01 w g h k os 1875 15 3 31 448 451) 43, objG (X3 PySem.Challenge.pw_ij0175_01 w g h k os 1875 15 3 31 448 451) 42, objG (X3 PySem.Challenge.pw_ij0175_01 w g h k os 1875 15 3 31 448 451) 41, objG (X3 PySem.Challenge.pw_ij0175_01 w g h k os 1875 15 3 31 448 451) 40, objG (X3 PySem.Challenge.pw_ij0175_01 w g h k os 1875 15 3 31 448 451) 39, objG (X3 PySem.Challenge.pw_ij0175_01 w g h k os 1875 15 3 31 448 451) 38, objG (X3 PySem.Challenge.pw_ij0175_01 w g h k os 1875 15 3 31 448 451) 37, objG (X3 PySem.Challenge.pw_ij0175_01 w g h k os 1875 15 3 31 448 451) 36, objG (X3 PySem.Challenge.pw_ij0175_01 w g h k os 1875 15 3 31 448 451) 35, objG (X3 PySem.Challenge.pw_ij0175_01 w g h k os 1875 15 3 31 448 451) 34, objG (X3 PySem.Challenge.pw_ij0175_01 w g h k os 1875 15 3 31 448 451) 33, objG (X3 PySem.Challenge.pw_ij0175_01 w g h k os 1875 15 3 31 448 451) 32, objG (X3 PySem.Challenge.pw_ij0175_01 w g h k os 1875 15 3 31 448 451) 31, objG (X3 PySem.Challenge.pw_ij0175_01 w g h k os 1875 15 3 31 448 451) 30, objG (X3 PySem.Challenge.pw_ij0175_01 w g h k os 1875 15 3 31 448 451) 29, objG (X3 PySem.Challenge.pw_ij0175_01 w g h k os 1875 15 3 31 448 451) 28, objG (X3 PySem.Challenge.pw_ij0175_01 w g h k os 1875 15 3 31 448 451) 27, objG (X3 PySem.Challenge.pw_ij0175_01 w g h k os 1875 15 3 31 448 451) 26, objG (X3 PySem.Challenge.pw_ij0175_01 w g h k os 1875 15 3 31 448 451) 25, objG (X3 PySem.Challenge.pw_ij0175_01 w g h k os 1875 15 3 31 448 451) 24, objG (X3 PySem.Challenge.pw_ij0175_01 w g h k os 1875 15 3 31 448 451) 23, objG (X3 PySem.Challenge.pw_ij0175_01 w g h k os 1875 15 3 31 448 451) 22, objG (X3 PySem.Challenge.pw_ij0175_01 w g h k os 1875 15 3 31 448 451) 21, objG (X3 PySem.Challenge.pw_ij0175_01 w g h k os 1875 15 3 31 448 451) 20, objG (X3 PySem.Challenge.pw_ij0175_01 w g h k os 1875 15 3 31 448 451) 19, objG (X3 PySem.Challenge.pw_ij0175_01 w g h k os 1875 15 3 31 448 451) 18, objG (X3 PySem.Challenge.pw_ij0175_01 w g h k os 1875 15 3 31 448 451) 17, objG (X3 PySem.Challenge.pw_ij0175_01 w g h k os 1875 15 3 31 448 451) 16, objG (X3 PySem.Challenge.pw_ij0175_01 w g h k os 1875 15 3 31 448 451) 15, objG (X3 PySem.Challenge.pw_ij0175_01 w g h k os 1875 15 3 31 448 451) 14, objG (X3 PySem.Challenge.pw_ij0175_01 w g h k os 1875 15 3 31 448 451) 13, objG (X3 PySem.Challenge.pw_ij0175_01 w g h k os 1875 15 3 31 448 451) 12, objG (X3 PySem.Challenge.pw_ij0175_01 w g h k os 1875 15 3 31 448 451) 11, objG (X3 PySem.Challenge.pw_ij0175_01 w g h k os 1875 15 3 31 448 451) 10, objG (X3 PySem.Challenge.pw_ij0175_01 w g h k os 1875 15 3 31 448 451) 9, objG (X3 PySem.Challenge.pw_ij0175_01 w g h k os 1875 15 3 31 448 451) 8, objG (X3 PySem.Challenge.pw_ij0175_01 w g h k os 1875 15 3 31 448 451) 7, objG (X3 PySem.Challenge.pw_ij0175_01 w g h k os 1875 15 3 31 448 451) 6, objG (X3 PySem.Challenge.pw_ij0175_01 w g h k os 1875 15 3 31 448 451) 5, objG (X3 PySem.Challenge.pw_ij0175_01 w g h k os 1875 15 3 31 448 451) 4, objG (X3 PySem.Challenge.pw_ij0175_01 w g h k os 1875 15 3 31 448 451) 3, objG (X3 PySem.Challenge.pw_ij0175_01 w g h k os 1875 15 3 31 448 451) 2, objG (X3 PySem.Challenge.pw_ij0175_01 w g h k os 1875 15 3 31 448 451) 1, objG (X3 PySem.Challenge.pw_ij0175_01 w g h k os 1875 15 3 31 448 451) 0] = [g 45, g 44, alias' w.params PySem.Challenge.pw_ij0175_01 18, g 42, g 41, g 40, g 39, g 38, g 37, g 36, g 35, g 34, g 33, g 32, g 31, g 30, g 29, g 28, g 27, g 26, g 25, g 24, g 23, g 22, g 21, g 20, g 19, g 18, g 17, g 16, g 15, g 14, g 13, g 12, g 11, fB w.params 10, fB w.params 9, fB w.params 8, fB w.params 7, fB w.params 6, fB w.params 5, fB w.params 4, nsL w.params PySem.Challenge.pw_ij0175_01 30 553, fB w.params 2, fB w.params 1, fB w.params 0] ∧ [objG (X3 PySem.Challenge.pw_ij0175_01 w g h k os 1875 15 3 31 448 451) 92, objG (X3 PySem.Challenge.pw_ij0175_01 w g h k os 1875 15 3 31 448 451) 91, objG (X3 PySem.Challenge.pw_ij0175_01 w g h k os 1875 15 3 31 448 451) 90, objG (X3 PySem.Challenge.pw_ij0175_01 w g h k os 1875 15 3 31 448 451) 89, objG (X3 PySem.Challenge.pw_ij0175_01 w g h k os 1875 15 3 31 448 451) 88, objG (X3 PySem.Challenge.pw_ij0175_01 w g h k os 1875 15 3 31 448 451) 87, objG (X3 PySem.Challenge.pw_ij0175_01 w g h k os 1875 15 3 31 448 451) 86, objG (X3 PySem.Challenge.pw_ij0175_01 w g h k os 1875 15 3 31 448 451) 85, objG (X3 PySem.Challenge.pw_ij0175_01 w g h k os 1875 15 3 31 448 451) 84, objG (X3 PySem.Challenge.pw_ij0175_01 w g h k os 1875 15 3 31 448 451) 83, objG (X3 PySem.Challenge.pw_ij0175_01 w g h k os 1875 15 3 31 448 451) 82, objG (X3 PySem.Challenge.pw_ij0175_01 w g h k os 1875 15 3 31 448 451) 81, objG (X3 PySem.Challenge.pw_ij0175_01 w g h k os 1875 15 3 31 448 451) 80, objG (X3 PySem.Challenge.pw_ij0175_01 w g h k os 1875 15 3 31 448 451) 79, objG (X3 PySem.Challenge.pw_ij0175_01 w g h k os 1875 15 3 31 448 451) 78, objG (X3 PySem.Challenge.pw_ij0175_01 w g h k os 1875 15 3 31 448 451) 77, objG (X3 PySem.Challenge.pw_ij0175_01 w g h k os 1875 15 3 31 448 451) 76, objG (X3 PySem.Challenge.pw_ij0175_01 w g h k os 1875 15 3 31 448 451) 75, objG (X3 PySem.Challenge.pw_ij0175_01 w g h k os 1875 15 3 31 448 451) 74, objG (X3 PySem.Challenge.pw_ij0175_01 w g h k os 1875 15 3 31 448 451) 73, objG (X3 PySem.Challenge.pw_ij0175_01 w g h k os 1875 15 3 31 448 451) 72, objG (X3 PySem.Challenge.pw_ij0175_01 w g h k os 1875 15 3 31 448 451) 71, objG (X3 PySem.Challenge.pw_ij0175_01 w g h k os 1875 15 3 31 448 451) 70, objG (X3 PySem.Challenge.pw_ij0175_01 w g h k os 1875 15 3 31 448 451) 69, objG (X3 PySem.Challenge.pw_ij0175_01 w g h k os 1875 15 3 31 448 451) 68, objG (X3 PySem.Challenge.pw_ij0175_01 w g h k os 1875 15 3 31 448 451) 67, objG (X3 PySem.Challenge.pw_ij0175_01 w g h k os 1875 15 3 31 448 451) 66, objG (X3 PySem.Challenge.pw_ij0175_01 w g h k os 1875 15 3 31 448 451) 65, objG (X3 PySem.Challenge.pw_ij0175_01 w g h k os 1875 15 3 31 448 451) 64, objG (X3 PySem.Challenge.pw_ij0175_01 w g h k os 1875 15 3 31 448 451) 63, objG (X3 PySem.Challenge.pw_ij0175_01 w g h k os 1875 15 3 31 448 451) 62, objG (X3 PySem.Challenge.pw_ij0175_01 w g h k os 1875 15 3 31 448 451) 61, objG (X3 PySem.Challenge.pw_ij0175_01 w g h k os 1875 15 3 31 448 451) 60, objG (X3 PySem.Challenge.pw_ij0175_01 w g h k os 1875 15 3 31 448 451) 59, objG (X3 PySem.Challenge.pw_ij0175_01 w g h k os 1875 15 3 31 448 451) 58, objG (X3 PySem.Challenge.pw_ij0175_01 w g h k os 1875 15 3 31 448 451) 57, objG (X3 PySem.Challenge.pw_ij0175_01 w g h k os 1875 15 3 31 448 451) 56, objG (X3 PySem.Challenge.pw_ij0175_01 w g h k os 1875 15 3 31 448 451) 55, objG (X3 PySem.Challenge.pw_ij0175_01 w g h k os 1875 15 3 31 448 451) 54, objG (X3 PySem.Challenge.pw_ij0175_01 w g h k os 1875 15 3 31 448 451) 53, objG (X3 PySem.Challenge.pw_ij0175_01 w g h k os 1875 15 3 31 448 451) 52, objG (X3 PySem.Challenge.pw_ij0175_01 w g h k os 1875 15 3 31 448 451) 51, objG (X3 PySem.Challenge.pw_ij0175_01 w g h k os 1875 15 3 31 448 451) 50, objG (X3 PySem.Challenge.pw_ij0175_01 w g h k os 1875 15 3 31 448 451) 49] = [tup PySem.Challenge.pw_ij0175_01 43, tup PySem.Challenge.pw_ij0175_01 42, tup PySem.Challenge.pw_ij0175_01 41, tup PySem.Challenge.pw_ij0175_01 40, tup PySem.Challenge.pw_ij0175_01 39, tup PySem.Challenge.pw_ij0175_01 38, tup PySem.Challenge.pw_ij0175_01 37, tup PySem.Challenge.pw_ij0175_01 36, tup PySem.Challenge.pw_ij0175_01 35, tup PySem.Challenge.pw_ij0175_01 34, tup PySem.Challenge.pw_ij0175_01 33, tup PySem.Challenge.pw_ij0175_01 32, tup PySem.Challenge.pw_ij0175_01 31, tup PySem.Challenge.pw_ij0175_01 30, tup PySem.Challenge.pw_ij0175_01 29, tup PySem.Challenge.pw_ij0175_01 28, tup PySem.Challenge.pw_ij0175_01 27, tup PySem.Challenge.pw_ij0175_01 26, tup PySem.Challenge.pw_ij0175_01 25, tup PySem.Challenge.pw_ij0175_01 24, tup PySem.Challenge.pw_ij0175_01 23, tup PySem.Challenge.pw_ij0175_01 22, tup PySem.Challenge.pw_ij0175_01 21, tup PySem.Challenge.pw_ij0175_01 20, tup PySem.Challenge.pw_ij0175_01 19, tup PySem.Challenge.pw_ij0175_01 18, tup PySem.Challenge.pw_ij0175_01 17, tup PySem.Challenge.pw_ij0175_01 16, tup PySem.Challenge.pw_ij0175_01 15, tup PySem.Challenge.pw_ij0175_01 14, tup PySem.Challenge.pw_ij0175_01 13, tup PySem.Challenge.pw_ij0175_01 12, tup PySem.Challenge.pw_ij0175_01 11, tup PySem.Challenge.pw_ij0175_01 10, tup PySem.Challenge.pw_ij0175_01 9, tup PySem.Challenge.pw_ij0175_01 8, tup PySem.Challenge.pw_ij0175_01 7, tup PySem.Challenge.pw_ij0175_01 6, tup PySem.Challenge.pw_ij0175_01 5, tup PySem.Challenge.pw_ij0175_01 4, tup PySem.Challenge.pw_ij0175_01 3, tup PySem.Challenge.pw_ij0175_01 2, tup PySem.Challenge.pw_ij0175_01 1, tup PySem.Challenge.pw_ij0175_01 0] ∧ [objG (X3 PySem.Challenge.pw_ij0175_01 w g h k os 1875 15 3 31 448 451) 95, objG (X3 PySem.Challenge.pw_ij0175_01 w g h k os 1875 15 3 31 448 451) 98] = [sorted', iter' 30] :=
  byRow2 "special-get-raises" (P := fun w => ∀ (os : OsState) (g h : Nat → Obj) (k : Result → Sem Fin), (segGoT treeTable PySem.Challenge.pw_ij0175_01 w 11 an 1 1875 (SL w.params PySem.Challenge.pw_ij0175_01 g h 15 3 31 448 451 os) (TL PySem.Challenge.pw_ij0175_01 k) = X3 PySem.Challenge.pw_ij0175_01 w g h k os 1875 15 3 31 448 451) ∧ (X3 PySem.Challenge.pw_ij0175_01 w g h k os 1875 15 3 31 448 451).map stG = some ((189, {}, Array.mk [], boot_drawn, 556, os), TL PySem.Challenge.pw_ij0175_01 k) ∧ [objG (X3 PySem.Challenge.pw_ij0175_01 w g h k os 1875 15 3 31 448 451) 45, objG (X3 PySem.Challenge.pw_ij0175_01 w g h k os 1875 15 3 31 448 451) 44, objG (X3 PySem.Challenge.pw_ij0175_01 w g h k os 1875 15 3 31 448 451) 43, objG (X3 PySem.Challenge.pw_ij0175_01 w g h k os 1875 15 3 31 448 451) 42, objG (X3 PySem.Challenge.pw_ij0175_01 w g h k os 1875 15 3 31 448 451) 41, objG (X3 PySem.Challenge.pw_ij0175_01 w g h k os 1875 15 3 31 448 451) 40, objG (X3 PySem.Challenge.pw_ij0175_01 w g h k os 1875 15 3 31 448 451) 39, objG (X3 PySem.Challenge.pw_ij0175_01 w g h k os 1875 15 3 31 448 451) 38, objG (X3 PySem.Challenge.pw_ij0175_01 w g h k os 1875 15 3 31 448 451) 37, objG (X3 PySem.Challenge.pw_ij0175_01 w g h k os 1875 15 3 31 448 451) 36, objG (X3 PySem.Challenge.pw_ij0175_01 w g h k os 1875 15 3 31 448 451) 35, objG (X3 PySem.Challenge.pw_ij0175_01 w g h k os 1875 15 3 31 448 451) 34, objG (X3 PySem.Challenge.pw_ij0175_01 w g h k os 1875 15 3 31 448 451) 33, objG (X3 PySem.Challenge.pw_ij0175_01 w g h k os 1875 15 3 31 448 451) 32, objG (X3 PySem.Challenge.pw_ij0175_01 w g h k os 1875 15 3 31 448 451) 31, objG (X3 PySem.Challenge.pw_ij0175_01 w g h k os 1875 15 3 31 448 451) 30, objG (X3 PySem.Challenge.pw_ij0175_01 w g h k os 1875 15 3 31 448 451) 29, objG (X3 PySem.Challenge.pw_ij0175_01 w g h k os 1875 15 3 31 448 451) 28, objG (X3 PySem.Challenge.pw_ij0175_01 w g h k os 1875 15 3 31 448 451) 27, objG (X3 PySem.Challenge.pw_ij0175_01 w g h k os 1875 15 3 31 448 451) 26, objG (X3 PySem.Challenge.pw_ij0175_01 w g h k os 1875 15 3 31 448 451) 25, objG (X3 PySem.Challenge.pw_ij0175_01 w g h k os 1875 15 3 31 448 451) 24, objG (X3 PySem.Challenge.pw_ij0175_01 w g h k os 1875 15 3 31 448 451) 23, objG (X3 PySem.Challenge.pw_ij0175_01 w g h k os 1875 15 3 31 448 451) 22, objG (X3 PySem.Challenge.pw_ij0175_01 w g h k os 1875 15 3 31 448 451) 21, objG (X3 PySem.Challenge.pw_ij0175_01 w g h k os 1875 15 3 31 448 451) 20, objG (X3 PySem.Challenge.pw_ij0175_01 w g h k os 1875 15 3 31 448 451) 19, objG (X3 PySem.Challenge.pw_ij0175_01 w g h k os 1875 15 3 31 448 451) 18, objG (X3 PySem.Challenge.pw_ij0175_01 w g h k os 1875 15 3 31 448 451) 17, objG (X3 PySem.Challenge.pw_ij0175_01 w g h k os 1875 15 3 31 448 451) 16, objG (X3 PySem.Challenge.pw_ij0175_01 w g h k os 1875 15 3 31 448 451) 15, objG (X3 PySem.Challenge.pw_ij0175_01 w g h k os 1875 15 3 31 448 451) 14, objG (X3 PySem.Challenge.pw_ij0175_01 w g h k os 1875 15 3 31 448 451) 13, objG (X3 PySem.Challenge.pw_ij0175_01 w g h k os 1875 15 3 31 448 451) 12, objG (X3 PySem.Challenge.pw_ij0175_01 w g h k os 1875 15 3 31 448 451) 11, objG (X3 PySem.Challenge.pw_ij0175_01 w g h k os 1875 15 3 31 448 451) 10, objG (X3 PySem.Challenge.pw_ij0175_01 w g h k os 1875 15 3 31 448 451) 9, objG (X3 PySem.Challenge.pw_ij0175_01 w g h k os 1875 15 3 31 448 451) 8, objG (X3 PySem.Challenge.pw_ij0175_01 w g h k os 1875 15 3 31 448 451) 7, objG (X3 PySem.Challenge.pw_ij0175_01 w g h k os 1875 15 3 31 448 451) 6, objG (X3 PySem.Challenge.pw_ij0175_01 w g h k os 1875 15 3 31 448 451) 5, objG (X3 PySem.Challenge.pw_ij0175_01 w g h k os 1875 15 3 31 448 451) 4, objG (X3 PySem.Challenge.pw_ij0175_01 w g h k os 1875 15 3 31 448 451) 3, objG (X3 PySem.Challenge.pw_ij0175_01 w g h k os 1875 15 3 31 448 451) 2, objG (X3 PySem.Challenge.pw_ij0175_01 w g h k os 1875 15 3 31 448 451) 1, objG (X3 PySem.Challenge.pw_ij0175_01 w g h k os 1875 15 3 31 448 451) 0] = [g 45, g 44, alias' w.params PySem.Challenge.pw_ij0175_01 18, g 42, g 41, g 40, g 39, g 38, g 37, g 36, g 35, g 34, g 33, g 32, g 31, g 30, g 29, g 28, g 27, g 26, g 25, g 24, g 23, g 22, g 21, g 20, g 19, g 18, g 17, g 16, g 15, g 14, g 13, g 12, g 11, fB w.params 10, fB w.params 9, fB w.params 8, fB w.params 7, fB w.params 6, fB w.params 5, fB w.params 4, nsL w.params PySem.Challenge.pw_ij0175_01 30 553, fB w.params 2, fB w.params 1, fB w.params 0] ∧ [objG (X3 PySem.Challenge.pw_ij0175_01 w g h k os 1875 15 3 31 448 451) 92, objG (X3 PySem.Challenge.pw_ij0175_01 w g h k os 1875 15 3 31 448 451) 91, objG (X3 PySem.Challenge.pw_ij0175_01 w g h k os 1875 15 3 31 448 451) 90, objG (X3 PySem.Challenge.pw_ij0175_01 w g h k os 1875 15 3 31 448 451) 89, objG (X3 PySem.Challenge.pw_ij0175_01 w g h k os 1875 15 3 31 448 451) 88, objG (X3 PySem.Challenge.pw_ij0175_01 w g h k os 1875 15 3 31 448 451) 87, objG (X3 PySem.Challenge.pw_ij0175_01 w g h k os 1875 15 3 31 448 451) 86, objG (X3 PySem.Challenge.pw_ij0175_01 w g h k os 1875 15 3 31 448 451) 85, objG (X3 PySem.Challenge.pw_ij0175_01 w g h k os 1875 15 3 31 448 451) 84, objG (X3 PySem.Challenge.pw_ij0175_01 w g h k os 1875 15 3 31 448 451) 83, objG (X3 PySem.Challenge.pw_ij0175_01 w g h k os 1875 15 3 31 448 451) 82, objG (X3 PySem.Challenge.pw_ij0175_01 w g h k os 1875 15 3 31 448 451) 81, objG (X3 PySem.Challenge.pw_ij0175_01 w g h k os 1875 15 3 31 448 451) 80, objG (X3 PySem.Challenge.pw_ij0175_01 w g h k os 1875 15 3 31 448 451) 79, objG (X3 PySem.Challenge.pw_ij0175_01 w g h k os 1875 15 3 31 448 451) 78, objG (X3 PySem.Challenge.pw_ij0175_01 w g h k os 1875 15 3 31 448 451) 77, objG (X3 PySem.Challenge.pw_ij0175_01 w g h k os 1875 15 3 31 448 451) 76, objG (X3 PySem.Challenge.pw_ij0175_01 w g h k os 1875 15 3 31 448 451) 75, objG (X3 PySem.Challenge.pw_ij0175_01 w g h k os 1875 15 3 31 448 451) 74, objG (X3 PySem.Challenge.pw_ij0175_01 w g h k os 1875 15 3 31 448 451) 73, objG (X3 PySem.Challenge.pw_ij0175_01 w g h k os 1875 15 3 31 448 451) 72, objG (X3 PySem.Challenge.pw_ij0175_01 w g h k os 1875 15 3 31 448 451) 71, objG (X3 PySem.Challenge.pw_ij0175_01 w g h k os 1875 15 3 31 448 451) 70, objG (X3 PySem.Challenge.pw_ij0175_01 w g h k os 1875 15 3 31 448 451) 69, objG (X3 PySem.Challenge.pw_ij0175_01 w g h k os 1875 15 3 31 448 451) 68, objG (X3 PySem.Challenge.pw_ij0175_01 w g h k os 1875 15 3 31 448 451) 67, objG (X3 PySem.Challenge.pw_ij0175_01 w g h k os 1875 15 3 31 448 451) 66, objG (X3 PySem.Challenge.pw_ij0175_01 w g h k os 1875 15 3 31 448 451) 65, objG (X3 PySem.Challenge.pw_ij0175_01 w g h k os 1875 15 3 31 448 451) 64, objG (X3 PySem.Challenge.pw_ij0175_01 w g h k os 1875 15 3 31 448 451) 63, objG (X3 PySem.Challenge.pw_ij0175_01 w g h k os 1875 15 3 31 448 451) 62, objG (X3 PySem.Challenge.pw_ij0175_01 w g h k os 1875 15 3 31 448 451) 61, objG (X3 PySem.Challenge.pw_ij0175_01 w g h k os 1875 15 3 31 448 451) 60, objG (X3 PySem.Challenge.pw_ij0175_01 w g h k os 1875 15 3 31 448 451) 59, objG (X3 PySem.Challenge.pw_ij0175_01 w g h k os 1875 15 3 31 448 451) 58, objG (X3 PySem.Challenge.pw_ij0175_01 w g h k os 1875 15 3 31 448 451) 57, objG (X3 PySem.Challenge.pw_ij0175_01 w g h k os 1875 15 3 31 448 451) 56, objG (X3 PySem.Challenge.pw_ij0175_01 w g h k os 1875 15 3 31 448 451) 55, objG (X3 PySem.Challenge.pw_ij0175_01 w g h k os 1875 15 3 31 448 451) 54, objG (X3 PySem.Challenge.pw_ij0175_01 w g h k os 1875 15 3 31 448 451) 53, objG (X3 PySem.Challenge.pw_ij0175_01 w g h k os 1875 15 3 31 448 451) 52, objG (X3 PySem.Challenge.pw_ij0175_01 w g h k os 1875 15 3 31 448 451) 51, objG (X3 PySem.Challenge.pw_ij0175_01 w g h k os 1875 15 3 31 448 451) 50, objG (X3 PySem.Challenge.pw_ij0175_01 w g h k os 1875 15 3 31 448 451) 49] = [tup PySem.Challenge.pw_ij0175_01 43, tup PySem.Challenge.pw_ij0175_01 42, tup PySem.Challenge.pw_ij0175_01 41, tup PySem.Challenge.pw_ij0175_01 40, tup PySem.Challenge.pw_ij0175_01 39, tup PySem.Challenge.pw_ij0175_01 38, tup PySem.Challenge.pw_ij0175_01 37, tup PySem.Challenge.pw_ij0175_01 36, tup PySem.Challenge.pw_ij0175_01 35, tup PySem.Challenge.pw_ij0175_01 34, tup PySem.Challenge.pw_ij0175_01 33, tup PySem.Challenge.pw_ij0175_01 32, tup PySem.Challenge.pw_ij0175_01 31, tup PySem.Challenge.pw_ij0175_01 30, tup PySem.Challenge.pw_ij0175_01 29, tup PySem.Challenge.pw_ij0175_01 28, tup PySem.Challenge.pw_ij0175_01 27, tup PySem.Challenge.pw_ij0175_01 26, tup PySem.Challenge.pw_ij0175_01 25, tup PySem.Challenge.pw_ij0175_01 24, tup PySem.Challenge.pw_ij0175_01 23, tup PySem.Challenge.pw_ij0175_01 22, tup PySem.Challenge.pw_ij0175_01 21, tup PySem.Challenge.pw_ij0175_01 20, tup PySem.Challenge.pw_ij0175_01 19, tup PySem.Challenge.pw_ij0175_01 18, tup PySem.Challenge.pw_ij0175_01 17, tup PySem.Challenge.pw_ij0175_01 16, tup PySem.Challenge.pw_ij0175_01 15, tup PySem.Challenge.pw_ij0175_01 14, tup PySem.Challenge.pw_ij0175_01 13, tup PySem.Challenge.pw_ij0175_01 12, tup PySem.Challenge.pw_ij0175_01 11, tup PySem.Challenge.pw_ij0175_01 10, tup PySem.Challenge.pw_ij0175_01 9, tup PySem.Challenge.pw_ij0175_01 8, tup PySem.Challenge.pw_ij0175_01 7, tup PySem.Challenge.pw_ij0175_01 6, tup PySem.Challenge.pw_ij0175_01 5, tup PySem.Challenge.pw_ij0175_01 4, tup PySem.Challenge.pw_ij0175_01 3, tup PySem.Challenge.pw_ij0175_01 2, tup PySem.Challenge.pw_ij0175_01 1, tup PySem.Challenge.pw_ij0175_01 0] ∧ [objG (X3 PySem.Challenge.pw_ij0175_01 w g h k os 1875 15 3 31 448 451) 95, objG (X3 PySem.Challenge.pw_ij0175_01 w g h k os 1875 15 3 31 448 451) 98] = [sorted', iter' 30]) (fun w os g h k => keyL2F w os g h k) (fun w os g h k => keyL2T w os g h k) w os g h k

theorem turn2 (w : World) (os : OsState) (g h : Nat → Obj) (k : Result → Sem Fin) : ∃ s h2, segGoT treeTable PySem.Challenge.pw_ij0175_01 w 11 an 1 1875 (SL w.params PySem.Challenge.pw_ij0175_01 g h 15 3 31 448 451 os) (TL PySem.Challenge.pw_ij0175_01 k) = some (s, TL PySem.Challenge.pw_ij0175_01 k) ∧ s.abs = (SL w.params PySem.Challenge.pw_ij0175_01 g h2 30 18 30 553 556 os).abs := by
  obtain ⟨e, k1, k3, k4, k5⟩ := keyL2 w os g h k
  obtain ⟨s, h1, h2⟩ := go_abs (f := fL w.params PySem.Challenge.pw_ij0175_01 g (objG (X3 PySem.Challenge.pw_ij0175_01 w g h k os 1875 15 3 31 448 451)) 30 18 30 553) k1 (by decide) fun i _ => fL_is k3 k4 k5 i
  exact ⟨s, objG (X3 PySem.Challenge.pw_ij0175_01 w g h k os 1875 15 3 31 448 451), e.trans h1, h2⟩
theorem keyL3F (w : World) (os : OsState) (g h : Nat → Obj) (k : Result → Sem Fin) : (segGoT treeTable PySem.Challenge.pw_ij0175_01 (w.withFollow "special-get-raises" false) 11 an 1 1784 (SL (w.withFollow "special-get-raises" false).params PySem.Challenge.pw_ij0175_01 g h 30 18 30 553 556 os) (TL PySem.Challenge.pw_ij0175_01 k) = X3 PySem.Challenge.pw_ij0175_01 (w.withFollow "special-get-raises" false) g h k os 1784 30 18 30 553 556) ∧ (X3 PySem.Challenge.pw_ij0175_01 (w.withFollow "special-get-raises" false) g h k os 1784 30 18 30 553 556).map stG = some ((233, {}, Array.mk [], boot_drawn, 646, os), ⟨k (.ok .next), cT PySem.Challenge.pw_ij0175_01, qF, BT0⟩) ∧ [objG (X3 PySem.Challenge.pw_ij0175_01 (w.withFollow "special-get-raises" false) g h k os 1784 30 18 30 553 556) 45, objG (X3 PySem.Challenge.pw_ij0175_01 (w.withFollow "special-get-raises" false) g h k os 1784 30 18 30 553 556) 44, objG (X3 PySem.Challenge.pw_ij0175_01 (w.withFollow "special-get-raises" false) g h k os 1784 30 18 30 553 556) 43, objG (X3 PySem.Challenge.pw_ij0175_01 (w.withFollow "special-get-raises" false) g h k os 1784 30 18 30 553 556) 42, objG (X3 PySem.Challenge.pw_ij0175_01 (w.withFollow "special-get-raises" false) g h k os 1784 30 18 30 553 556) 41, objG (X3 PySem.Challenge.pw_ij0175_01 (w.withFollow "special-get-raises" false) g h k os 1784 30 18 30 553 556) 40, objG (X3 PySem.Challenge.pw_ij0175_01 (w.withFollow "special-get-raises" false) g h k os 1784 30 18 30 553 556) 39, objG (X3 PySem.Challenge.pw_ij0175_01 (w.withFollow "special-get-raises" false) g h k os 1784 30 18 30 553 556) 38, objG (X3 PySem.Challenge.pw_ij0175_01 (w.withFollow "special-get-raises" false) g h k os 1784 30 18 30 553 556) 37, objG (X3 PySem.Challenge.pw_ij0175_01 (w.withFollow "special-get-raises" false) g h k os 1784 30 18 30 553 556) 36, objG (X3 PySem.Challenge.pw_ij0175_01 (w.withFollow "special-get-raises" false) g h k os 1784 30 18 30 553 556) 35, objG (X3 PySem.Challenge.pw_ij0175_01 (w.withFollow "special-get-raises" false) g h k os 1784 30 18 30 553 556) 34, objG (X3 PySem.Challenge.pw_ij0175_01 (w.withFollow "special-get-raises" false) g h k os 1784 30 18 30 553 556) 33, objG (X3 PySem.Challenge.pw_ij0175_01 (w.withFollow "special-get-raises" false) g h k os 1784 30 18 30 553 556) 32, objG (X3 PySem.Challenge.pw_ij0175_01 (w.withFollow "special-get-raises" false) g h k os 1784 30 18 30 553 556) 31, objG (X3 PySem.Challenge.pw_ij0175_01 (w.withFollow "special-get-raises" false) g h k os 1784 30 18 30 553 556) 30, objG (X3 PySem.Challenge.pw_ij0175_01 (w.withFollow "special-get-raises" false) g h k os 1784 30 18 30 553 556) 29, objG (X3 PySem.Challenge.pw_ij0175_01 (w.withFollow "special-get-raises" false) g h k os 1784 30 18 30 553 556) 28, objG (X3 PySem.Challenge.pw_ij0175_01 (w.withFollow "special-get-raises" false) g h k os 1784 30 18 30 553 556) 27, objG (X3 PySem.Challenge.pw_ij0175_01 (w.withFollow "special-get-raises" false) g h k os 1784 30 18 30 553 556) 26, objG (X3 PySem.Challenge.pw_ij0175_01 (w.withFollow "special-get-raises" false) g h k os 1784 30 18 30 553 556) 25, objG (X3 PySem.Challenge.pw_ij0175_01 (w.withFollow "special-get-raises" false) g h k os 1784 30 18 30 553 556) 24, objG (X3 PySem.Challenge.pw_ij0175_01 (w.withFollow "special-get-raises" false) g h k os 1784 30 18 30 553 556) 23, objG (X3 PySem.Challenge.pw_ij0175_01 (w.withFollow "special-get-raises" false) g h k os 1784 30 18 30 553 556) 22, objG (X3 PySem.Challenge.pw_ij0175_01 (w.withFollow "special-get-raises" false) g h k os 1784 30 18 30 553 556) 21, objG (X3 PySem.Challenge.pw_ij0175_01 (w.withFollow "special-get-raises" false) g h k os 1784 30 18 30 553 556) 20, objG (X3 PySem.Challenge.pw_ij0175_01 (w.withFollow "special-get-raises" false) g h k os 1784 30 18 30 553 556) 19, objG (X3 PySem.Challenge.pw_ij0175_01 (w.withFollow "special-get-raises" false) g h k os 1784 30 18 30 553 556) 18, objG (X3 PySem.Challenge.pw_ij0175_01 (w.withFollow "special-get-raises" false) g h k os 1784 30 18 30 553 556) 17, objG (X3 PySem.Challenge.pw_ij0175_01 (w.withFollow "special-get-raises" false) g h k os 1784 30 18 30 553 556) 16, objG (X3 PySem.Challenge.pw_ij0175_01 (w.withFollow "special-get-raises" false) g h k os 1784 30 18 30 553 556) 15, objG (X3 PySem.Challenge.pw_ij0175_01 (w.withFollow "special-get-raises" false) g h k os 1784 30 18 30 553 556) 14, objG (X3 PySem.Challenge.pw_ij0175_01 (w.withFollow "special-get-raises" false) g h k os 1784 30 18 30 553 556) 13, objG (X3 PySem.Challenge.pw_ij0175_01 (w.withFollow "special-get-raises" false) g h k os 1784 30 18 30 553 556) 12, objG (X3 PySem.Challenge.pw_ij0175_01 (w.withFollow "special-get-raises" false) g h k os 1784 30 18 30 553 556) 11, objG (X3 PySem.Challenge.pw_ij0175_01 (w.withFollow "special-get-raises" false) g h k os 1784 30 18 30 553 556) 10, objG (X3 PySem.Challenge.pw_ij0175_01 (w.withFollow "special-get-raises" false) g h k os 1784 30 18 30 553 556) 9, objG (X3 PySem.Challenge.pw_ij0175_01 (w.withFollow "special-get-raises" false) g h k os 1784 30 18 30 553 556) 8, objG (X3 PySem.Challenge.pw_ij0175_01 (w.withFollow "special-get-raises" false) g h k os 1784 30 18 30 553 556) 7, objG (X3 PySem.Challenge.pw_ij0175_01 (w.withFollow "special-get-raises" false) g h k os 1784 30 18 30 553 556) 6, objG (X3 PySem.Challenge.pw_ij0175_01 (w.withFollow "special-get-raises" false) g h k os 1784 30 18 30 553 556) 5, objG (X3 PySem.Challenge.pw_ij0175_01 (w.withFollow "special-get-raises" false) g h k os 1784 30 18 30 553 556) 4, objG (X3 PySem.Challenge.pw_ij0175_01 (w.withFollow "special-get-raises" false) g h k os 1784 30 18 30 553 556) 3, objG (X3 PySem.Challenge.pw_ij0175_01 (w.withFollow "special-get-raises" false) g h k os 1784 30 18 30 553 556) 2, objG (X3 PySem.Challenge.pw_ij0175_01 (w.withFollow "special-get-raises" false) g h k os 1784 30 18 30 553 556) 1, objG (X3 PySem.Challenge.pw_ij0175_01 (w.withFollow "special-get-raises" false) g h k os 1784 30 18 30 553 556) 0] = [g 45, g 44, alias' (w.withFollow "special-get-raises" false).params PySem.Challenge.pw_ij0175_01 24, g 42, g 41, g 40, g 39, g 38, g 37, g 36, g 35, g 34, g 33, g 32, g 31, g 30, g 29, g 28, g 27, g 26, g 25, g 24, g 23, g 22, g 21, g 20, g 19, g 18, g 17, g 16, g 15, g 14, g 13, g 12, g 11, fB (w.withFollow "special-get-raises" false).params 10, fB (w.withFollow "special-get-raises" false).params 9, fB (w.withFollow "special-get-raises" false).params 8, fB (w.withFollow "special-get-raises" false).params 7, fB (w.withFollow "special-get-raises" false).params 6, fB (w.withFollow "special-get-raises" false).params 5, fB (w.withFollow "special-get-raises" false).params 4, nsL (w.withFollow "special-get-raises" false).params PySem.Challenge.pw_ij0175_01 36 643, fB (w.withFollow "special-get-raises" false).params 2, fB (w.withFollow "special-get-raises" false).params 1, fB (w.withFollow "special-get-raises" false).params 0] := by
  rw [PySem.W.Fast.te10295753902157049106, PySem.W.Fast.te14364793385576792824, PySem.W.Fast.te5175542366172373081]
  exact ⟨by rfl, by kernel_rfl, by kernel_rfl⟩
theorem keyL3T (w : World) (os : OsState) (g h : Nat → Obj) (k : Result → Sem Fin) : (segGoT treeTable PySem.Challenge.pw_ij0175_01 (w.withFollow "special-get-raises" true) 11 an 1 1784 (SL (w.withFollow "special-get-raises" true).params PySem.Challenge.pw_ij0175_01 g h 30 18 30 553 556 os) (TL PySem.Challenge.pw_ij0175_01 k) = X3 PySem.Challenge.pw_ij0175_01 (w.withFollow "special-get-raises" true) g h k os 1784 30 18 30 553 556) ∧ (X3 PySem.Challenge.pw_ij0175_01 (w.withFollow "special-get-raises" true) g h k os 1784 30 18 30 553 556).map stG = some ((233, {}, Array.mk [], boot_drawn, 646, os), ⟨k (.ok .next), cT PySem.Challenge.pw_ij0175_01, qF, BT0⟩) ∧ [objG (X3 PySem.Challenge.pw_ij0175_01 (w.withFollow "special-get-raises" true) g h k os 1784 30 18 30 553 556) 45, objG (X3 PySem.Challenge.pw_ij0175_01 (w.withFollow "special-get-raises" true) g h k os 1784 30 18 30 553 556) 44, objG (X3 PySem.Challenge.pw_ij0175_01 (w.withFollow "special-get-raises" true) g h k os 1784 30 18 30 553 556) 43, objG (X3 PySem.Challenge.pw_ij0175_01 (w.withFollow "special-get-raises" true) g h k os 1784 30 18 30 553 556) 42, objG (X3 PySem.Challenge.pw_ij0175_01 (w.withFollow "special-get-raises" true) g h k os 1784 30 18 30 553 556) 41, objG (X3 PySem.Challenge.pw_ij0175_01 (w.withFollow "special-get-raises" true) g h k os 1784 30 18 30 553 556) 40, objG (X3 PySem.Challenge.pw_ij0175_01 (w.withFollow "special-get-raises" true) g h k os 1784 30 18 30 553 556) 39, objG (X3 PySem.Challenge.pw_ij0175_01 (w.withFollow "special-get-raises" true) g h k os 1784 30 18 30 553 556) 38, objG (X3 PySem.Challenge.pw_ij0175_01 (w.withFollow "special-get-raises" true) g h k os 1784 30 18 30 553 556) 37, objG (X3 PySem.Challenge.pw_ij0175_01 (w.withFollow "special-get-raises" true) g h k os 1784 30 18 30 553 556) 36, objG (X3 PySem.Challenge.pw_ij0175_01 (w.withFollow "special-get-raises" true) g h k os 1784 30 18 30 553 556) 35, objG (X3 PySem.Challenge.pw_ij0175_01 (w.withFollow "special-get-raises" true) g h k os 1784 30 18 30 553 556) 34, objG (X3 PySem.Challenge.pw_ij0175_01 (w.withFollow "special-get-raises" true) g h k os 1784 30 18 30 553 556) 33, objG (X3 PySem.Challenge.pw_ij0175_01 (w.withFollow "special-get-raises" true) g h k os 1784 30 18 30 553 556) 32, objG (X3 PySem.Challenge.pw_ij0175_01 (w.withFollow "special-get-raises" true) g h k os 1784 30 18 30 553 556) 31, objG (X3 PySem.Challenge.pw_ij0175_01 (w.withFollow "special-get-raises" true) g h k os 1784 30 18 30 553 556) 30, objG (X3 PySem.Challenge.pw_ij0175_01 (w.withFollow "special-get-raises" true) g h k os 1784 30 18 30 553 556) 29, objG (X3 PySem.Challenge.pw_ij0175_01 (w.withFollow "special-get-raises" true) g h k os 1784 30 18 30 553 556) 28, objG (X3 PySem.Challenge.pw_ij0175_01 (w.withFollow "special-get-raises" true) g h k os 1784 30 18 30 553 556) 27, objG (X3 PySem.Challenge.pw_ij0175_01 (w.withFollow "special-get-raises" true) g h k os 1784 30 18 30 553 556) 26, objG (X3 PySem.Challenge.pw_ij0175_01 (w.withFollow "special-get-raises" true) g h k os 1784 30 18 30 553 556) 25, objG (X3 PySem.Challenge.pw_ij0175_01 (w.withFollow "special-get-raises" true) g h k os 1784 30 18 30 553 556) 24, objG (X3 PySem.Challenge.pw_ij0175_01 (w.withFollow "special-get-raises" true) g h k os 1784 30 18 30 553 556) 23, objG (X3 PySem.Challenge.pw_ij0175_01 (w.withFollow "special-get-raises" true) g h k os 1784 30 18 30 553 556) 22, objG (X3 PySem.Challenge.pw_ij0175_01 (w.withFollow "special-get-raises" true) g h k os 1784 30 18 30 553 556) 21, objG (X3 PySem.Challenge.pw_ij0175_01 (w.withFollow "special-get-raises" true) g h k os 1784 30 18 30 553 556) 20, objG (X3 PySem.Challenge.pw_ij0175_01 (w.withFollow "special-get-raises" true) g h k os 1784 30 18 30 553 556) 19, objG (X3 PySem.Challenge.pw_ij0175_01 (w.withFollow "special-get-raises" true) g h k os 1784 30 18 30 553 556) 18, objG (X3 PySem.Challenge.pw_ij0175_01 (w.withFollow "special-get-raises" true) g h k os 1784 30 18 30 553 556) 17, objG (X3 PySem.Challenge.pw_ij0175_01 (w.withFollow "special-get-raises" true) g h k os 1784 30 18 30 553 556) 16, objG (X3 PySem.Challenge.pw_ij0175_01 (w.withFollow "special-get-raises" true) g h k os 1784 30 18 30 553 556) 15, objG (X3 PySem.Challenge.pw_ij0175_01 (w.withFollow "special-get-raises" true) g h k os 1784 30 18 30 553 556) 14, objG (X3 PySem.Challenge.pw_ij0175_01 (w.withFollow "special-get-raises" true) g h k os 1784 30 18 30 553 556) 13, objG (X3 PySem.Challenge.pw_ij0175_01 (w.withFollow "special-get-raises" true) g h k os 1784 30 18 30 553 556) 12, objG (X3 PySem.Challenge.pw_ij0175_01 (w.withFollow "special-get-raises" true) g h k os 1784 30 18 30 553 556) 11, objG (X3 PySem.Challenge.pw_ij0175_01 (w.withFollow "special-get-raises" true) g h k os 1784 30 18 30 553 556) 10, objG (X3 PySem.Challenge.pw_ij0175_01 (w.withFollow "special-get-raises" true) g h k os 1784 30 18 30 553 556) 9, objG (X3 PySem.Challenge.pw_ij0175_01 (w.withFollow "special-get-raises" true) g h k os 1784 30 18 30 553 556) 8, objG (X3 PySem.Challenge.pw_ij0175_01 (w.withFollow "special-get-raises" true) g h k os 1784 30 18 30 553 556) 7, objG (X3 PySem.Challenge.pw_ij0175_01 (w.withFollow "special-get-raises" true) g h k os 1784 30 18 30 553 556) 6, objG (X3 PySem.Challenge.pw_ij0175_01 (w.withFollow "special-get-raises" true) g h k os 1784 30 18 30 553 556) 5, objG (X3 PySem.Challenge.pw_ij0175_01 (w.withFollow "special-get-raises" true) g h k os 1784 30 18 30 553 556) 4, objG (X3 PySem.Challenge.pw_ij0175_01 (w.withFollow "special-get-raises" true) g h k os 1784 30 18 30 553 556) 3, objG (X3 PySem.Challenge.pw_ij0175_01 (w.withFollow "special-get-raises" true) g h k os 1784 30 18 30 553 556) 2, objG (X3 PySem.Challenge.pw_ij0175_01 (w.withFollow "special-get-raises" true) g h k os 1784 30 18 30 553 556) 1, objG (X3 PySem.Challenge.pw_ij0175_01 (w.withFollow "special-get-raises" true) g h k os 1784 30 18 30 553 556) 0] = [g 45, g 44, alias' (w.withFollow "special-get-raises" true).params PySem.Challenge.pw_ij0175_01 24, g 42, g 41, g 40, g 39, g 38, g 37, g 36, g 35, g 34, g 33, g 32, g 31, g 30, g 29, g 28, g 27, g 26, g 25, g 24, g 23, g 22, g 21, g 20, g 19, g 18, g 17, g 16, g 15, g 14, g 13, g 12, g 11, fB (w.withFollow "special-get-raises" true).params 10, fB (w.withFollow "special-get-raises" true).params 9, fB (w.withFollow "special-get-raises" true).params 8, fB (w.withFollow "special-get-raises" true).params 7, fB (w.withFollow "special-get-raises" true).params 6, fB (w.withFollow "special-get-raises" true).params 5, fB (w.withFollow "special-get-raises" true).params 4, nsL (w.withFollow "special-get-raises" true).params PySem.Challenge.pw_ij0175_01 36 643, fB (w.withFollow "special-get-raises" true).params 2, fB (w.withFollow "special-get-raises" true).params 1, fB (w.withFollow "special-get-raises" true).params 0] := by
  rw [PySem.W.Fast.te10295753902157049106, PySem.W.Fast.te14364793385576792824, PySem.W.Fast.te5175542366172373081]
  exact ⟨by rfl, by kernel_rfl, by kernel_rfl⟩
theorem keyL3 (w : World) (os : OsState) (g h : Nat → Obj) (k : Result → Sem Fin) : (segGoT treeTable PySem.Challenge.pw_ij0175_01 w 11 an 1 1784 (SL w.params PySem.Challenge.pw_ij0175_01 g h 30 18 30 553 556 os) (TL PySem.Challenge.pw_ij0175_01 k) = X3 PySem.Challenge.pw_ij0175_01 w g h k os 1784 30 18 30 553 556) ∧ (X3 PySem.Challenge.pw_ij0175_01 w g h k os 1784 30 18 30 553 556).map stG = some ((233, {}, Array.mk [], boot_drawn, 646, os), ⟨k (.ok .next), cT PySem.Challenge.pw_ij0175_01, qF, BT0⟩) ∧ [objG (X3 PySem.Challenge.pw_ij0175_01 w g h k os 1784 30 18 30 553 556) 45, objG (X3 PySem.Challenge.pw_ij0175_01 w g h k os 1784 30 18 30 553 556) 44, objG (X3 PySem.Challenge.pw_ij0175_01 w g h k os 1784 30 18 30 553 556) 43, objG (X3 PySem.Challenge.pw_ij0175_01 w g h k os 1784 30 18 30 553 556) 42, objG (X3 PySem.Challenge.pw_ij0175_01 w g h k os 1784 30 18 30 553 556) 41, objG (X3 PySem.Challenge.pw_ij0175_01 w g h k os 1784 30 18 30 553 556) 40, objG (X3 PySem.Challenge.pw_ij0175_01 w g h k os 1784 30 18 30 553 556) 39, objG (X3 PySem.Challenge.pw_ij0175_01 w g h k os 1784 30 18 30 553 556) 38, objG (X3 PySem.Challenge.pw_ij0175_01 w g h k os 1784 30 18 30 553 556) 37, objG (X3 PySem.Challenge.pw_ij0175_01 w g h k os 1784 30 18 30 553 556) 36, objG (X3 PySem.Challenge.pw_ij0175_01 w g h k os 1784 30 18 30 553 556) 35, objG (X3 PySem.Challenge.pw_ij0175_01 w g h k os 1784 30 18 30 553 556) 34, objG (X3 PySem.Challenge.pw_ij0175_01 w g h k os 1784 30 18 30 553 556) 33, objG (X3 PySem.Challenge.pw_ij0175_01 w g h k os 1784 30 18 30 553 556) 32, objG (X3 PySem.Challenge.pw_ij0175_01 w g h k os 1784 30 18 30 553 556) 31, objG (X3 PySem.Challenge.pw_ij0175_01 w g h k os 1784 30 18 30 553 556) 30, objG (X3 PySem.Challenge.pw_ij0175_01 w g h k os 1784 30 18 30 553 556) 29, objG (X3 PySem.Challenge.pw_ij0175_01 w g h k os 1784 30 18 30 553 556) 28, objG (X3 PySem.Challenge.pw_ij0175_01 w g h k os 1784 30 18 30 553 556) 27, objG (X3 PySem.Challenge.pw_ij0175_01 w g h k os 1784 30 18 30 553 556) 26, objG (X3 PySem.Challenge.pw_ij0175_01 w g h k os 1784 30 18 30 553 556) 25, objG (X3 PySem.Challenge.pw_ij0175_01 w g h k os 1784 30 18 30 553 556) 24, objG (X3 PySem.Challenge.pw_ij0175_01 w g h k os 1784 30 18 30 553 556) 23, objG (X3 PySem.Challenge.pw_ij0175_01 w g h k os 1784 30 18 30 553 556) 22, objG (X3 PySem.Challenge.pw_ij0175_01 w g h k os 1784 30 18 30 553 556) 21, objG (X3 PySem.Challenge.pw_ij0175_01 w g h k os 1784 30 18 30 553 556) 20, objG (X3 PySem.Challenge.pw_ij0175_01 w g h k os 1784 30 18 30 553 556) 19, objG (X3 PySem.Challenge.pw_ij0175_01 w g h k os 1784 30 18 30 553 556) 18, objG (X3 PySem.Challenge.pw_ij0175_01 w g h k os 1784 30 18 30 553 556) 17, objG (X3 PySem.Challenge.pw_ij0175_01 w g h k os 1784 30 18 30 553 556) 16, objG (X3 PySem.Challenge.pw_ij0175_01 w g h k os 1784 30 18 30 553 556) 15, objG (X3 PySem.Challenge.pw_ij0175_01 w g h k os 1784 30 18 30 553 556) 14, objG (X3 PySem.Challenge.pw_ij0175_01 w g h k os 1784 30 18 30 553 556) 13, objG (X3 PySem.Challenge.pw_ij0175_01 w g h k os 1784 30 18 30 553 556) 12, objG (X3 PySem.Challenge.pw_ij0175_01 w g h k os 1784 30 18 30 553 556) 11, objG (X3 PySem.Challenge.pw_ij0175_01 w g h k os 1784 30 18 30 553 556) 10, objG (X3 PySem.Challenge.pw_ij0175_01 w g h k os 1784 30 18 30 553 556) 9, objG (X3 PySem.Challenge.pw_ij0175_01 w g h k os 1784 30 18 30 553 556) 8, objG (X3 PySem.Challenge.pw_ij0175_01 w g h k os 1784 30 18 30 553 556) 7, objG (X3 PySem.Challenge.pw_ij0175_01 w g h k os 1784 30 18 30 553 556) 6, objG (X3 PySem.Challenge.pw_ij0175_01 w g h k os 1784 30 18 30 553 556) 5, objG (X3 PySem.Challenge.pw_ij0175_01 w g h k os 1784 30 18 30 553 556) 4, objG (X3 PySem.Challenge.pw_ij0175_01 w g h k os 1784 30 18 30 553 556) 3, objG (X3 PySem.Challenge.pw_ij0175_01 w g h k os 1784 30 18 30 553 556) 2, objG (X3 PySem.Challenge.pw_ij0175_01 w g h k os 1784 30 18 30 553 556) 1, objG (X3 PySem.Challenge.pw_ij0175_01 w g h k os 1784 30 18 30 553 556) 0] = [g 45, g 44, alias' w.params PySem.Challenge.pw_ij0175_01 24, g 42, g 41, g 40, g 39, g 38, g 37, g 36, g 35, g 34, g 33, g 32, g 31, g 30, g 29, g 28, g 27, g 26, g 25, g 24, g 23, g 22, g 21, g 20, g 19, g 18, g 17, g 16, g 15, g 14, g 13, g 12, g 11, fB w.params 10, fB w.params 9, fB w.params 8, fB w.params 7, fB w.params 6, fB w.params 5, fB w.params 4, nsL w.params PySem.Challenge.pw_ij0175_01 36 643, fB w.params 2, fB w.params 1, fB w.params 0] :=
  byRow2 "special-get-raises" (P := fun w => ∀ (os : OsState) (g h : Nat → Obj) (k : Result → Sem Fin), (segGoT treeTable PySem.Challenge.pw_ij0175_01 w 11 an 1 1784 (SL w.params PySem.Challenge.pw_ij0175_01 g h 30 18 30 553 556 os) (TL PySem.Challenge.pw_ij0175_01 k) = X3 PySem.Challenge.pw_ij0175_01 w g h k os 1784 30 18 30 553 556) ∧ (X3 PySem.Challenge.pw_ij0175_01 w g h k os 1784 30 18 30 553 556).map stG = some ((233, {}, Array.mk [], boot_drawn, 646, os), ⟨k (.ok .next), cT PySem.Challenge.pw_ij0175_01, qF, BT0⟩) ∧ [objG (X3 PySem.Challenge.pw_ij0175_01 w g h k os 1784 30 18 30 553 556) 45, objG (X3 PySem.Challenge.pw_ij0175_01 w g h k os 1784 30 18 30 553 556) 44, objG (X3 PySem.Challenge.pw_ij0175_01 w g h k os 1784 30 18 30 553 556) 43, objG (X3 PySem.Challenge.pw_ij0175_01 w g h k os 1784 30 18 30 553 556) 42, objG (X3 PySem.Challenge.pw_ij0175_01 w g h k os 1784 30 18 30 553 556) 41, objG (X3 PySem.Challenge.pw_ij0175_01 w g h k os 1784 30 18 30 553 556) 40, objG (X3 PySem.Challenge.pw_ij0175_01 w g h k os 1784 30 18 30 553 556) 39, objG (X3 PySem.Challenge.pw_ij0175_01 w g h k os 1784 30 18 30 553 556) 38, objG (X3 PySem.Challenge.pw_ij0175_01 w g h k os 1784 30 18 30 553 556) 37, objG (X3 PySem.Challenge.pw_ij0175_01 w g h k os 1784 30 18 30 553 556) 36, objG (X3 PySem.Challenge.pw_ij0175_01 w g h k os 1784 30 18 30 553 556) 35, objG (X3 PySem.Challenge.pw_ij0175_01 w g h k os 1784 30 18 30 553 556) 34, objG (X3 PySem.Challenge.pw_ij0175_01 w g h k os 1784 30 18 30 553 556) 33, objG (X3 PySem.Challenge.pw_ij0175_01 w g h k os 1784 30 18 30 553 556) 32, objG (X3 PySem.Challenge.pw_ij0175_01 w g h k os 1784 30 18 30 553 556) 31, objG (X3 PySem.Challenge.pw_ij0175_01 w g h k os 1784 30 18 30 553 556) 30, objG (X3 PySem.Challenge.pw_ij0175_01 w g h k os 1784 30 18 30 553 556) 29, objG (X3 PySem.Challenge.pw_ij0175_01 w g h k os 1784 30 18 30 553 556) 28, objG (X3 PySem.Challenge.pw_ij0175_01 w g h k os 1784 30 18 30 553 556) 27, objG (X3 PySem.Challenge.pw_ij0175_01 w g h k os 1784 30 18 30 553 556) 26, objG (X3 PySem.Challenge.pw_ij0175_01 w g h k os 1784 30 18 30 553 556) 25, objG (X3 PySem.Challenge.pw_ij0175_01 w g h k os 1784 30 18 30 553 556) 24, objG (X3 PySem.Challenge.pw_ij0175_01 w g h k os 1784 30 18 30 553 556) 23, objG (X3 PySem.Challenge.pw_ij0175_01 w g h k os 1784 30 18 30 553 556) 22, objG (X3 PySem.Challenge.pw_ij0175_01 w g h k os 1784 30 18 30 553 556) 21, objG (X3 PySem.Challenge.pw_ij0175_01 w g h k os 1784 30 18 30 553 556) 20, objG (X3 PySem.Challenge.pw_ij0175_01 w g h k os 1784 30 18 30 553 556) 19, objG (X3 PySem.Challenge.pw_ij0175_01 w g h k os 1784 30 18 30 553 556) 18, objG (X3 PySem.Challenge.pw_ij0175_01 w g h k os 1784 30 18 30 553 556) 17, objG (X3 PySem.Challenge.pw_ij0175_01 w g h k os 1784 30 18 30 553 556) 16, objG (X3 PySem.Challenge.pw_ij0175_01 w g h k os 1784 30 18 30 553 556) 15, objG (X3 PySem.Challenge.pw_ij0175_01 w g h k os 1784 30 18 30 553 556) 14, objG (X3 PySem.Challenge.pw_ij0175_01 w g h k os 1784 30 18 30 553 556) 13, objG (X3 PySem.Challenge.pw_ij0175_01 w g h k os 1784 30 18 30 553 556) 12, objG (X3 PySem.Challenge.pw_ij0175_01 w g h k os 1784 30 18 30 553 556) 11, objG (X3 PySem.Challenge.pw_ij0175_01 w g h k os 1784 30 18 30 553 556) 10, objG (X3 PySem.Challenge.pw_ij0175_01 w g h k os 1784 30 18 30 553 556) 9, objG (X3 PySem.Challenge.pw_ij0175_01 w g h k os 1784 30 18 30 553 556) 8, objG (X3 PySem.Challenge.pw_ij0175_01 w g h k os 1784 30 18 30 553 556) 7, objG (X3 PySem.Challenge.pw_ij0175_01 w g h k os 1784 30 18 30 553 556) 6, objG (X3 PySem.Challenge.pw_ij0175_01 w g h k os 1784 30 18 30 553 556) 5, objG (X3 PySem.Challenge.pw_ij0175_01 w g h k os 1784 30 18 30 553 556) 4, objG (X3 PySem.Challenge.pw_ij0175_01 w g h k os 1784 30 18 30 553 556) 3, objG (X3 PySem.Challenge.pw_ij0175_01 w g h k os 1784 30 18 30 553 556) 2, objG (X3 PySem.Challenge.pw_ij0175_01 w g h k os 1784 30 18 30 553 556) 1, objG (X3 PySem.Challenge.pw_ij0175_01 w g h k os 1784 30 18 30 553 556) 0] = [g 45, g 44, alias' w.params PySem.Challenge.pw_ij0175_01 24, g 42, g 41, g 40, g 39, g 38, g 37, g 36, g 35, g 34, g 33, g 32, g 31, g 30, g 29, g 28, g 27, g 26, g 25, g 24, g 23, g 22, g 21, g 20, g 19, g 18, g 17, g 16, g 15, g 14, g 13, g 12, g 11, fB w.params 10, fB w.params 9, fB w.params 8, fB w.params 7, fB w.params 6, fB w.params 5, fB w.params 4, nsL w.params PySem.Challenge.pw_ij0175_01 36 643, fB w.params 2, fB w.params 1, fB w.params 0]) (fun w os g h k => keyL3F w os g h k) (fun w os g h k => keyL3T w os g h k) w os g h k

theorem turn3 (w : World) (os : OsState) (g h : Nat → Obj) (k : Result → Sem Fin) : ∃ s h2, segGoT treeTable PySem.Challenge.pw_ij0175_01 w 11 an 1 1784 (SL w.params PySem.Challenge.pw_ij0175_01 g h 30 18 30 553 556 os) (TL PySem.Challenge.pw_ij0175_01 k) = some (s, ⟨k (.ok .next), cT PySem.Challenge.pw_ij0175_01, qF, BT0⟩) ∧ s.abs = (S2 w.params PySem.Challenge.pw_ij0175_01 g h2 os).abs := by
  obtain ⟨e, k1, k3⟩ := keyL3 w os g h k
  have k4 : tab (objG (X3 PySem.Challenge.pw_ij0175_01 w g h k os 1784 30 18 30 553 556)) 0 46 = tab (fLow w.params PySem.Challenge.pw_ij0175_01 g 24 36 643) 0 46 := k3
  obtain ⟨s, h1, h2⟩ := go_abs (f := f2 w.params PySem.Challenge.pw_ij0175_01 g (objG (X3 PySem.Challenge.pw_ij0175_01 w g h k os 1784 30 18 30 553 556))) k1 (by decide) fun i _ => by
    unfold f2
    cases h1 : Nat.blt i 46 with
    | true => exact tab_eq k4 i (Nat.zero_le _) (by have := Nat.le_of_ble_eq_true h1; omega)
    | false => rfl
  exact ⟨s, objG (X3 PySem.Challenge.pw_ij0175_01 w g h k os 1784 30 18 30 553 556), e.trans h1, h2⟩
end MineTop
end
section
open PySem PySem.W PySem.Calls PyProof.Rows
set_option maxRecDepth 100000
set_option linter.unusedVariables false
namespace MineTop
theorem loop_run (w : World) (os : OsState) (g : Nat → Obj) : ∃ h, segRun treeTable PySem.Challenge.pw_ij0175_01 w 11 an 1 (3168 + (1772 + (1875 + (1784 + 1)))) (S1 w.params PySem.Challenge.pw_ij0175_01 g os).abs (piecesOf (l2 PySem.Challenge.pw_ij0175_01) (envT PySem.Challenge.pw_ij0175_01) (cT PySem.Challenge.pw_ij0175_01) q1 BT0) = some (.next, (S2 w.params PySem.Challenge.pw_ij0175_01 g h os).abs, cT PySem.Challenge.pw_ij0175_01, qF) := by
  obtain ⟨s1, k, h1, a1, b1, hk⟩ := part2 w os g
  obtain ⟨s2, h2, a2, b2⟩ := turn1 w os g h1 k
  obtain ⟨s3, h3, a3, b3⟩ := turn2 w os g h2 k
  obtain ⟨s4, h4, a4, b4⟩ := turn3 w os g h3 k
  have c1 := segGo_of a1
  have c2 := segGo_of a2
  have c3 := segGo_of a3
  have c4 := segGo_of a4
  rw [b1] at c1
  rw [b2] at c2
  rw [b3] at c3
  rw [b4] at c4
  refine ⟨h4, seg_go c1 (seg_go c2 (seg_go c3 (seg_go c4 ?_)))⟩
  rw [hk]
  rfl
theorem fin_run (w : World) (s : Shared) (c : Code) (q : Pos) : topRun treeTable PySem.Challenge.pw_ij0175_01 w 11 an 5 s ⟨doneF .next, c, q, BT0⟩ = some s := by rfl
theorem block_run (w : World) (s : Shared) : segRun treeTable PySem.Challenge.pw_ij0175_01 w 11 an 1 1 s (blockOf (behindTheImports PySem.Challenge.pw_ij0175_01) (envT PySem.Challenge.pw_ij0175_01) (cT PySem.Challenge.pw_ij0175_01) q0 BT0) = some (.next, s, cT PySem.Challenge.pw_ij0175_01, q0) := by kernel_rfl
theorem body_is : behindTheImports PySem.Challenge.pw_ij0175_01 = l1 PySem.Challenge.pw_ij0175_01 ++ (l2 PySem.Challenge.pw_ij0175_01 ++ (l3 PySem.Challenge.pw_ij0175_01 ++ [])) := by
  unfold l1 l2 l3
  rw [List.append_nil, List.take_append_drop, List.take_append_drop]
noncomputable abbrev lk (w : World) (s : Shared) : Bool := staticsOk (importedModules PySem.Challenge.pw_ij0175_01.main.body) (boot_heap w.params) s.heap && namesBound PySem.Challenge.pw_ij0175_01 s.heap && gensDone s && laidKept (boot_heap w.params) s.heap
theorem ann_is (P : Params) : (boot_heap P).nsMap mainGlobals (Str.ofString "__annotations__") = some (.ref 6) := by kernel_rfl
theorem ns_is (P : Params) : ((boot_heap P).isNs mainGlobals && (Array.mk ([] : List GenState)).size == 0) = true := by kernel_rfl
theorem open_is : opening PySem.Challenge.pw_ij0175_01 = plainProg PySem.Challenge.pw_ij0175_01.main.scope.names := by kernel_rfl
theorem fence_is (s : Shared) : fenceModules? PySem.Challenge.pw_ij0175_01 s = some s := by kernel_rfl
abbrev Lo : List Str := [Str.ofString "locale_encoding_alias"]
abbrev q9 : Pos := ⟨186, 0, 189, 60⟩
theorem left2 {α : Type} {Yf : Shared → α} {Ya : World → α} {Xt : Shared → Bool}
    (hZ : ∀ (w : World) (os : OsState) (h : Nat → Obj), (segRunT treeTable PySem.Challenge.pw_ij0175_01 w 11 an 1 600 (S2 w.params PySem.Challenge.pw_ij0175_01 (objR (X1 PySem.Challenge.pw_ij0175_01 w os)) h os) (piecesOf (l3 PySem.Challenge.pw_ij0175_01) (envT PySem.Challenge.pw_ij0175_01) (cT PySem.Challenge.pw_ij0175_01) qF BT0)).map (fun r => (r.1, r.2.2, lk w r.2.1.abs, openSeen vw Lo (importedModules PySem.Challenge.pw_ij0175_01.main.body) Xt true r.2.1.abs, Yf r.2.1.abs)) = some (.next, (cT PySem.Challenge.pw_ij0175_01, q9), true, openGood vw Lo, Ya w)) :
    LeftO PySem.Challenge.pw_ij0175_01 vw Lo Xt Yf Ya 20224 := fun w => by
  obtain ⟨⟨hp, gs, d, k, os⟩, e, e'⟩ := Option.map_eq_some_iff.mp (boot_open (p := PySem.Challenge.pw_ij0175_01) (N := 20224) open_is rfl fence_is w)
  obtain ⟨rfl, rfl, rfl, rfl⟩ : hp = boot_heap w.params ∧ gs = Array.mk [] ∧ d = boot_drawn ∧ k = boot_toks := by simpa using e'
  obtain ⟨s1, a1, b1⟩ := part1 w os
  obtain ⟨h, a2⟩ := loop_run w os (objR (X1 PySem.Challenge.pw_ij0175_01 w os))
  obtain ⟨⟨fl, s, c, q⟩, hs, hl⟩ := Option.map_eq_some_iff.mp (hZ w os h)
  simp only [Prod.mk.injEq] at hl
  obtain ⟨rfl, ⟨rfl, rfl⟩, l1', l2', l3'⟩ := hl
  have c1 := segRun_of a1
  rw [b1] at c1
  have c3 := segRun_of hs
  have r0 := piece_app (rest := []) c3 (piece_nil (fin_run w s.abs (cT PySem.Challenge.pw_ij0175_01) q9))
  have r1 := piece_app a2 r0
  have r2 := piece_app c1 r1
  rw [← body_is] at r2
  have r3 := piece_block (block_run w _) r2
  have r4 := go_top (pre w os) r3
  have r := topRun_mono (20224 - (12 + (1 + (1000 + ((3168 + (1772 + (1875 + (1784 + 1)))) + (600 + 5)))))) _ _ _ _ r4
  have t : topFrom treeTable PySem.Challenge.pw_ij0175_01 w 20224 ⟨boot_heap w.params, Array.mk [], boot_drawn, boot_toks, os⟩ = some s.abs := by
    unfold topFrom
    dsimp only
    rw [ns_is]
    dsimp only
    rw [ann_is]
    show (topRun treeTable PySem.Challenge.pw_ij0175_01 w 11 _ _ _ _).bind _ = _
    rw [r]
    show (match lk w s.abs with | true => _ | false => _) = _
    rw [l1']
  unfold openEnds
  rw [e]
  show (topFrom treeTable PySem.Challenge.pw_ij0175_01 w 20224 _).map _ = _
  rw [t]
  show some (_, _) = some (_, _)
  rw [l2', l3']
end MineTop
end
section
open PySem PySem.W PyProof.Rows PySem.Calls
open MineTop
namespace Mine
theorem pickU {Z T G : Prop} (f : Z → T → G) (both : Z ∧ T) : G := f both.1 both.2
local macro_rules | `(tactic| o_head $H) => `(tactic|
  refine pickU (G := PySem.Challenge.rw_ij0175_01.row.Holds) (fun (z : ∀ (w : World) (os : OsState) (h : Nat → Obj), (segRunT treeTable PySem.Challenge.pw_ij0175_01 w 11 an 1 600 (S2 (w).params PySem.Challenge.pw_ij0175_01 (objR (X1 PySem.Challenge.pw_ij0175_01 w os)) h os) (piecesOf (l3 PySem.Challenge.pw_ij0175_01) (envT PySem.Challenge.pw_ij0175_01) (cT PySem.Challenge.pw_ij0175_01) qF BT0)).map (fun r => (r.1, r.2.2, lk w r.2.1.abs, openSeen vw Lo (importedModules PySem.Challenge.pw_ij0175_01.main.body) (fun s => xlAt MineTop.vw [] s && recOk (RowW.records PySem.Challenge.rw_ij0175_01.row.toRowW) s) true r.2.1.abs, Hook.obs $H r.2.1.abs)) = some (.next, (cT PySem.Challenge.pw_ij0175_01, q9), true, openGood vw Lo, Hook.val $H w)) => holds_open (r := PySem.Challenge.rw_ij0175_01.row) (q := MineTop.vw) (loose := [Str.ofString "locale_encoding_alias"]) (Xt := (fun s => xlAt MineTop.vw [] s && recOk (RowW.records PySem.Challenge.rw_ij0175_01.row.toRowW) s)) (XP := XL MineTop.vw []) (Yf := Hook.obs $H) (Ya := Hook.val $H) (YP := Hook.says $H) (N := 20224) (by exact left2 z) (Hook.of $H) (Hook.keeps $H) (fun s e => xl_of s (Bool.and_eq_true_iff.mp e).1) XL.keeps (by rfl) (by rfl) (by rfl) (fun s e => recFacts_of (Bool.and_eq_true_iff.mp e).2) (by rfl) (by first | assumption | decide +kernel) (by decide +kernel) ⟨rfl, rfl, rfl, rfl, rfl, by decide +kernel⟩ ?hw) ?hc)
set_option maxRecDepth 100000 in
set_option maxHeartbeats 8000000 in
open_top hd for PySem.Challenge.rw_ij0175_01
theorem pick {Z T H : Prop} (f : Z ∧ T → H) (z : Z) (t : T) : H := f ⟨z, t⟩
def asK : List Addr := [2, 3, 15, 17, 18, 20, 21, 22, 24, 25, 27, 28, 29, 31, 32, 34, 35, 36, 38, 39, 41, 42, 43, 233, 235, 236, 238, 239, 240, 242, 243, 245, 246, 247, 249, 250, 252, 253, 254, 256, 257, 259, 260, 261, 263, 264, 266, 267, 268, 270, 271, 273, 274, 275, 278, 279, 280, 282, 283, 285, 286, 287, 289, 290, 292, 293, 294, 296, 297, 299, 300, 301, 303, 304, 306, 307, 308, 311, 312, 313, 315, 316, 318, 319, 320, 322, 323, 325, 326, 327, 330, 331]
def atK (s : Shared) : List (Option Obj) := asK.map s.heap.get?
noncomputable def valK (w : World) : List (Option Obj) := (Mine.hd.heap_39 w.params).map fun p => some p.2
set_option maxRecDepth 100000 in
theorem zF (w : World) (os : OsState) (h : Nat → Obj) : (segRunT treeTable PySem.Challenge.pw_ij0175_01 (w.withFollow "special-get-raises" false) 11 an 1 600 (S2 ((w.withFollow "special-get-raises" false)).params PySem.Challenge.pw_ij0175_01 (objR (X1 PySem.Challenge.pw_ij0175_01 (w.withFollow "special-get-raises" false) os)) h os) (piecesOf (l3 PySem.Challenge.pw_ij0175_01) (envT PySem.Challenge.pw_ij0175_01) (cT PySem.Challenge.pw_ij0175_01) qF BT0)).map (fun r => (r.1, r.2.2, lk (w.withFollow "special-get-raises" false) r.2.1.abs, openSeen vw Lo (importedModules PySem.Challenge.pw_ij0175_01.main.body) (fun s => xlAt MineTop.vw [] s && recOk (RowW.records PySem.Challenge.rw_ij0175_01.row.toRowW) s) true r.2.1.abs, atK r.2.1.abs)) = some (.next, (cT PySem.Challenge.pw_ij0175_01, q9), true, openGood vw Lo, valK (w.withFollow "special-get-raises" false)) := by
  unfold lk vw openGood
  rw [PySem.W.Fast.te10110043849684766642, PySem.W.Fast.te14364793385576792824, PySem.W.Fast.te5175542366172373081, PySem.W.Fast.te4187177175401517315, PySem.W.Fast.te5923862056798008813, PySem.W.Fast.te3247288618530077131, PySem.W.Fast.te821141287760084731]
  kernel_rfl
set_option maxRecDepth 100000 in
theorem zT (w : World) (os : OsState) (h : Nat → Obj) : (segRunT treeTable PySem.Challenge.pw_ij0175_01 (w.withFollow "special-get-raises" true) 11 an 1 600 (S2 ((w.withFollow "special-get-raises" true)).params PySem.Challenge.pw_ij0175_01 (objR (X1 PySem.Challenge.pw_ij0175_01 (w.withFollow "special-get-raises" true) os)) h os) (piecesOf (l3 PySem.Challenge.pw_ij0175_01) (envT PySem.Challenge.pw_ij0175_01) (cT PySem.Challenge.pw_ij0175_01) qF BT0)).map (fun r => (r.1, r.2.2, lk (w.withFollow "special-get-raises" true) r.2.1.abs, openSeen vw Lo (importedModules PySem.Challenge.pw_ij0175_01.main.body) (fun s => xlAt MineTop.vw [] s && recOk (RowW.records PySem.Challenge.rw_ij0175_01.row.toRowW) s) true r.2.1.abs, atK r.2.1.abs)) = some (.next, (cT PySem.Challenge.pw_ij0175_01, q9), true, openGood vw Lo, valK (w.withFollow "special-get-raises" true)) := by
  unfold lk vw openGood
  rw [PySem.W.Fast.te10110043849684766642, PySem.W.Fast.te14364793385576792824, PySem.W.Fast.te5175542366172373081, PySem.W.Fast.te4187177175401517315, PySem.W.Fast.te5923862056798008813, PySem.W.Fast.te3247288618530077131, PySem.W.Fast.te821141287760084731]
  kernel_rfl
theorem zz (w : World) (os : OsState) (h : Nat → Obj) : (segRunT treeTable PySem.Challenge.pw_ij0175_01 w 11 an 1 600 (S2 (w).params PySem.Challenge.pw_ij0175_01 (objR (X1 PySem.Challenge.pw_ij0175_01 w os)) h os) (piecesOf (l3 PySem.Challenge.pw_ij0175_01) (envT PySem.Challenge.pw_ij0175_01) (cT PySem.Challenge.pw_ij0175_01) qF BT0)).map (fun r => (r.1, r.2.2, lk w r.2.1.abs, openSeen vw Lo (importedModules PySem.Challenge.pw_ij0175_01.main.body) (fun s => xlAt MineTop.vw [] s && recOk (RowW.records PySem.Challenge.rw_ij0175_01.row.toRowW) s) true r.2.1.abs, atK r.2.1.abs)) = some (.next, (cT PySem.Challenge.pw_ij0175_01, q9), true, openGood vw Lo, valK w) :=
  byRow2 "special-get-raises" (P := fun w => ∀ (os : OsState) (h : Nat → Obj), (segRunT treeTable PySem.Challenge.pw_ij0175_01 w 11 an 1 600 (S2 (w).params PySem.Challenge.pw_ij0175_01 (objR (X1 PySem.Challenge.pw_ij0175_01 w os)) h os) (piecesOf (l3 PySem.Challenge.pw_ij0175_01) (envT PySem.Challenge.pw_ij0175_01) (cT PySem.Challenge.pw_ij0175_01) qF BT0)).map (fun r => (r.1, r.2.2, lk w r.2.1.abs, openSeen vw Lo (importedModules PySem.Challenge.pw_ij0175_01.main.body) (fun s => xlAt MineTop.vw [] s && recOk (RowW.records PySem.Challenge.rw_ij0175_01.row.toRowW) s) true r.2.1.abs, atK r.2.1.abs)) = some (.next, (cT PySem.Challenge.pw_ij0175_01, q9), true, openGood vw Lo, valK w)) zF zT w os h
end Mine
end
section
open PySem PySem.W PyProof.Rows
namespace Mine
theorem quiet : True := by
  w_top off
  exact trivial
end Mine
end
section
open PySem PySem.W PySem.Calls PyProof.Rows
namespace Mine
abbrev Pg : Program := PySem.Challenge.rw_ij0175_01.row.prog
/-- what stays of a heap -/
abbrev Kp (h h' : Heap) : Prop := ∀ b o, h.get? b = some o → h'.get? b = some o
abbrev Am (dp un : Nat) (fr : Option (List Env)) (gd : Option (List Code)) : Around := { handled := none, depth := dp, frames := fr, guards := gd, units := un }
/-- a contract: the call of f with vs, at depth dp -/
def Cn (w : World) (mean : ExcName → Option Value) (mg mb : Str → Option Value) (dp un : Nat) (f : Addr) (vs : List Value) (Pre : Heap → Prop) (Post : Heap → Value → Heap → Prop) : Prop :=
  ∀ (fr : Option (List Env)) (gd : Option (List Code)) (s : Shared) (Q E : Value → Shared → Prop), (Mine.hd.heap_39 w.params).In s.heap → Top MineTop.vw (looseW MineTop.vw [Str.ofString "locale_encoding_alias"]) mean mg mb s.heap → Pre s.heap →
    (∀ r h' tk', Kp s.heap h' → Post s.heap r h' → Q r { s with heap := h', toks := tk' }) →
    wpAny (model Pg w) (Am dp un fr gd) (call (.ref f) vs) Q E s

section
variable {w : World} {mean : ExcName → Option Value} {mg mb : Str → Option Value} {dp un : Nat} {f : Addr} {vs : List Value} {Pre : Heap → Prop} {Post : Heap → Value → Heap → Prop}
theorem fr_keeps {h₀ h h' : Heap} {L : Addr} {m : Str → Option Value} (F : Fr h₀ L h m) (k : Kp h h') : Fr h₀ L h' m :=
  ⟨F.ns.keeps k, fun b o e => k b o (F.keep b o e), F.above⟩
theorem news_keeps {h₀ h h' : Heap} {L : Addr} {news : List (Addr × Obj)} (N : News h₀ L h news) (k : Kp h h') : News h₀ L h' news :=
  fun p hp => ⟨k _ _ (N p hp).1, (N p hp).2⟩
/-- a contract used from a frame -/
theorem use {A : Around} {s : Shared} {Q E : Value → Shared → Prop} {h₀ : Heap} {L : Addr} {m : Str → Option Value} {news : List (Addr × Obj)} (C : Cn w mean mg mb dp un f vs Pre Post)
    (F : Fr h₀ L s.heap m) (X : (Mine.hd.heap_39 w.params).In h₀) (N : News h₀ L s.heap news) (T : Top MineTop.vw (looseW MineTop.vw [Str.ofString "locale_encoding_alias"]) mean mg mb h₀) (pre : Pre s.heap) (hA : ∃ fr gd, A = Am dp un fr gd)
    (ret : ∀ r h' tk', Fr h₀ L h' m → News h₀ L h' news → Kp s.heap h' → Post s.heap r h' → Q r { s with heap := h', toks := tk' }) :
    wpAny (model Pg w) A (call (.ref f) vs) Q E s := by
  obtain ⟨fr, gd, rfl⟩ := hA
  exact C fr gd s Q E (X.keeps F.keep) (T.keeps F.keep) pre fun r h' tk' k p => ret r h' tk' (fr_keeps F k) (news_keeps N k) k p

/-- into a def without cells -/
theorem enter {name qual : Str} {params : Arguments} {body : List Stmt} {scope : Scope} {dV kV doc pm cdv ct oc : Value} {an od : Option Addr} {osl : Array (Option Value)} {binds : List (Str × Value)}
    (ho : (Mine.hd.heap_39 w.params).lookup f = some ⟨oc, od, .func (fnOf name qual params body scope dV kV doc pm an cdv ct), osl⟩) (hcd : codeIn (Mine.hd.heap_39 w.params) cdv qual = true) (hroom : dp < recursionLimit)
    (hbind : bindArgs (fnOf name qual params body scope dV kV doc pm an cdv ct) ⟨vs, []⟩ = pure binds) (hloc : ∀ y ∈ binds, scope.names.lookup y.1 = some .local)
    (h : ∀ (fr : Option (List Env)) (gd : Option (List Code)) (s : Shared) (Q : Value → Shared → Prop) (h₀ : Heap) (L : Addr) (m : Str → Option Value), (Mine.hd.heap_39 w.params).In h₀ → Top MineTop.vw (looseW MineTop.vw [Str.ofString "locale_encoding_alias"]) mean mg mb h₀ → Pre h₀ → m = (fun y => binds.reverse.lookup y) →
      Fr h₀ L s.heap m → News h₀ L s.heap [] → 
      (∀ r h' tk', Kp h₀ h' → Post h₀ r h' → Q r { s with heap := h', toks := tk' }) →
      wpAny (model Pg w) ((Am dp un fr gd).deeper (envOf qual scope L f cdv)) (execs body (envOf qual scope L f cdv)) (fun fl s' => Q (match fl with | .ret v => v | _ => .none) s') (fun _ _ => False) s)
    (hco : scope.isCoroutine = false) (hgen : scope.isGenerator = false) (hk : scope.kind = .function) (hcell : ∀ x ∈ scope.names, x.2 ≠ .cell) : Cn w mean mg mb dp un f vs Pre Post := by
  intro fr gd s Q E X T pre ret
  refine wpAny_call (codeAny_call_def (fd := fnOf name qual params body scope dV kV doc pm an cdv ct) (body := body) (binds := binds) hroom (X _ _ ho) rfl T.nolimit (codeRec_of X hcd) rfl (.of_eq hbind) hcell hloc (fun h₁ hns hk₁ => ?_) hco hgen hk)
  refine wpAny_mono (h fr gd { s with heap := h₁, toks := s.toks + binds.length } Q s.heap s.heap.objs.size _ X T pre rfl ⟨hns, hk₁, Nat.le_refl _⟩ News.nil (fun r h' tk' k p => ret r h' tk' k p)) (fun fl s' q => q) fun _ _ q => q.elim

/-- into a def with cells -/
theorem enterC {name qual : Str} {params : Arguments} {body : List Stmt} {scope : Scope} {dV kV doc pm cdv ct oc : Value} {an od : Option Addr} {osl : Array (Option Value)} {binds : List (Str × Value)}
    (ho : (Mine.hd.heap_39 w.params).lookup f = some ⟨oc, od, .func (fnOf name qual params body scope dV kV doc pm an cdv ct), osl⟩) (hcd : codeIn (Mine.hd.heap_39 w.params) cdv qual = true) (hroom : dp < recursionLimit)
    (hbind : bindArgs (fnOf name qual params body scope dV kV doc pm an cdv ct) ⟨vs, []⟩ = pure binds)
    (hkind : (binds.all fun y => scope.names.lookup y.1 == some .local || scope.names.lookup y.1 == some .cell) = true)
    (hnd : ((cellsFrom 0 scope.names []).map (·.1)).Nodup)
    (h : ∀ (fr : Option (List Env)) (gd : Option (List Code)) (s : Shared) (Q : Value → Shared → Prop) (h₀ : Heap) (L : Addr) (m : Str → Option Value) (cells : List (Addr × Obj)), (Mine.hd.heap_39 w.params).In h₀ → Top MineTop.vw (looseW MineTop.vw [Str.ofString "locale_encoding_alias"]) mean mg mb h₀ → Pre h₀ → m = bindL (envOfC qual scope L f cdv).kindOf binds (fun _ => none) →
      Fr h₀ L s.heap m → News h₀ L s.heap cells → CellsAre (bindC (envOfC qual scope L f cdv).kindOf binds fun _ => none) (cellsFrom (L + 1) scope.names []) cells →
      (∀ r h' tk', Kp h₀ h' → Post h₀ r h' → Q r { s with heap := h', toks := tk' }) →
      wpAny (model Pg w) ((Am dp un fr gd).deeper (envOfC qual scope L f cdv)) (execs body (envOfC qual scope L f cdv)) (fun fl s' => Q (match fl with | .ret v => v | _ => .none) s') (fun _ _ => False) s)
    (hco : scope.isCoroutine = false) (hgen : scope.isGenerator = false) (hk : scope.kind = .function) : Cn w mean mg mb dp un f vs Pre Post := by
  intro fr gd s Q E X T pre ret
  refine wpAny_call (codeAny_call_cells (fd := fnOf name qual params body scope dV kV doc pm an cdv ct) (body := body) (binds := binds) hroom (X _ _ ho) rfl T.nolimit (codeRec_of X hcd) rfl hbind rfl (kindsX hkind _) (fun s₁ Y => ?_) hco hgen hk)
  obtain ⟨h₁, tk, rfl, _⟩ := Y.done
  have F : Fr s.heap s.heap.objs.size h₁ (bindL (envOfC qual scope s.heap.objs.size f cdv).kindOf binds fun _ => none) := ⟨Y.toInCall.ns, Y.toInCall.keep, Y.toInCall.fresh⟩
  obtain ⟨cells, N, Z⟩ := Cl.news (h₀ := s.heap) (h := h₁) (L := s.heap.objs.size) (cm := bindC (envOfC qual scope s.heap.objs.size f cdv).kindOf binds fun _ => none) (Nat.le_refl _) (cs := cellsFrom (s.heap.objs.size + 1) scope.names []) fun n c hm => ⟨Y.cell n c (lookup_of_mem_nodup (cellsFrom_names scope.names 0 (s.heap.objs.size + 1) [] [] rfl ▸ hnd) hm), Y.above n c hm⟩
  refine wpAny_mono (h fr gd { s with heap := h₁, toks := tk } Q s.heap s.heap.objs.size _ cells X T pre rfl F N Z (fun r h' tk' k p => ret r h' tk' k p)) (fun fl s' q => q) fun _ _ q => q.elim
end
end Mine
end
section
open PySem PySem.Builtin PySem.Builtin.Str PyProof.Rows
namespace Mine
abbrev Cs := List Nat
abbrev S (l : Cs) : Str := ⟨l.toArray⟩
def rep (c : Nat) (z : Cs) (d : Nat) : Cs := if d = c then z else [d]
theorem rep_free (c : Nat) (z : Cs) : ∀ l : Cs, c ∉ l → l.flatMap (rep c z) = l
  | [], _ => rfl
  | k :: r, h => by
    have h1 : k ≠ c := fun e => h (e ▸ List.mem_cons_self ..)
    rw [List.flatMap_cons, rep_free c z r fun m => h (List.mem_cons_of_mem _ m)]
    simp [rep, h1]
theorem rep_join (c : Nat) (z : Str) : ∀ parts : List Str, (∀ p ∈ parts, c ∉ p.cps.toList) → (Str.join ⟨#[c]⟩ parts).cps.toList.flatMap (rep c z.cps.toList) = (Str.join z parts).cps.toList
  | [], _ => rfl
  | [p], h => rep_free c _ _ (h p (List.mem_singleton.mpr rfl))
  | p :: q :: r, h => by
    have ih := rep_join c z (q :: r) fun a ha => h a (List.mem_cons_of_mem _ ha)
    show (p ++ ⟨#[c]⟩ ++ Str.join ⟨#[c]⟩ (q :: r)).cps.toList.flatMap (rep c z.cps.toList) = (p ++ z ++ Str.join z (q :: r)).cps.toList
    simp only [Str.cps_append, Array.toList_append, List.flatMap_append]
    rw [ih, rep_free c _ _ (h p (List.mem_cons_self ..))]
    simp [rep]
theorem replace_rep (x z : Str) (c : Nat) : Txt.replace x ⟨#[c]⟩ z = S (x.cps.toList.flatMap (rep c z.cps.toList)) := by
  have h : (Txt.replace x ⟨#[c]⟩ z).cps.toList = x.cps.toList.flatMap (rep c z.cps.toList) := by
    rw [StrLaws.replace_one, ← rep_join c z _ (StrLaws.split_free x c), StrLaws.join_split]
  generalize Txt.replace x ⟨#[c]⟩ z = r at h
  obtain ⟨⟨l⟩⟩ := r
  exact congrArg (fun l : Cs => S l) h

/-- the tables -/
def tab : Nat → List (Nat × Cs)
  | 0 => [(38, [38, 97, 109, 112, 59]), (60, [38, 108, 116, 59]), (62, [38, 103, 116, 59])]
  | 1 => [(38, [38, 97, 109, 112, 59]), (60, [38, 108, 116, 59]), (62, [38, 103, 116, 59]), (34, [38, 113, 117, 111, 116, 59]), (13, [38, 35, 49, 51, 59]), (10, [38, 35, 49, 48, 59]), (9, [38, 35, 48, 57, 59])]
  | 2 => [(38, [38, 97, 109, 112, 59]), (62, [38, 103, 116, 59]), (34, [38, 113, 117, 111, 116, 59])]
  | 3 => [(38, [38, 97, 109, 112, 59]), (60, [38, 108, 116, 59]), (62, [38, 103, 116, 59]), (13, [38, 35, 120, 68, 59])]
  | _ => [(38, [38, 97, 109, 112, 59]), (60, [38, 108, 116, 59]), (34, [38, 113, 117, 111, 116, 59]), (9, [38, 35, 120, 57, 59]), (10, [38, 35, 120, 65, 59]), (13, [38, 35, 120, 68, 59])]
def look (l : List (Nat × Cs)) (d : Nat) : Cs := (l.lookup d).getD [d]
def spell (k : Nat) (t : Cs) : Cs := t.flatMap (look (tab k))
def escL (l : List (Nat × Cs)) (t : Cs) : Cs := l.foldl (fun t p => t.flatMap (rep p.1 p.2)) t
theorem escL_flat : ∀ (l : List (Nat × Cs)) (t : Cs), escL l t = t.flatMap fun d => escL l [d]
  | [], t => by simp [escL]
  | p :: r, t => by
    show escL r (t.flatMap (rep p.1 p.2)) = t.flatMap fun d => escL r ([d].flatMap (rep p.1 p.2))
    rw [escL_flat r, List.flatMap_assoc]
    refine congrArg (fun f => List.flatMap f t) (funext fun d => ?_)
    rw [escL_flat r ([d].flatMap (rep p.1 p.2))]
    simp
theorem esc_one (k : Nat) (hk : k < 5) (d : Nat) : escL (tab k) [d] = look (tab k) d := by
  match k, hk with
  | 0, _ | 1, _ | 2, _ | 3, _ | 4, _ =>
    by_cases h1 : d = 38
    · subst h1; decide
    by_cases h2 : d = 60
    · subst h2; decide
    by_cases h3 : d = 62
    · subst h3; decide
    by_cases h4 : d = 34
    · subst h4; decide
    by_cases h5 : d = 13
    · subst h5; decide
    by_cases h6 : d = 10
    · subst h6; decide
    by_cases h7 : d = 9
    · subst h7; decide
    simp [escL, rep, look, tab, List.lookup, h1, h2, h3, h4, h5, h6, h7]
    repeat' split
    all_goals simp_all
theorem esc_spell (k : Nat) (hk : k < 5) (t : Cs) : escL (tab k) t = spell k t := by
  rw [escL_flat]
  exact congrArg (fun f => List.flatMap f t) (funext fun d => esc_one k hk d)
/-- no replacement is longer than six signs -/
theorem flat_len (f : Nat → Cs) (n : Nat) (h : ∀ d, (f d).length ≤ n) : ∀ t : Cs, (t.flatMap f).length ≤ n * t.length
  | [] => by simp
  | d :: r => by
    have := flat_len f n h r
    have := h d
    simp only [List.flatMap_cons, List.length_append, List.length_cons]
    rw [Nat.mul_add]; omega
theorem flat_ge (f : Nat → Cs) (h : ∀ d, 1 ≤ (f d).length) : ∀ t : Cs, t.length ≤ (t.flatMap f).length
  | [] => by simp
  | d :: r => by
    have := flat_ge f h r
    have := h d
    simp only [List.flatMap_cons, List.length_append, List.length_cons]
    omega
theorem look_len (l : List (Nat × Cs)) (n : Nat) (hn : 1 ≤ n) (h : ∀ p ∈ l, p.2.length ≤ n) (d : Nat) : (look l d).length ≤ n := by
  unfold look
  induction l with
  | nil => simpa using hn
  | cons p r ih =>
    rw [List.lookup_cons]
    cases hb : d == p.1 with
    | true => simpa using h p (List.mem_cons_self ..)
    | false => exact ih fun q hq => h q (List.mem_cons_of_mem _ hq)
theorem look_ge (l : List (Nat × Cs)) (h : ∀ p ∈ l, 1 ≤ p.2.length) (d : Nat) : 1 ≤ (look l d).length := by
  unfold look
  induction l with
  | nil => simp
  | cons p r ih =>
    rw [List.lookup_cons]
    cases hb : d == p.1 with
    | true => simpa using h p (List.mem_cons_self ..)
    | false => exact ih fun q hq => h q (List.mem_cons_of_mem _ hq)
theorem tab_six (k : Nat) : ∀ p ∈ tab k, 1 ≤ p.2.length ∧ p.2.length ≤ 6 := by
  unfold tab; split <;> decide
theorem spell_len (k : Nat) (t : Cs) : (spell k t).length ≤ 6 * t.length := flat_len _ _ (look_len _ 6 (by decide) fun p hp => (tab_six k p hp).2) t
theorem spell_ge (k : Nat) (t : Cs) : t.length ≤ (spell k t).length := flat_ge _ (look_ge _ fun p hp => (tab_six k p hp).1) t
theorem spell_append (k : Nat) (t u : Cs) : spell k (t ++ u) = spell k t ++ spell k u := List.flatMap_append ..
end Mine
end
section
open PySem PySem.W PySem.Calls PyProof.Rows
set_option maxRecDepth 100000
namespace Mine
section
variable {w : World} {mean : ExcName → Option Value} {mg mb : Str → Option Value}
theorem if_replace {A : Around} {s : Shared} {Q : Flow → Shared → Prop} {E : Value → Shared → Prop} {name : Str} {scope : Scope} {L a : Addr} {cd : Value} {h₀ : Heap} {m : Str → Option Value} {news : List (Addr × Obj)} {cS zS : Str} (c : Nat) (z : Cs) {u : Cs} {tk : Tok} {k1 k2 k3 : Nat} {p1 p2 p3 p4 p5 p6 p7 p8 p9 p10 p11 : Pos}
    (F : Fr h₀ L s.heap m) (N : News h₀ L s.heap news) (hc : cS = ⟨#[c]⟩) (hz : zS = S z) (hz6 : z.length ≤ 6) (hne : (cS == zS) = false) (hm : m (Str.ofString "text") = some (.str (S u) tk)) (hu : u.length ≤ 2340000)
    (hk : scope.kind = .function) (hl : (envOf name scope L a cd).kindOf (Str.ofString "text") = some .local) 
    (he : ∃ pl : Sem Bool, eval (.Call (.Attribute (.Name (Str.ofString "text") p5) (Str.ofString "replace") p6) [.Constant (.str cS) k2 p7, .Constant (.str zS) k3 p8] [] p9) (envOf name scope L a cd) = (do
      let ov ← eval (.Name (Str.ofString "text") p5) (envOf name scope L a cd)
      standAt p6.atName
      let (f, first) ← holding [ov] (getMethod ov (Str.ofString "replace") pl)
      callWith p9 f first (backTo p9 (starEach [.Constant (.str cS) k2 p7, .Constant (.str zS) k3 p8] (envOf name scope L a cd))) []))
    (h : ∀ h' t' tk', Fr h₀ L h' (fun y => if y = Str.ofString "text" then some (.str (S (u.flatMap (rep c z))) t') else m y) → News h₀ L h' news → Q .next { s with heap := h', toks := tk' }) :
    wpAny (model Pg w) A (exec (.If (.Compare (.Constant (.str cS) k1 p1) [.In] [.Name (Str.ofString "text") p2] p3) [.Assign [.Name (Str.ofString "text") p4] (.Call (.Attribute (.Name (Str.ofString "text") p5) (Str.ofString "replace") p6) [.Constant (.str cS) k2 p7, .Constant (.str zS) k3 p8] [] p9) p10] [] p11) (envOf name scope L a cd)) Q E s := by
  subst hc; subst hz
  obtain ⟨pl, he⟩ := he
  refine wpAny_If (wpAny_isTrue_Compare1 (Calls.Constant_str (ld F hm (P.in_str (wpAny_truthy_bool ?_)) hk hl)))
  rw [StrLaws.found_one]
  by_cases hin : c ∈ u
  · have e : decide (c ∈ (S u).cps.toList) = true := decide_eq_true (by simpa using hin)
    rw [e, if_pos rfl]
    refine wpAny_execs_cons (wpAny_Assign_Name (MethodCall_ (ld F hm (GM.replace (callWith_method1 (spliced_more (Calls.Constant_str (spliced_more (Calls.Constant_str (spliced_none ?_))))))) hk hl) he))
    refine SC.replace (by simp) (by simp) (by simp) hne ?_ fun t' k => ?_
    · show (S u).cps.size + ((S u).cps.size + 1) * (S z).cps.size ≤ 16777216
      have e1 : (S u).cps.size = u.length := by simp
      have e2 : (S z).cps.size = z.length := by simp
      rw [e1, e2]
      have : (u.length + 1) * z.length ≤ (u.length + 1) * 6 := Nat.mul_le_mul_left _ hz6
      omega
    · refine stN F N (fun h' F' N' => wpAny_execs_nil (h h' t' _ ?_ N')) hk hl
      rw [replace_rep] at F'
      simpa using F'
  · have e : decide (c ∈ (S u).cps.toList) = false := decide_eq_false (by simpa using hin)
    rw [e, if_neg Bool.false_ne_true]
    refine wpAny_execs_nil (h s.heap tk _ ?_ N)
    rw [rep_free c z u hin]
    have e2 : (fun y => if y = Str.ofString "text" then some (Value.str (S u) tk) else m y) = m := by
      funext y
      by_cases hy : y = Str.ofString "text"
      · subst hy; simp [hm]
      · simp [hy]
    rw [e2]; exact F
end
end Mine
end
section
open PySem PySem.W PySem.Calls PyProof.Rows
set_option maxRecDepth 100000
namespace Mine
theorem pre_len (k : Nat) (hk : k < 5) (j : Nat) (t : Cs) : (escL ((tab k).take j) t).length ≤ 6 * t.length := by
  rw [escL_flat]
  refine flat_len _ 6 (fun d => ?_) t
  have key : ∀ l ∈ [tab 0, tab 1, tab 2, tab 3, tab 4], ∀ j ∈ List.range 8, (∀ d ∈ [38, 60, 62, 34, 13, 10, 9], (escL (l.take j) [d]).length ≤ 6) ∧ ∀ p ∈ l.take j, p.1 ∈ [38, 60, 62, 34, 13, 10, 9] := by decide
  have hj : (tab k).take j = (tab k).take (min j 7) := by
    by_cases h : j ≤ 7
    · rw [Nat.min_eq_left h]
    · have h7 : (tab k).length ≤ 7 := by unfold tab; split <;> decide
      rw [Nat.min_eq_right (by omega), List.take_of_length_le (by omega), List.take_of_length_le h7]
  rw [hj]
  have hk' : tab k ∈ [tab 0, tab 1, tab 2, tab 3, tab 4] := by
    match k, hk with
    | 0, _ | 1, _ | 2, _ | 3, _ | 4, _ => simp
  obtain ⟨h1, h2⟩ := key _ hk' (min j 7) (by simp; omega)
  by_cases hd : d ∈ [38, 60, 62, 34, 13, 10, 9]
  · exact h1 d hd
  · have : ∀ l : List (Nat × Cs), (∀ p ∈ l, p.1 ≠ d) → escL l [d] = [d] := by
      intro l
      induction l with
      | nil => intro _; rfl
      | cons p r ih =>
        intro h
        have hp : rep p.1 p.2 d = [d] := by unfold rep; rw [if_neg (fun e => h p (List.mem_cons_self ..) e.symm)]
        show escL r ([d].flatMap (rep p.1 p.2)) = [d]
        simp only [List.flatMap_cons, List.flatMap_nil, List.append_nil, hp]
        exact ih fun q hq => h q (List.mem_cons_of_mem _ hq)
    rw [this _ fun p hp e => hd (e ▸ h2 p hp)]
    simp
theorem take_snoc_len {t u : Cs} {k j : Nat} (hk : k < 5) (e : u = escL ((tab k).take j) t) (h : t.length ≤ 390000) : u.length ≤ 2340000 := by
  subst e
  have := pre_len k hk j t
  omega
section
variable {w : World} {mean : ExcName → Option Value} {mg mb : Str → Option Value}
local macro_rules | `(tactic| walk_at "exec If") => `(tactic| (k_here; (with_reducible rename Fr _ _ _ _ => F'); (with_reducible rename News _ _ _ _ => N'); k_dflt (refine if_replace 38 [38, 97, 109, 112, 59] F' N' (by decide) (by decide) (by decide) (by decide) (by rfl) (take_snoc_len (k := 0) (j := 0) (by decide) rfl (by assumption)) (by rfl) (by rfl) ⟨_, rfl⟩ ?_); intro h' t' tk' F' N'))
local macro_rules | `(tactic| walk_at "exec If") => `(tactic| (k_here; (with_reducible rename Fr _ _ _ _ => F'); (with_reducible rename News _ _ _ _ => N'); k_dflt (refine if_replace 60 [38, 108, 116, 59] F' N' (by decide) (by decide) (by decide) (by decide) (by rfl) (take_snoc_len (k := 0) (j := 1) (by decide) rfl (by assumption)) (by rfl) (by rfl) ⟨_, rfl⟩ ?_); intro h' t' tk' F' N'))
local macro_rules | `(tactic| walk_at "exec If") => `(tactic| (k_here; (with_reducible rename Fr _ _ _ _ => F'); (with_reducible rename News _ _ _ _ => N'); k_dflt (refine if_replace 62 [38, 103, 116, 59] F' N' (by decide) (by decide) (by decide) (by decide) (by rfl) (take_snoc_len (k := 0) (j := 2) (by decide) rfl (by assumption)) (by rfl) (by rfl) ⟨_, rfl⟩ ?_); intro h' t' tk' F' N'))
set_option maxHeartbeats 4000000 in
theorem cdata_ok (x : Cs) (t : Tok) : Cn w mean mg mb 304 13 246 [.str (S x) t] (fun _ => x.length ≤ 390000) (fun _ r _ => ∃ t', r = .str (S (spell 0 x)) t') := by
  refine enter (binds := [(Str.ofString "text", .str (S x) t)]) (by k_is) (by k_is) (by decide) rfl (locs rfl) ?_ rfl rfl rfl (by decide)
  intro fr gd s Q h₀ L m X T pre hm F N ret
  subst hm
  k_fold
  k_steps
  dsimp only [qk]
  refine ret _ _ _ (Fr.keep (by assumption)) ?_
  rw [← esc_spell 0 (by decide)]
  exact ⟨_, rfl⟩
end
section
variable {w : World} {mean : ExcName → Option Value} {mg mb : Str → Option Value}
local macro_rules | `(tactic| walk_at "exec If") => `(tactic| (k_here; (with_reducible rename Fr _ _ _ _ => F'); (with_reducible rename News _ _ _ _ => N'); k_dflt (refine if_replace 38 [38, 97, 109, 112, 59] F' N' (by decide) (by decide) (by decide) (by decide) (by rfl) (take_snoc_len (k := 1) (j := 0) (by decide) rfl (by assumption)) (by rfl) (by rfl) ⟨_, rfl⟩ ?_); intro h' t' tk' F' N'))
local macro_rules | `(tactic| walk_at "exec If") => `(tactic| (k_here; (with_reducible rename Fr _ _ _ _ => F'); (with_reducible rename News _ _ _ _ => N'); k_dflt (refine if_replace 60 [38, 108, 116, 59] F' N' (by decide) (by decide) (by decide) (by decide) (by rfl) (take_snoc_len (k := 1) (j := 1) (by decide) rfl (by assumption)) (by rfl) (by rfl) ⟨_, rfl⟩ ?_); intro h' t' tk' F' N'))
local macro_rules | `(tactic| walk_at "exec If") => `(tactic| (k_here; (with_reducible rename Fr _ _ _ _ => F'); (with_reducible rename News _ _ _ _ => N'); k_dflt (refine if_replace 62 [38, 103, 116, 59] F' N' (by decide) (by decide) (by decide) (by decide) (by rfl) (take_snoc_len (k := 1) (j := 2) (by decide) rfl (by assumption)) (by rfl) (by rfl) ⟨_, rfl⟩ ?_); intro h' t' tk' F' N'))
local macro_rules | `(tactic| walk_at "exec If") => `(tactic| (k_here; (with_reducible rename Fr _ _ _ _ => F'); (with_reducible rename News _ _ _ _ => N'); k_dflt (refine if_replace 34 [38, 113, 117, 111, 116, 59] F' N' (by decide) (by decide) (by decide) (by decide) (by rfl) (take_snoc_len (k := 1) (j := 3) (by decide) rfl (by assumption)) (by rfl) (by rfl) ⟨_, rfl⟩ ?_); intro h' t' tk' F' N'))
local macro_rules | `(tactic| walk_at "exec If") => `(tactic| (k_here; (with_reducible rename Fr _ _ _ _ => F'); (with_reducible rename News _ _ _ _ => N'); k_dflt (refine if_replace 13 [38, 35, 49, 51, 59] F' N' (by decide) (by decide) (by decide) (by decide) (by rfl) (take_snoc_len (k := 1) (j := 4) (by decide) rfl (by assumption)) (by rfl) (by rfl) ⟨_, rfl⟩ ?_); intro h' t' tk' F' N'))
local macro_rules | `(tactic| walk_at "exec If") => `(tactic| (k_here; (with_reducible rename Fr _ _ _ _ => F'); (with_reducible rename News _ _ _ _ => N'); k_dflt (refine if_replace 10 [38, 35, 49, 48, 59] F' N' (by decide) (by decide) (by decide) (by decide) (by rfl) (take_snoc_len (k := 1) (j := 5) (by decide) rfl (by assumption)) (by rfl) (by rfl) ⟨_, rfl⟩ ?_); intro h' t' tk' F' N'))
local macro_rules | `(tactic| walk_at "exec If") => `(tactic| (k_here; (with_reducible rename Fr _ _ _ _ => F'); (with_reducible rename News _ _ _ _ => N'); k_dflt (refine if_replace 9 [38, 35, 48, 57, 59] F' N' (by decide) (by decide) (by decide) (by decide) (by rfl) (take_snoc_len (k := 1) (j := 6) (by decide) rfl (by assumption)) (by rfl) (by rfl) ⟨_, rfl⟩ ?_); intro h' t' tk' F' N'))
set_option maxHeartbeats 4000000 in
theorem attrib_ok (x : Cs) (t : Tok) : Cn w mean mg mb 304 13 253 [.str (S x) t] (fun _ => x.length ≤ 390000) (fun _ r _ => ∃ t', r = .str (S (spell 1 x)) t') := by
  refine enter (binds := [(Str.ofString "text", .str (S x) t)]) (by k_is) (by k_is) (by decide) rfl (locs rfl) ?_ rfl rfl rfl (by decide)
  intro fr gd s Q h₀ L m X T pre hm F N ret
  subst hm
  k_fold
  k_steps
  dsimp only [qk]
  refine ret _ _ _ (Fr.keep (by assumption)) ?_
  rw [← esc_spell 1 (by decide)]
  exact ⟨_, rfl⟩
end
section
variable {w : World} {mean : ExcName → Option Value} {mg mb : Str → Option Value}
local macro_rules | `(tactic| walk_at "exec If") => `(tactic| (k_here; (with_reducible rename Fr _ _ _ _ => F'); (with_reducible rename News _ _ _ _ => N'); k_dflt (refine if_replace 38 [38, 97, 109, 112, 59] F' N' (by decide) (by decide) (by decide) (by decide) (by rfl) (take_snoc_len (k := 2) (j := 0) (by decide) rfl (by assumption)) (by rfl) (by rfl) ⟨_, rfl⟩ ?_); intro h' t' tk' F' N'))
local macro_rules | `(tactic| walk_at "exec If") => `(tactic| (k_here; (with_reducible rename Fr _ _ _ _ => F'); (with_reducible rename News _ _ _ _ => N'); k_dflt (refine if_replace 62 [38, 103, 116, 59] F' N' (by decide) (by decide) (by decide) (by decide) (by rfl) (take_snoc_len (k := 2) (j := 1) (by decide) rfl (by assumption)) (by rfl) (by rfl) ⟨_, rfl⟩ ?_); intro h' t' tk' F' N'))
local macro_rules | `(tactic| walk_at "exec If") => `(tactic| (k_here; (with_reducible rename Fr _ _ _ _ => F'); (with_reducible rename News _ _ _ _ => N'); k_dflt (refine if_replace 34 [38, 113, 117, 111, 116, 59] F' N' (by decide) (by decide) (by decide) (by decide) (by rfl) (take_snoc_len (k := 2) (j := 2) (by decide) rfl (by assumption)) (by rfl) (by rfl) ⟨_, rfl⟩ ?_); intro h' t' tk' F' N'))
set_option maxHeartbeats 4000000 in
theorem html_ok (x : Cs) (t : Tok) : Cn w mean mg mb 304 13 260 [.str (S x) t] (fun _ => x.length ≤ 390000) (fun _ r _ => ∃ t', r = .str (S (spell 2 x)) t') := by
  refine enter (binds := [(Str.ofString "text", .str (S x) t)]) (by k_is) (by k_is) (by decide) rfl (locs rfl) ?_ rfl rfl rfl (by decide)
  intro fr gd s Q h₀ L m X T pre hm F N ret
  subst hm
  k_fold
  k_steps
  dsimp only [qk]
  refine ret _ _ _ (Fr.keep (by assumption)) ?_
  rw [← esc_spell 2 (by decide)]
  exact ⟨_, rfl⟩
end
section
variable {w : World} {mean : ExcName → Option Value} {mg mb : Str → Option Value}
local macro_rules | `(tactic| walk_at "exec If") => `(tactic| (k_here; (with_reducible rename Fr _ _ _ _ => F'); (with_reducible rename News _ _ _ _ => N'); k_dflt (refine if_replace 38 [38, 97, 109, 112, 59] F' N' (by decide) (by decide) (by decide) (by decide) (by rfl) (take_snoc_len (k := 3) (j := 0) (by decide) rfl (by assumption)) (by rfl) (by rfl) ⟨_, rfl⟩ ?_); intro h' t' tk' F' N'))
local macro_rules | `(tactic| walk_at "exec If") => `(tactic| (k_here; (with_reducible rename Fr _ _ _ _ => F'); (with_reducible rename News _ _ _ _ => N'); k_dflt (refine if_replace 60 [38, 108, 116, 59] F' N' (by decide) (by decide) (by decide) (by decide) (by rfl) (take_snoc_len (k := 3) (j := 1) (by decide) rfl (by assumption)) (by rfl) (by rfl) ⟨_, rfl⟩ ?_); intro h' t' tk' F' N'))
local macro_rules | `(tactic| walk_at "exec If") => `(tactic| (k_here; (with_reducible rename Fr _ _ _ _ => F'); (with_reducible rename News _ _ _ _ => N'); k_dflt (refine if_replace 62 [38, 103, 116, 59] F' N' (by decide) (by decide) (by decide) (by decide) (by rfl) (take_snoc_len (k := 3) (j := 2) (by decide) rfl (by assumption)) (by rfl) (by rfl) ⟨_, rfl⟩ ?_); intro h' t' tk' F' N'))
local macro_rules | `(tactic| walk_at "exec If") => `(tactic| (k_here; (with_reducible rename Fr _ _ _ _ => F'); (with_reducible rename News _ _ _ _ => N'); k_dflt (refine if_replace 13 [38, 35, 120, 68, 59] F' N' (by decide) (by decide) (by decide) (by decide) (by rfl) (take_snoc_len (k := 3) (j := 3) (by decide) rfl (by assumption)) (by rfl) (by rfl) ⟨_, rfl⟩ ?_); intro h' t' tk' F' N'))
set_option maxHeartbeats 4000000 in
theorem cdatac_ok (x : Cs) (t : Tok) : Cn w mean mg mb 304 13 267 [.str (S x) t] (fun _ => x.length ≤ 390000) (fun _ r _ => ∃ t', r = .str (S (spell 3 x)) t') := by
  refine enter (binds := [(Str.ofString "text", .str (S x) t)]) (by k_is) (by k_is) (by decide) rfl (locs rfl) ?_ rfl rfl rfl (by decide)
  intro fr gd s Q h₀ L m X T pre hm F N ret
  subst hm
  k_fold
  k_steps
  dsimp only [qk]
  refine ret _ _ _ (Fr.keep (by assumption)) ?_
  rw [← esc_spell 3 (by decide)]
  exact ⟨_, rfl⟩
end
section
variable {w : World} {mean : ExcName → Option Value} {mg mb : Str → Option Value}
local macro_rules | `(tactic| walk_at "exec If") => `(tactic| (k_here; (with_reducible rename Fr _ _ _ _ => F'); (with_reducible rename News _ _ _ _ => N'); k_dflt (refine if_replace 38 [38, 97, 109, 112, 59] F' N' (by decide) (by decide) (by decide) (by decide) (by rfl) (take_snoc_len (k := 4) (j := 0) (by decide) rfl (by assumption)) (by rfl) (by rfl) ⟨_, rfl⟩ ?_); intro h' t' tk' F' N'))
local macro_rules | `(tactic| walk_at "exec If") => `(tactic| (k_here; (with_reducible rename Fr _ _ _ _ => F'); (with_reducible rename News _ _ _ _ => N'); k_dflt (refine if_replace 60 [38, 108, 116, 59] F' N' (by decide) (by decide) (by decide) (by decide) (by rfl) (take_snoc_len (k := 4) (j := 1) (by decide) rfl (by assumption)) (by rfl) (by rfl) ⟨_, rfl⟩ ?_); intro h' t' tk' F' N'))
local macro_rules | `(tactic| walk_at "exec If") => `(tactic| (k_here; (with_reducible rename Fr _ _ _ _ => F'); (with_reducible rename News _ _ _ _ => N'); k_dflt (refine if_replace 34 [38, 113, 117, 111, 116, 59] F' N' (by decide) (by decide) (by decide) (by decide) (by rfl) (take_snoc_len (k := 4) (j := 2) (by decide) rfl (by assumption)) (by rfl) (by rfl) ⟨_, rfl⟩ ?_); intro h' t' tk' F' N'))
local macro_rules | `(tactic| walk_at "exec If") => `(tactic| (k_here; (with_reducible rename Fr _ _ _ _ => F'); (with_reducible rename News _ _ _ _ => N'); k_dflt (refine if_replace 9 [38, 35, 120, 57, 59] F' N' (by decide) (by decide) (by decide) (by decide) (by rfl) (take_snoc_len (k := 4) (j := 3) (by decide) rfl (by assumption)) (by rfl) (by rfl) ⟨_, rfl⟩ ?_); intro h' t' tk' F' N'))
local macro_rules | `(tactic| walk_at "exec If") => `(tactic| (k_here; (with_reducible rename Fr _ _ _ _ => F'); (with_reducible rename News _ _ _ _ => N'); k_dflt (refine if_replace 10 [38, 35, 120, 65, 59] F' N' (by decide) (by decide) (by decide) (by decide) (by rfl) (take_snoc_len (k := 4) (j := 4) (by decide) rfl (by assumption)) (by rfl) (by rfl) ⟨_, rfl⟩ ?_); intro h' t' tk' F' N'))
local macro_rules | `(tactic| walk_at "exec If") => `(tactic| (k_here; (with_reducible rename Fr _ _ _ _ => F'); (with_reducible rename News _ _ _ _ => N'); k_dflt (refine if_replace 13 [38, 35, 120, 68, 59] F' N' (by decide) (by decide) (by decide) (by decide) (by rfl) (take_snoc_len (k := 4) (j := 5) (by decide) rfl (by assumption)) (by rfl) (by rfl) ⟨_, rfl⟩ ?_); intro h' t' tk' F' N'))
set_option maxHeartbeats 4000000 in
theorem attribc_ok (x : Cs) (t : Tok) : Cn w mean mg mb 304 13 274 [.str (S x) t] (fun _ => x.length ≤ 390000) (fun _ r _ => ∃ t', r = .str (S (spell 4 x)) t') := by
  refine enter (binds := [(Str.ofString "text", .str (S x) t)]) (by k_is) (by k_is) (by decide) rfl (locs rfl) ?_ rfl rfl rfl (by decide)
  intro fr gd s Q h₀ L m X T pre hm F N ret
  subst hm
  k_fold
  k_steps
  dsimp only [qk]
  refine ret _ _ _ (Fr.keep (by assumption)) ?_
  rw [← esc_spell 4 (by decide)]
  exact ⟨_, rfl⟩
end
end Mine
end
section
open PySem PySem.W PySem.Calls PyProof.Rows
set_option maxRecDepth 100000
namespace Mine
section
variable {w : World} {mean : ExcName → Option Value} {mg mb : Str → Option Value}
local macro_rules | `(tactic| walk_at "call ref") => `(tactic| (k_here; (with_reducible show wpAny _ _ (call (Value.ref 246) _) _ _ _); (with_reducible rename Fr _ _ _ _ => F'); (with_reducible rename News _ _ _ _ => N'); k_dflt (refine use (cdata_ok _ _) F' (by assumption) N' (by assumption) (by assumption) ⟨_, _, rfl⟩ ?_); intro r' h' tk' F' N' kp' hp'; obtain ⟨t', hp'⟩ := hp'; subst hp'))
local macro_rules | `(tactic| walk_at "call ref") => `(tactic| (k_here; (with_reducible show wpAny _ _ (call (Value.ref 253) _) _ _ _); (with_reducible rename Fr _ _ _ _ => F'); (with_reducible rename News _ _ _ _ => N'); k_dflt (refine use (attrib_ok _ _) F' (by assumption) N' (by assumption) (by assumption) ⟨_, _, rfl⟩ ?_); intro r' h' tk' F' N' kp' hp'; obtain ⟨t', hp'⟩ := hp'; subst hp'))
local macro_rules | `(tactic| walk_at "call ref") => `(tactic| (k_here; (with_reducible show wpAny _ _ (call (Value.ref 260) _) _ _ _); (with_reducible rename Fr _ _ _ _ => F'); (with_reducible rename News _ _ _ _ => N'); k_dflt (refine use (html_ok _ _) F' (by assumption) N' (by assumption) (by assumption) ⟨_, _, rfl⟩ ?_); intro r' h' tk' F' N' kp' hp'; obtain ⟨t', hp'⟩ := hp'; subst hp'))
local macro_rules | `(tactic| walk_at "call ref") => `(tactic| (k_here; (with_reducible show wpAny _ _ (call (Value.ref 267) _) _ _ _); (with_reducible rename Fr _ _ _ _ => F'); (with_reducible rename News _ _ _ _ => N'); k_dflt (refine use (cdatac_ok _ _) F' (by assumption) N' (by assumption) (by assumption) ⟨_, _, rfl⟩ ?_); intro r' h' tk' F' N' kp' hp'; obtain ⟨t', hp'⟩ := hp'; subst hp'))
local macro_rules | `(tactic| walk_at "call ref") => `(tactic| (k_here; (with_reducible show wpAny _ _ (call (Value.ref 274) _) _ _ _); (with_reducible rename Fr _ _ _ _ => F'); (with_reducible rename News _ _ _ _ => N'); k_dflt (refine use (attribc_ok _ _) F' (by assumption) N' (by assumption) (by assumption) ⟨_, _, rfl⟩ ?_); intro r' h' tk' F' N' kp' hp'; obtain ⟨t', hp'⟩ := hp'; subst hp'))
set_option maxHeartbeats 1000000 in
theorem escape_ok (x : Cs) (t : Tok) (k : Nat) (u : Tok) (hk : k < 5) : Cn w mean mg mb 303 10 286 [.str (S x) t, .int k u] (fun _ => x.length ≤ 390000) (fun _ r _ => ∃ t', r = .str (S (spell k x)) t') := by
  have h5 : k = 0 ∨ k = 1 ∨ k = 2 ∨ k = 3 ∨ k = 4 := by omega
  rcases h5 with rfl | rfl | rfl | rfl | rfl
  all_goals (
    refine enter (binds := [(Str.ofString "text", .str (S x) t), (Str.ofString "which", .int _ u)]) (by k_is) (by k_is) (by decide) rfl (locs rfl) ?_ rfl rfl rfl (by decide)
    intro fr gd s Q h₀ L m X T pre hm F N ret
    subst hm
    k_fold
    k_steps
    exact ret _ _ _ (Fr.keep (by assumption)) ⟨_, rfl⟩)
end
end Mine
end
section
open PySem PySem.W PySem.Calls PyProof.Rows
set_option maxRecDepth 100000
namespace Mine
/-- the encodings and the modifiers -/
def encO : Nat → Option Cs
  | 0 => some [73, 83, 79, 56, 56, 53, 57, 45, 49, 53]
  | 1 => some [85, 84, 70, 45, 56]
  | 2 => some [97, 38, 98]
  | 3 => some [60, 34]
  | 4 => some []
  | _ => none
def modO : Nat → Cs
  | 0 => [108, 97, 116, 105, 110]
  | 1 => [60, 38]
  | 2 => [62, 34]
  | 3 => [13]
  | 4 => []
  | _ => [69, 85, 82, 79]
def d5 (x : Int) : Nat := (x.fmod 5).toNat
def j6 (x : Int) : Nat := ((x.fdiv 5).fmod 6).toNat
def j5 (x : Int) : Nat := ((x.fdiv 5).fmod 5).toNat
def EncR (o : Option Cs) (r : Value) : Prop := match o with | some e => ∃ t', r = .str (S e) t' | none => r = .none
section
variable {w : World} {mean : ExcName → Option Value} {mg mb : Str → Option Value}
set_option maxHeartbeats 1000000 in
theorem encoding_ok (x : Int) (t : Tok) (h0 : 0 ≤ x) (h1 : x < 150) : Cn w mean mg mb 303 10 293 [.int x t] (fun _ => True) (fun _ r _ => EncR (encO (j6 x)) r) := by
  refine enter (binds := [(Str.ofString "x", .int x t)]) (by k_is) (by k_is) (by decide) rfl (locs rfl) ?_ rfl rfl rfl (by decide)
  intro fr gd s Q h₀ L m X T pre hm F N ret
  subst hm
  k_fold
  k_steps
  all_goals (
    (rename (Int.fmod (Int.fdiv x 5) 6 = _) => hE)
    refine ret _ _ _ (Fr.keep (by assumption)) ?_
    unfold j6
    rw [hE]
    first | exact ⟨_, rfl⟩ | exact rfl)
set_option maxHeartbeats 1000000 in
theorem modifier_ok (x : Int) (t : Tok) (h0 : 0 ≤ x) (h1 : x < 150) : Cn w mean mg mb 303 10 300 [.int x t] (fun _ => True) (fun _ r _ => ∃ t', r = .str (S (modO (j6 x))) t') := by
  refine enter (binds := [(Str.ofString "x", .int x t)]) (by k_is) (by k_is) (by decide) rfl (locs rfl) ?_ rfl rfl rfl (by decide)
  intro fr gd s Q h₀ L m X T pre hm F N ret
  subst hm
  k_fold
  k_steps
  all_goals (
    (rename (Int.fmod (Int.fdiv x 5) 6 = _) => hE)
    refine ret _ _ _ (Fr.keep (by assumption)) ?_
    unfold j6
    rw [hE]
    first | exact ⟨_, rfl⟩ | exact rfl)
end
end Mine
end
section
open PySem PySem.W PySem.Calls PyProof.Rows
set_option maxRecDepth 100000
namespace Mine
theorem len_S (l : Cs) : (S l).length = l.length := by show l.toArray.size = _; simp
theorem lit_dot : Str.ofString "." = S [46] := by decide
theorem lit_at : Str.ofString "@" = S [64] := by decide
theorem lit_iso : Str.ofString ".ISO8859-15" = S [46, 73, 83, 79, 56, 56, 53, 57, 45, 49, 53] := by decide
theorem app_S (x y : Cs) : S x ++ S y = S (x ++ y) := Str.ext' (by rw [Str.cps_append]; simp)
section
variable {w : World} {mean : ExcName → Option Value} {mg mb : Str → Option Value}
local macro_rules | `(tactic| walk_at "binaryOp Add str str") => `(tactic| (k_here; k_dflt (refine add_str (hsz := ?hsz) ?_; (case hsz => (simp only [lit_dot, lit_at, lit_iso, app_S, len_S, PySem.sizeLine_eq, List.length_append, List.length_cons, List.length_nil]; omega))); intro t' tk'))
set_option maxHeartbeats 1000000 in
theorem build_ok (a : Addr) (n : Cs) (t : Tok) (e : Cs) (t2 : Tok) : Cn w mean mg mb 303 10 42 [.ref a] (fun h => h.IsList a [.str (S n) t, .str (S e) t2].toArray ∧ n.length + e.length + 1 ≤ 16777216) (fun _ r _ => ∃ t', r = .str (S (n ++ 46 :: e)) t') := by
  refine enter (binds := [(Str.ofString "localetuple", .ref a)]) (by k_is) (by k_is) (by decide) rfl (locs rfl) ?_ rfl rfl rfl (by decide)
  intro fr gd s Q h₀ L m X T pre hm F N ret
  subst hm
  k_fold
  obtain ⟨hl, hlen⟩ := pre
  have hl' : s.heap.IsList a [.str (S n) t, .str (S e) t2].toArray := hl.at fun o e => F.keep a o e
  k_steps
  refine ret _ _ _ (Fr.keep (by assumption)) ?_
  rw [lit_dot, app_S, app_S, List.append_assoc]
  exact ⟨_, rfl⟩
set_option maxHeartbeats 1000000 in
theorem build_none (a : Addr) (n : Cs) (t : Tok) : Cn w mean mg mb 303 10 42 [.ref a] (fun h => h.IsList a [.str (S n) t, .none].toArray) (fun _ r _ => ∃ t', r = .str (S n) t') := by
  refine enter (binds := [(Str.ofString "localetuple", .ref a)]) (by k_is) (by k_is) (by decide) rfl (locs rfl) ?_ rfl rfl rfl (by decide)
  intro fr gd s Q h₀ L m X T pre hm F N ret
  subst hm
  k_fold
  have hl' : s.heap.IsList a [.str (S n) t, .none].toArray := pre.at fun o e => F.keep a o e
  k_steps
  exact ret _ _ _ (Fr.keep (by assumption)) ⟨_, rfl⟩
set_option maxHeartbeats 1000000 in
theorem build_start (a : Addr) (n : Cs) (t : Tok) : Cn w mean mg mb 303 10 42 [.ref a] (fun h => IsTup h a [.str (S n) t, .none].toArray) (fun _ r _ => ∃ t', r = .str (S n) t') := by
  refine enter (binds := [(Str.ofString "localetuple", .ref a)]) (by k_is) (by k_is) (by decide) rfl (locs rfl) ?_ rfl rfl rfl (by decide)
  intro fr gd s Q h₀ L m X T pre hm F N ret
  subst hm
  k_fold
  have hl' : IsTup s.heap a [.str (S n) t, .none].toArray := pre.keeps F.keep
  k_steps
  exact ret _ _ _ (Fr.keep (by assumption)) ⟨_, rfl⟩
set_option maxHeartbeats 1000000 in
theorem build_C (a : Addr) : Cn w mean mg mb 303 10 42 [.ref a] (fun h => IsTup h a [.none, .none].toArray) (fun _ r _ => ∃ t', r = .str (S [67]) t') := by
  refine enter (binds := [(Str.ofString "localetuple", .ref a)]) (by k_is) (by k_is) (by decide) rfl (locs rfl) ?_ rfl rfl rfl (by decide)
  intro fr gd s Q h₀ L m X T pre hm F N ret
  subst hm
  k_fold
  have hl' : IsTup s.heap a [.none, .none].toArray := pre.keeps F.keep
  k_steps
  exact ret _ _ _ (Fr.keep (by assumption)) ⟨_, rfl⟩
end
end Mine
end
section
open PySem PySem.W PySem.Calls PyProof.Rows
set_option maxRecDepth 100000
namespace Mine
def iso15 : Cs := [73, 83, 79, 56, 56, 53, 57, 45, 49, 53]
def iso1 : Cs := [73, 83, 79, 56, 56, 53, 57, 45, 49]
def utf8 : Cs := [85, 84, 70, 45, 56]
def eur : Cs := [101, 117, 114, 111]
def tailD (n : Cs) : Cs := (n.dropWhile (· != 46)).drop 1
def euroC (n : Cs) : Cs := if 46 ∈ n then (if tailD n = iso15 ∨ tailD n = utf8 then n else n ++ 64 :: eur) else n ++ 46 :: iso15
theorem lit_euro : Str.ofString "euro" = S eur := by decide
theorem lit_i15 : Str.ofString "ISO8859-15" = S iso15 := by decide
theorem lit_i1 : Str.ofString "ISO8859-1" = S iso1 := by decide
theorem lit_u8 : Str.ofString "UTF-8" = S utf8 := by decide
theorem S_inj {x y : Cs} (h : S x = S y) : x = y := by
  have := congrArg (fun s : Str => s.cps.toList) h
  simpa using this
theorem S_beq {x y : Cs} : (S x == S y) = decide (x = y) := by
  by_cases h : x = y
  · subst h; simp
  · rw [decide_eq_false h]
    exact beq_eq_false_iff_ne.mpr fun e => h (S_inj e)
theorem occ_dot {n : Cs} {b : Bool} (h : (Builtin.Str.occurrences (S n) (Str.ofString ".") 0 (S n).length 1).isEmpty = b) : 46 ∈ n ↔ b = false := by
  have := StrLaws.found_one (S n) 46
  rw [lit_dot] at h
  rw [show (S [46]) = (⟨#[46]⟩ : Str) from rfl] at h
  rw [h] at this
  cases b <;> simp at this ⊢ <;> simpa using this
theorem part3 {n : Cs} (h : 46 ∈ n) : (Txt.partition (S n) (Str.ofString ".")).2.2 = S (tailD n) := by
  have h1 : (Builtin.Str.occurrences (S n) (Str.ofString ".") 0 (S n).length 1).isEmpty = false := by
    cases hb : (Builtin.Str.occurrences (S n) (Str.ofString ".") 0 (S n).length 1).isEmpty with
    | false => rfl
    | true => have := (occ_dot hb).mp h; cases this
  have h2 := from_first_some (x := S n) (y := Str.ofString ".") (z := Str.ofString ".") (c := 46) lit_dot lit_dot h1
  have h3 := congrArg (fun s : Str => s.cps.toList) (eq_of_beq h2)
  simp only [Str.cps_append, Array.toList_append] at h3
  generalize (Txt.partition (S n) (Str.ofString ".")).2.2 = r at h3
  obtain ⟨⟨l⟩⟩ := r
  have h4 : 46 :: l = n.dropWhile (· != 46) := by simpa [lit_dot] using h3
  unfold tailD
  rw [← h4]
  rfl
theorem occ_euro (n : Cs) (h : (Builtin.Str.occurrences (S n) (Str.ofString ".") 0 (S n).length 1).isEmpty = true) : euroC n = n ++ 46 :: iso15 := by
  unfold euroC
  rw [if_neg fun m => by have := (occ_dot h).mp m; cases this]
theorem any_two {x : Cs} {b : Bool} (h : ([Str.ofString "ISO8859-15", Str.ofString "UTF-8"].any fun y => y == S x) = b) : (x = iso15 ∨ x = utf8) ↔ b = true := by
  rw [lit_i15, lit_u8] at h
  simp only [List.any_cons, List.any_nil, S_beq, Bool.or_false] at h
  subst h
  simp only [Bool.or_eq_true, decide_eq_true_eq]
  exact ⟨fun q => q.imp Eq.symm Eq.symm, fun q => q.imp Eq.symm Eq.symm⟩
section
variable {w : World} {mean : ExcName → Option Value} {mg mb : Str → Option Value}
local macro_rules | `(tactic| walk_at "pad E5 0") => `(tactic| skip)
local macro_rules | `(tactic| walk_at "binaryOp Add str str") => `(tactic| (k_here; k_dflt (refine add_str (hsz := ?hsz) ?_; (case hsz => (simp only [lit_dot, lit_at, lit_iso, lit_euro, eur, app_S, len_S, PySem.sizeLine_eq, List.length_append, List.length_cons, List.length_nil]; omega))); intro t' tk'))
set_option maxHeartbeats 1000000 in
theorem euro_ok (n : Cs) (t : Tok) (t2 : Tok) : Cn w mean mg mb 303 10 35 [.str (S n) t, .str (Str.ofString "euro") t2] (fun _ => n.length ≤ 3000000 ∧ (46 ∈ n → tailD n ≠ iso1)) (fun _ r _ => ∃ t', r = .str (S (euroC n)) t') := by
  refine enter (binds := [(Str.ofString "code", .str (S n) t), (Str.ofString "modifier", .str (Str.ofString "euro") t2)]) (by k_is) (by k_is) (by decide) rfl (locs rfl) ?_ rfl rfl rfl (by decide)
  intro fr gd s Q h₀ L m X T pre hm F N ret
  subst hm
  k_fold
  obtain ⟨hlen, hwall⟩ := pre
  k_steps
  all_goals (try dsimp only)
  · refine ret _ _ _ (Fr.keep (by assumption)) ?_
    rw [occ_euro n (by assumption), lit_iso, app_S]
    exact ⟨_, rfl⟩
  · (rename ((Builtin.Str.occurrences _ _ _ _ _).isEmpty = false) => hO)
    (rename (List.any _ _ = true) => hA)
    have hin := (occ_dot hO).mpr rfl
    rw [part3 hin] at hA
    refine ret _ _ _ (Fr.keep (by assumption)) ?_
    unfold euroC
    rw [if_pos hin, if_pos ((any_two hA).mpr rfl)]
    exact ⟨_, rfl⟩
  · exfalso
    (rename ((Builtin.Str.occurrences _ _ _ _ _).isEmpty = false) => hO)
    (rename ((_ == Str.ofString "ISO8859-1") = true) => hW)
    have hin := (occ_dot hO).mpr rfl
    rw [part3 hin, lit_i1, S_beq] at hW
    exact hwall hin (of_decide_eq_true hW)
  · (rename ((Builtin.Str.occurrences _ _ _ _ _).isEmpty = false) => hO)
    (rename (List.any _ _ = false) => hA)
    have hin := (occ_dot hO).mpr rfl
    rw [part3 hin] at hA
    refine ret _ _ _ (Fr.keep (by assumption)) ?_
    unfold euroC
    rw [if_pos hin, if_neg (fun q => by have := (any_two hA).mp q; cases this), lit_at, lit_euro, app_S, app_S, List.append_assoc]
    exact ⟨_, rfl⟩
local macro_rules | `(tactic| walk_at "ite") => `(tactic| (k_here; (rename ((S _ == Str.ofString "euro") = false) => hE'); refine ite_neg (by rw [hE']; exact Bool.false_ne_true) ?_))
set_option maxHeartbeats 1000000 in
theorem append_ok (n : Cs) (t : Tok) (e : Cs) (t2 : Tok) (he : e ≠ eur) : Cn w mean mg mb 303 10 35 [.str (S n) t, .str (S e) t2] (fun _ => n.length + e.length + 1 ≤ 16777216) (fun _ r _ => ∃ t', r = .str (S (n ++ 64 :: e)) t') := by
  refine enter (binds := [(Str.ofString "code", .str (S n) t), (Str.ofString "modifier", .str (S e) t2)]) (by k_is) (by k_is) (by decide) rfl (locs rfl) ?_ rfl rfl rfl (by decide)
  intro fr gd s Q h₀ L m X T pre hm F N ret
  subst hm
  k_fold
  have hE : (S e == Str.ofString "euro") = false := by rw [lit_euro, S_beq, decide_eq_false he]
  k_steps
  refine ret _ _ _ (Fr.keep (by assumption)) ?_
  rw [lit_at, app_S, app_S, List.append_assoc]
  exact ⟨_, rfl⟩
end
end Mine
end
section
open PySem PySem.W PySem.Calls PyProof.Rows
namespace Mine
/-- the layers laid on a text -/
def lay (ks : List Nat) (t : Cs) : Cs := ks.foldl (fun t k => spell k t) t
def writ (ps : List (Cs × Nat)) (ls : List Nat) : Cs := ps.flatMap fun p => lay (ls.drop p.2) p.1
def dots (p : Cs × Nat) : Bool := p.1.head? == some 46
def euroP (ps : List (Cs × Nat)) : Cs :=
  if ps.all (fun p => !dots p) then 46 :: iso15
  else if (ps.dropLast.all fun p => !dots p) = true ∧ ∃ p, ps.getLast? = some p ∧ (p.1 = 46 :: iso15 ∨ p.1 = 46 :: utf8) then []
  else 64 :: eur
def encP (o : Option Cs) : Cs := match o with | some e => 46 :: e | none => []
def pieceOf (ps : List (Cs × Nat)) (x : Int) : Cs :=
  if x.fmod 5 = 0 then encP (encO (j6 x)) else if x.fmod 5 = 1 then 64 :: modO (j6 x) else if x.fmod 5 = 2 then euroP ps else []
def stepL (ls : List Nat) (x : Int) : List Nat := if 2 < x.fmod 5 then ls ++ [j5 x] else ls
def stepP (ps : List (Cs × Nat)) (ls : List Nat) (x : Int) : List (Cs × Nat) :=
  if pieceOf ps x = [] then ps else ps ++ [(pieceOf ps x, (stepL ls x).length)]
def stepT (n : Cs) (x : Int) : Cs :=
  if x.fmod 5 = 0 then n ++ encP (encO (j6 x)) else if x.fmod 5 = 1 then n ++ 64 :: modO (j6 x) else if x.fmod 5 = 2 then euroC n else spell (j5 x) n

theorem look46 (k : Nat) : look (tab k) 46 = [46] := by unfold tab; split <;> decide
theorem look64 (k : Nat) : look (tab k) 64 = [64] := by unfold tab; split <;> decide
theorem look97 (k : Nat) : look (tab k) 97 = [97] := by unfold tab; split <;> decide
theorem look_or (l : List (Nat × Cs)) (d : Nat) : look l d = [d] ∨ ∃ p ∈ l, look l d = p.2 := by
  unfold look
  induction l with
  | nil => exact .inl rfl
  | cons p r ih =>
    rw [List.lookup_cons]
    cases hb : d == p.1 with
    | true => exact .inr ⟨p, List.mem_cons_self .., rfl⟩
    | false => exact ih.imp id fun ⟨q, hq, e⟩ => ⟨q, List.mem_cons_of_mem _ hq, e⟩
theorem tab_no46 (k : Nat) : ∀ p ∈ tab k, 46 ∉ p.2 ∧ p.2.head? = some 38 := by unfold tab; split <;> decide
theorem spell_no46 (k : Nat) {t : Cs} (h : 46 ∉ t) : 46 ∉ spell k t := by
  unfold spell
  intro m
  obtain ⟨d, hd, hm⟩ := List.mem_flatMap.mp m
  rcases look_or (tab k) d with e | ⟨p, hp, e⟩
  · rw [e] at hm
    rw [← List.mem_singleton.mp hm] at hd
    exact h hd
  · rw [e] at hm
    exact (tab_no46 k p hp).1 hm
theorem lay_no46 : ∀ (ks : List Nat) {t : Cs}, 46 ∉ t → 46 ∉ lay ks t
  | [], _, h => h
  | k :: r, _, h => lay_no46 r (spell_no46 k h)
theorem lay_append : ∀ (ks : List Nat) (t u : Cs), lay ks (t ++ u) = lay ks t ++ lay ks u
  | [], _, _ => rfl
  | k :: r, t, u => by
    show lay r (spell k (t ++ u)) = lay r (spell k t) ++ lay r (spell k u)
    rw [spell_append, lay_append r]
theorem lay_fix {t : Cs} (h : ∀ k, spell k t = t) : ∀ ks : List Nat, lay ks t = t
  | [] => rfl
  | k :: r => by
    show lay r (spell k t) = t
    rw [h k, lay_fix h r]
theorem lay_snoc (ks : List Nat) (k : Nat) (t : Cs) : lay (ks ++ [k]) t = spell k (lay ks t) := by simp [lay]
theorem lay_nil (ks : List Nat) : lay ks [] = [] := lay_fix (fun _ => rfl) ks
theorem lay_dot (ks : List Nat) (e : Cs) : lay ks (46 :: e) = 46 :: lay ks e := by
  rw [show 46 :: e = [46] ++ e from rfl, lay_append, lay_fix (fun k => by simp [spell, look46]) ks]; rfl
theorem lay_atS (ks : List Nat) (e : Cs) : lay ks (64 :: e) = 64 :: lay ks e := by
  rw [show 64 :: e = [64] ++ e from rfl, lay_append, lay_fix (fun k => by simp [spell, look64]) ks]; rfl
theorem tab_range (k : Nat) : tab k ∈ [tab 0, tab 1, tab 2, tab 3, tab 4] := by
  match k with
  | 0 | 1 | 2 | 3 | 4 => simp
  | k + 5 => exact .tail _ (.tail _ (.tail _ (.tail _ (.head _))))
theorem spell_fixed {t : Cs} (h : ∀ l ∈ [tab 0, tab 1, tab 2, tab 3, tab 4], t.flatMap (look l) = t) (k : Nat) : spell k t = t := h _ (tab_range k)
theorem lay_iso15 (ks : List Nat) : lay ks iso15 = iso15 := lay_fix (spell_fixed (by decide)) ks
theorem lay_utf8 (ks : List Nat) : lay ks utf8 = utf8 := lay_fix (spell_fixed (by decide)) ks
theorem lay_a (ks : List Nat) (e : Cs) : lay ks (97 :: e) = 97 :: lay ks e := by
  rw [show 97 :: e = [97] ++ e from rfl, lay_append, lay_fix (fun k => by simp [spell, look97]) ks]; rfl
theorem spell_low (k : Nat) {t : Cs} (h : ∃ d r, t = d :: r ∧ d < 64) : ∃ d r, spell k t = d :: r ∧ d < 64 := by
  obtain ⟨d, r, rfl, hd⟩ := h
  unfold spell
  rw [List.flatMap_cons]
  rcases look_or (tab k) d with e | ⟨p, hp, e⟩
  · rw [e]; exact ⟨d, _, rfl, hd⟩
  · rw [e]
    have h1 := (tab_no46 k p hp).2
    cases hq : p.2 with
    | nil => rw [hq] at h1; cases h1
    | cons a b => rw [hq] at h1; cases h1; exact ⟨38, _, rfl, by decide⟩
theorem lay_low : ∀ (ks : List Nat) {t : Cs}, (∃ d r, t = d :: r ∧ d < 64) → ∃ d r, lay ks t = d :: r ∧ d < 64
  | [], _, h => h
  | k :: r, _, h => lay_low r (spell_low k h)

def encSet : List Cs := [iso15, utf8, [97, 38, 98], [60, 34], []]
/-- of a layered encoding: which it is -/
theorem enc_lay {e : Cs} (h : e ∈ encSet) (ks : List Nat) : (lay ks e = iso15 ↔ e = iso15) ∧ (lay ks e = utf8 ↔ e = utf8) ∧ lay ks e ≠ iso1 ∧ 46 ∉ e := by
  simp only [encSet, List.mem_cons, List.not_mem_nil, or_false] at h
  rcases h with rfl | rfl | rfl | rfl | rfl
  · rw [lay_iso15]; decide
  · rw [lay_utf8]; decide
  · rw [lay_a]; simp [iso15, utf8, iso1]
  · obtain ⟨d, r, e, hd⟩ := lay_low ks (t := [60, 34]) ⟨60, [34], rfl, by decide⟩
    rw [e]
    refine ⟨⟨fun q => ?_, fun q => by cases q⟩, ⟨fun q => ?_, fun q => by cases q⟩, fun q => ?_, by decide⟩ <;> (cases q; exact absurd hd (by decide))
  · rw [lay_nil]; decide
theorem encO_set (j : Nat) : ∀ e, encO j = some e → e ∈ encSet := by
  unfold encO; split <;> intro e h <;> cases h <;> decide
theorem modO_no46 (j : Nat) : 46 ∉ modO j := by unfold modO; split <;> decide
theorem modO_ne (j : Nat) : modO j ≠ eur := by unfold modO; split <;> decide
theorem modO_len (j : Nat) : (modO j).length ≤ 5 := by unfold modO; split <;> decide
theorem encP_len (j : Nat) : (encP (encO j)).length ≤ 11 := by unfold encO; split <;> decide

/-- what holds of the pieces -/
def PK (p : Cs × Nat) : Prop := (∃ e ∈ encSet, p.1 = 46 :: e) ∨ ∃ e, 46 ∉ e ∧ p.1 = 64 :: e
structure Inv (ps : List (Cs × Nat)) (ls : List Nat) : Prop where
  shape : ∃ st r, ps = (st, 0) :: r ∧ 46 ∉ st ∧ ∀ p ∈ r, PK p
  since : ∀ p ∈ ps, p.2 ≤ ls.length
  five : ∀ k ∈ ls, k < 5

theorem writ_nil (ls : List Nat) : writ [] ls = [] := rfl
theorem writ_cons (p : Cs × Nat) (ps : List (Cs × Nat)) (ls : List Nat) : writ (p :: ps) ls = lay (ls.drop p.2) p.1 ++ writ ps ls := by simp [writ]
theorem writ_append (ps qs : List (Cs × Nat)) (ls : List Nat) : writ (ps ++ qs) ls = writ ps ls ++ writ qs ls := by simp [writ]
theorem writ_snoc (ls : List Nat) (k : Nat) : ∀ ps : List (Cs × Nat), (∀ p ∈ ps, p.2 ≤ ls.length) → writ ps (ls ++ [k]) = spell k (writ ps ls)
  | [], _ => rfl
  | p :: r, h => by
    rw [writ_cons, writ_cons, spell_append, writ_snoc ls k r fun q hq => h q (List.mem_cons_of_mem _ hq), List.drop_append_of_le_length (h p (List.mem_cons_self ..)), lay_snoc]
theorem writ_add (ps : List (Cs × Nat)) (ls : List Nat) (q : Cs) : writ (ps ++ [(q, ls.length)]) ls = writ ps ls ++ q := by
  rw [writ_append, writ_cons, List.drop_length]; simp [lay, writ]

theorem pk_dots {p : Cs × Nat} (h : PK p) : (dots p = true → ∃ e ∈ encSet, p.1 = 46 :: e) ∧ (dots p = false → ∃ e, 46 ∉ e ∧ p.1 = 64 :: e) := by
  rcases h with ⟨e, he, h⟩ | ⟨e, he, h⟩
  · refine ⟨fun _ => ⟨e, he, h⟩, fun q => ?_⟩
    simp [dots, h] at q
  · refine ⟨fun q => ?_, fun _ => ⟨e, he, h⟩⟩
    simp [dots, h] at q
theorem no_dots (ls : List Nat) : ∀ r : List (Cs × Nat), (∀ p ∈ r, PK p) → (r.all fun p => !dots p) = true → 46 ∉ writ r ls
  | [], _, _ => by simp [writ_nil]
  | p :: r, h, hd => by
    simp only [List.all_cons, Bool.and_eq_true, Bool.not_eq_true'] at hd
    rw [writ_cons, List.mem_append]
    rintro (m | m)
    · obtain ⟨e, he, hp⟩ := (pk_dots (h p (List.mem_cons_self ..))).2 hd.1
      rw [hp, lay_atS] at m
      rcases List.mem_cons.mp m with m | m
      · cases m
      · exact lay_no46 _ he m
    · exact no_dots ls r (fun q hq => h q (List.mem_cons_of_mem _ hq)) hd.2 m
/-- the first piece with a dot -/
theorem split_dot : ∀ r : List (Cs × Nat), (r.all fun p => !dots p) = false → ∃ pre p post, r = pre ++ p :: post ∧ (pre.all fun p => !dots p) = true ∧ dots p = true
  | [], h => by cases h
  | p :: r, h => by
    cases hp : dots p with
    | true => exact ⟨[], p, r, rfl, rfl, hp⟩
    | false =>
      simp only [List.all_cons, hp, Bool.not_false, Bool.true_and] at h
      obtain ⟨pre, q, post, e, h1, h2⟩ := split_dot r h
      exact ⟨p :: pre, q, post, by rw [e]; rfl, by simp [hp, h1], h2⟩
theorem tailD_app {a b : Cs} (h : 46 ∉ a) : tailD (a ++ 46 :: b) = b := by
  unfold tailD
  have : ∀ a : Cs, 46 ∉ a → (a ++ 46 :: b).dropWhile (· != 46) = 46 :: b := by
    intro a
    induction a with
    | nil => intro _; rfl
    | cons d r ih =>
      intro h
      have hd : (d != 46) = true := by simp only [bne_iff_ne]; exact fun e => h (e ▸ List.mem_cons_self ..)
      rw [List.cons_append, List.dropWhile_cons_of_pos (p := (· != 46)) hd]
      exact ih fun m => h (List.mem_cons_of_mem _ m)
  rw [this a h]; rfl
theorem sep_mem {p : Cs × Nat} (h : PK p) (ks : List Nat) (u : Cs) : 46 ∈ lay ks p.1 ++ u ∨ 64 ∈ lay ks p.1 ++ u := by
  rcases h with ⟨e, _, h⟩ | ⟨e, _, h⟩
  · rw [h, lay_dot]; exact .inl (by simp)
  · rw [h, lay_atS]; exact .inr (by simp)
/-- euro: told is due, and the wall is not met -/
theorem euro_sim {ps : List (Cs × Nat)} {ls : List Nat} (I : Inv ps ls) : euroC (writ ps ls) = writ ps ls ++ euroP ps ∧ (46 ∈ writ ps ls → tailD (writ ps ls) ≠ iso1) := by
  obtain ⟨st, r, rfl, hst, hr⟩ := I.shape
  have hs : dots (st, 0) = false := by
    cases st with
    | nil => rfl
    | cons d q =>
      have : d ≠ 46 := fun e => hst (e ▸ List.mem_cons_self ..)
      simp [dots, this]
  rw [writ_cons]
  have h0 : 46 ∉ lay (ls.drop 0) st := lay_no46 _ hst
  cases hd : (r.all fun p => !dots p) with
  | true =>
    have hn : 46 ∉ lay (ls.drop 0) st ++ writ r ls := by
      rw [List.mem_append]; rintro (m | m)
      · exact h0 m
      · exact no_dots ls r hr hd m
    refine ⟨?_, fun m => absurd m hn⟩
    unfold euroC euroP
    rw [if_neg hn, if_pos (by rw [List.all_cons, hs, hd]; rfl)]
  | false =>
    obtain ⟨pre, p, post, rfl, hpre, hp⟩ := split_dot r hd
    obtain ⟨e, he, hpe⟩ := (pk_dots (hr p (by simp))).1 hp
    have hprek : ∀ q ∈ pre, PK q := fun q hq => hr q (by simp [hq])
    have h1 : 46 ∉ lay (ls.drop 0) st ++ writ pre ls := by
      rw [List.mem_append]; rintro (m | m)
      · exact h0 m
      · exact no_dots ls pre hprek hpre m
    have ew : lay (ls.drop 0) st ++ writ (pre ++ p :: post) ls = (lay (ls.drop 0) st ++ writ pre ls) ++ 46 :: (lay (ls.drop p.2) e ++ writ post ls) := by
      rw [writ_append, writ_cons, hpe, lay_dot]; simp
    have et : tailD (lay (ls.drop 0) st ++ writ (pre ++ p :: post) ls) = lay (ls.drop p.2) e ++ writ post ls := by rw [ew, tailD_app h1]
    have hin : 46 ∈ lay (ls.drop 0) st ++ writ (pre ++ p :: post) ls := by rw [ew]; simp
    obtain ⟨k1, k2, k3, k4⟩ := enc_lay he (ls.drop p.2)
    have nall : ¬ (((st, 0) :: (pre ++ p :: post)).all fun p => !dots p) = true := by simp [hp]
    cases post with
    | nil =>
      rw [show writ [] ls = [] from rfl, List.append_nil] at et
      refine ⟨?_, fun _ => by rw [et]; exact k3⟩
      have hlast : ((st, 0) :: (pre ++ [p])).getLast? = some p := by rw [← List.cons_append, List.getLast?_append]; rfl
      have hdl : (((st, 0) :: (pre ++ [p])).dropLast.all fun p => !dots p) = true := by
        rw [← List.cons_append, List.dropLast_concat, List.all_cons, hs, hpre]; rfl
      have hiff : (tailD (lay (ls.drop 0) st ++ writ (pre ++ [p]) ls) = iso15 ∨ tailD (lay (ls.drop 0) st ++ writ (pre ++ [p]) ls) = utf8) ↔ (((st, 0) :: (pre ++ [p])).dropLast.all fun p => !dots p) = true ∧ ∃ q, ((st, 0) :: (pre ++ [p])).getLast? = some q ∧ (q.1 = 46 :: iso15 ∨ q.1 = 46 :: utf8) := by
        rw [et, k1, k2, hlast]
        constructor
        · exact fun q => ⟨hdl, p, rfl, q.imp (fun z => by rw [hpe, z]) fun z => by rw [hpe, z]⟩
        · rintro ⟨_, q, hq, z⟩
          cases hq
          rw [hpe] at z
          exact z.imp (fun z => by injection z) fun z => by injection z
      unfold euroC euroP
      rw [if_pos hin, if_neg nall]
      by_cases hc : (((st, 0) :: (pre ++ [p])).dropLast.all fun p => !dots p) = true ∧ ∃ q, ((st, 0) :: (pre ++ [p])).getLast? = some q ∧ (q.1 = 46 :: iso15 ∨ q.1 = 46 :: utf8)
      · rw [if_pos (hiff.mpr hc), if_pos hc, List.append_nil]
      · rw [if_neg fun q => hc (hiff.mp q), if_neg hc]
    | cons q post =>
      have hsep : 46 ∈ lay (ls.drop p.2) e ++ writ (q :: post) ls ∨ 64 ∈ lay (ls.drop p.2) e ++ writ (q :: post) ls := by
        rw [writ_cons]
        exact (sep_mem (hr q (by simp)) (ls.drop q.2) (writ post ls)).imp (fun m => List.mem_append_right _ m) fun m => List.mem_append_right _ m
      have hne : ∀ t : Cs, 46 ∉ t → 64 ∉ t → lay (ls.drop p.2) e ++ writ (q :: post) ls ≠ t := by
        intro t h46 h64 e
        rw [e] at hsep
        exact hsep.elim h46 h64
      refine ⟨?_, fun _ => by rw [et]; exact hne _ (by decide) (by decide)⟩
      unfold euroC euroP
      rw [if_pos hin, if_neg nall, et, if_neg (fun z => z.elim (hne _ (by decide) (by decide)) (hne _ (by decide) (by decide))), if_neg]
      rintro ⟨z, _⟩
      rw [show (st, 0) :: (pre ++ p :: q :: post) = ((st, 0) :: pre ++ [p]) ++ (q :: post) by simp, List.dropLast_append_of_ne_nil (by simp), List.all_append, List.all_append] at z
      simp [hp] at z
end Mine
end
section
open PySem PySem.W PySem.Calls PyProof.Rows
namespace Mine
abbrev DS := List (Cs × Nat) × List Nat
def stepDS (d : DS) (x : Int) : DS := (stepP d.1 d.2 x, stepL d.2 x)
def W (d : DS) : Cs := writ d.1 d.2
abbrev InvD (d : DS) : Prop := Inv d.1 d.2
theorem fm5 (x : Int) : 0 ≤ x.fmod 5 ∧ x.fmod 5 < 5 := by
  rw [PyProof.Rows.fmod_eq x (by decide)]; omega
theorem j5_lt (x : Int) : j5 x < 5 := by
  unfold j5
  have := fm5 (x.fdiv 5)
  omega
theorem j5_cast (x : Int) : ((j5 x : Nat) : Int) = (x.fdiv 5).fmod 5 := by
  unfold j5
  have := fm5 (x.fdiv 5)
  omega
theorem inv_add {ps : List (Cs × Nat)} {ls : List Nat} (I : Inv ps ls) {q : Cs} (hq : PK (q, ls.length)) : Inv (ps ++ [(q, ls.length)]) ls := by
  obtain ⟨st, r, rfl, hst, hr⟩ := I.shape
  refine ⟨⟨st, r ++ [(q, ls.length)], by simp, hst, fun p hp => ?_⟩, fun p hp => ?_, I.five⟩
  · rcases List.mem_append.mp hp with hp | hp
    · exact hr p hp
    · rw [List.mem_singleton.mp hp]; exact hq
  · rcases List.mem_append.mp hp with hp | hp
    · exact I.since p hp
    · rw [List.mem_singleton.mp hp]; exact Nat.le_refl _
theorem inv_layer {ps : List (Cs × Nat)} {ls : List Nat} (I : Inv ps ls) {k : Nat} (hk : k < 5) : Inv ps (ls ++ [k]) := by
  refine ⟨I.shape, fun p hp => ?_, fun j hj => ?_⟩
  · have := I.since p hp; simp; omega
  · rcases List.mem_append.mp hj with hj | hj
    · exact I.five j hj
    · rw [List.mem_singleton.mp hj]; exact hk
theorem add_piece {ps : List (Cs × Nat)} {ls : List Nat} (I : Inv ps ls) {q : Cs} (hq : q ≠ [] → PK (q, ls.length)) :
    writ (if q = [] then ps else ps ++ [(q, ls.length)]) ls = writ ps ls ++ q ∧ Inv (if q = [] then ps else ps ++ [(q, ls.length)]) ls := by
  by_cases h : q = []
  · rw [if_pos h, h, List.append_nil]; exact ⟨rfl, I⟩
  · rw [if_neg h]; exact ⟨writ_add ps ls q, inv_add I (hq h)⟩
theorem pk_enc (j n : Nat) (h : encP (encO j) ≠ []) : PK (encP (encO j), n) := by
  cases e : encO j with
  | none => rw [e] at h; exact absurd rfl h
  | some v => exact .inl ⟨v, encO_set j v e, rfl⟩
theorem pk_euro (ps : List (Cs × Nat)) (n : Nat) (h : euroP ps ≠ []) : PK (euroP ps, n) := by
  revert h
  unfold euroP
  split
  · exact fun _ => .inl ⟨iso15, by decide, rfl⟩
  · split
    · exact fun h => absurd rfl h
    · exact fun _ => .inr ⟨eur, by decide, rfl⟩
theorem sim {d : DS} (I : InvD d) (x : Int) : W (stepDS d x) = stepT (W d) x ∧ InvD (stepDS d x) := by
  obtain ⟨ps, ls⟩ := d
  obtain ⟨h0, h5⟩ := fm5 x
  show writ (stepP ps ls x) (stepL ls x) = stepT (writ ps ls) x ∧ Inv (stepP ps ls x) (stepL ls x)
  unfold stepP
  by_cases hb : 2 < x.fmod 5
  · have e1 : stepL ls x = ls ++ [j5 x] := by unfold stepL; rw [if_pos hb]
    have e2 : pieceOf ps x = [] := by unfold pieceOf; rw [if_neg (by omega), if_neg (by omega), if_neg (by omega)]
    have e3 : stepT (writ ps ls) x = spell (j5 x) (writ ps ls) := by unfold stepT; rw [if_neg (by omega), if_neg (by omega), if_neg (by omega)]
    rw [e1, e2, if_pos rfl, e3]
    exact ⟨writ_snoc ls _ ps I.since, inv_layer I (j5_lt x)⟩
  · have e1 : stepL ls x = ls := by unfold stepL; rw [if_neg hb]
    rw [e1]
    by_cases c0 : x.fmod 5 = 0
    · have e2 : pieceOf ps x = encP (encO (j6 x)) := by unfold pieceOf; rw [if_pos c0]
      have e3 : stepT (writ ps ls) x = writ ps ls ++ encP (encO (j6 x)) := by unfold stepT; rw [if_pos c0]
      rw [e2, e3]
      exact add_piece I fun h => pk_enc _ _ h
    · by_cases c1 : x.fmod 5 = 1
      · have e2 : pieceOf ps x = 64 :: modO (j6 x) := by unfold pieceOf; rw [if_neg c0, if_pos c1]
        have e3 : stepT (writ ps ls) x = writ ps ls ++ 64 :: modO (j6 x) := by unfold stepT; rw [if_neg c0, if_pos c1]
        rw [e2, e3]
        exact add_piece I fun _ => .inr ⟨_, modO_no46 _, rfl⟩
      · have c2 : x.fmod 5 = 2 := by omega
        have e2 : pieceOf ps x = euroP ps := by unfold pieceOf; rw [if_neg c0, if_neg c1, if_pos c2]
        have e3 : stepT (writ ps ls) x = writ ps ls ++ euroP ps := by unfold stepT; rw [if_neg c0, if_neg c1, if_pos c2, (euro_sim I).1]
        rw [e2, e3]
        exact add_piece I fun h => pk_euro _ _ h
theorem euroC_len (n : Cs) : (euroC n).length ≤ n.length + 11 := by
  unfold euroC
  split
  · split
    · omega
    · simp [eur]
  · simp [iso15]
theorem stepT_len (n : Cs) (x : Int) : (stepT n x).length ≤ 6 * n.length + 11 := by
  unfold stepT
  split
  · have := encP_len (j6 x); rw [List.length_append]; omega
  · split
    · have := modO_len (j6 x); rw [List.length_append, List.length_cons]; omega
    · split
      · have := euroC_len n; omega
      · have := spell_len (j5 x) n; omega

def runD (d : DS) (xs : List Int) : DS := xs.foldl stepDS d
theorem runD_snoc (d : DS) (xs : List Int) (x : Int) : runD d (xs ++ [x]) = stepDS (runD d xs) x := by simp [runD]
def outs (d : DS) : List Int → List Cs
  | [] => []
  | x :: r => W (stepDS d x) :: outs (stepDS d x) r
theorem outs_snoc : ∀ (xs : List Int) (d : DS) (x : Int), outs d (xs ++ [x]) = outs d xs ++ [W (runD d (xs ++ [x]))]
  | [], _, _ => rfl
  | y :: r, d, x => by
    show W (stepDS d y) :: outs (stepDS d y) (r ++ [x]) = W (stepDS d y) :: (outs (stepDS d y) r ++ [W (runD (stepDS d y) (r ++ [x]))])
    rw [outs_snoc r]
theorem inv_run (xs : List Int) : ∀ {d : DS}, InvD d → InvD (runD d xs) := by
  induction xs with
  | nil => exact fun I => I
  | cons x r ih => exact fun I => ih (sim I x).2
def bnd : Nat → Nat
  | 0 => 5
  | n + 1 => 6 * bnd n + 11
theorem bnd_succ (n : Nat) : bnd (n + 1) = 6 * bnd n + 11 := rfl
theorem bnd_mono : ∀ {a b : Nat}, a ≤ b → bnd a ≤ bnd b := by
  intro a b h
  induction h with
  | refl => exact Nat.le_refl _
  | step _ ih => rw [bnd_succ]; omega
theorem run_len {d : DS} (I : InvD d) (h : (W d).length ≤ 5) (xs : List Int) : (W (runD d xs)).length ≤ bnd xs.length := by
  have key : ∀ (n : Nat) (xs : List Int), xs.length = n → (W (runD d xs)).length ≤ bnd n := by
    intro n
    induction n with
    | zero => intro xs hx; rw [List.length_eq_zero_iff.mp hx]; exact h
    | succ n ih =>
      intro xs hx
      have hne : xs ≠ [] := fun e => by rw [e] at hx; cases hx
      rw [← List.dropLast_concat_getLast hne, runD_snoc, (sim (inv_run _ I) _).1, bnd_succ]
      have h1 := ih xs.dropLast (by rw [List.length_dropLast]; omega)
      have h2 := stepT_len (W (runD d xs.dropLast)) (xs.getLast hne)
      omega
  exact key _ xs rfl
theorem run_take {d : DS} (xs : List Int) {i : Nat} {x : Int} (h : xs[i]? = some x) : runD d (xs.take (i + 1)) = stepDS (runD d (xs.take i)) x ∧ outs d (xs.take (i + 1)) = outs d (xs.take i) ++ [W (runD d (xs.take (i + 1)))] := by
  have e : xs.take (i + 1) = xs.take i ++ [x] := by rw [List.take_add_one, h]; rfl
  rw [e, runD_snoc, outs_snoc, runD_snoc]
  exact ⟨rfl, rfl⟩
def st0 (st : Cs) : DS := ([(st, 0)], [])
theorem inv_st0 {st : Cs} (h : 46 ∉ st) : InvD (st0 st) := ⟨⟨st, [], rfl, h, fun _ hp => nomatch hp⟩, fun p hp => by rw [List.mem_singleton.mp hp]; exact Nat.le_refl _, fun _ hk => nomatch hk⟩
theorem W_st0 (st : Cs) : W (st0 st) = st := by simp [W, st0, writ, lay]
theorem len_take {st : Cs} (h : 46 ∉ st) (h5 : st.length ≤ 5) {xs : List Int} (hx : xs.length ≤ 7) (i : Nat) : (W (runD (st0 st) (xs.take i))).length ≤ 2015537 ∧ (i < xs.length → (W (runD (st0 st) (xs.take i))).length ≤ 335921) := by
  have h1 := run_len (inv_st0 h) (by rw [W_st0]; exact h5) (xs.take i)
  have h2 : (xs.take i).length ≤ 7 := by rw [List.length_take]; omega
  refine ⟨Nat.le_trans h1 (Nat.le_trans (bnd_mono h2) (by decide)), fun hi => Nat.le_trans h1 (Nat.le_trans (bnd_mono (b := 6) ?_) (by decide))⟩
  rw [List.length_take]; omega
theorem strs_snoc {y : Str} {t : Tok} : ∀ {vs : List Value} {ys : List Str}, StrsAre vs ys → StrsAre (vs ++ [.str y t]) (ys ++ [y])
  | _, _, .nil => .cons y t .nil
  | _, _, .cons z u r => .cons z u (strs_snoc r)
theorem strs_len {ws : List Value} {ss : List Str} (h : StrsAre ws ss) : ws.length = ss.length := by
  induction h with
  | nil => rfl
  | cons _ _ _ ih => simp [ih]
theorem outs_len : ∀ (xs : List Int) (d : DS), (outs d xs).length = xs.length
  | [], _ => rfl
  | x :: r, d => by show (outs (stepDS d x) r).length + 1 = _; rw [outs_len r]; rfl
end Mine
end
section
open PySem PySem.W PySem.Calls PyProof.Rows PyProof.Rows.LCg
set_option maxRecDepth 100000
namespace Mine
section
variable {prog : Program} {w : World} {A : Around} {E : Value → Shared → Prop} {s : Shared} {h₀ : Heap} {L : Addr} {m : Str → Option Value} {env : Env} {elt : Expr} {x : Str} {scope : Scope} {cl : List (Str × Addr)} {news : List (Addr × Obj)} {Q : Value → Shared → Prop}
theorem rest_signs {s₂ : Shared} {S' : List (Addr × Obj) → Prop} {Fin : List Value → List (Addr × Obj) → Prop} (y : Cs) (g : Nat → Cs)
    (turn : ∀ c u I oI C oC D m₂ ys h tk (E' : Value → Shared → Prop), c ∈ y → NsObj oC m₂ → m₂ x = some (.str ⟨#[c]⟩ u) → Fr h₀ L h m → News h₀ L h ((I, oI) :: (C, oC) :: (D, lst ys) :: news) → Off3 I C D news → ((@Ne Nat I C) ∧ (@Ne Nat I D) ∧ (@Ne Nat C D)) →
      wpAny (model prog w) A (eval elt (compEnvC scope cl C env)) (CompEnd h₀ L m { s₂ with heap := h, toks := tk } I oI C oC D (lst ys) S' (fun v news' => news' = news ∧ ∃ t : Tok, v = .str (S (g c)) t)) E' { s₂ with heap := h, toks := tk })
    (fin : ∀ ys, StrsAre ys (y.map fun c => S (g c)) → Fin ys news) : CompRest prog w A h₀ L m env elt x scope cl s₂ S' (SignAt (S y)) Fin (S y).cps.size 0 [] news := by
  have hsz : (S y).cps.size = y.length := by simp
  rw [hsz]
  have key : ∀ (j i : Nat) (ys : List Value), i + j = y.length → StrsAre ys ((y.take i).map fun c => S (g c)) → CompRest prog w A h₀ L m env elt x scope cl s₂ S' (SignAt (S y)) Fin j i ys news := by
    intro j
    induction j with
    | zero =>
      intro i ys hi hy
      have e : i = y.length := by omega
      subst e
      rw [List.take_length] at hy
      exact CompRest.zero (fin ys hy)
    | succ j ih =>
      intro i ys hi hy
      refine CompRest.succ ?_
      intro v I oI C oC D m₂ h tk E' hv hC hx F N off ne
      obtain ⟨c, u, hc, hv'⟩ := hv
      rw [hv'] at hx
      have hc' : y[i]? = some c := by simpa using hc
      refine wpAny_mono (turn c u I oI C oC D m₂ ys h tk E' (List.mem_of_getElem? hc') hC hx F N off ne) (fun v s₃ hq => ?_) fun _ _ e => e
      obtain ⟨h', tk', nw, e, F', N', off', hS, hn, t', hy'⟩ := hq
      rw [hn] at N' off' hS
      refine ⟨h', tk', news, e, F', N', off', hS, ?_⟩
      rw [hy']
      refine ih (i + 1) _ (by omega) ?_
      rw [List.take_add_one, hc']
      have hs := strs_snoc (y := S (g c)) (t := t') hy
      simpa using hs
  exact key y.length 0 [] (by omega) (by simp only [List.take_zero, List.map_nil]; exact .nil)
theorem comp_signs {iter : Expr} {px pos : Pos} {t : Tok} (y : Cs) (g : Nat → Cs) (hh : A.handled = none) (F : Fr h₀ L s.heap m) (N : News h₀ L s.heap news) (hsz : y.length ≤ 16777216)
    (hiter : ∀ Q' : Value → Shared → Prop, Q' (.str (S y) t) s → wpAny (model prog w) A (eval iter env) Q' E s)
    (hclos : closureFor scope env = pure cl) (hcell : ∀ y ∈ scope.names, y.2 ≠ .cell) (hkind : scope.kind = .function)
    (hnames : ∀ y ∈ scope.names, y.2 = .local → scope.names.lookup y.1 = some .local) (hx : scope.names.lookup x = some .local)
    (turn : ∀ c u I oI C oC D m₂ ys h tk (E' : Value → Shared → Prop), c ∈ y → NsObj oC m₂ → m₂ x = some (.str ⟨#[c]⟩ u) → Fr h₀ L h m → News h₀ L h ((I, oI) :: (C, oC) :: (D, lst ys) :: news) → Off3 I C D news → ((@Ne Nat I C) ∧ (@Ne Nat I D) ∧ (@Ne Nat C D)) →
      wpAny (model prog w) A (eval elt (compEnvC scope cl C env)) (CompEnd h₀ L m { s with heap := h, toks := tk } I oI C oC D (lst ys) (fun _ => True) (fun v news' => news' = news ∧ ∃ t : Tok, v = .str (S (g c)) t)) E' { s with heap := h, toks := tk })
    (fin : ∀ D h tk ys, StrsAre ys (y.map fun c => S (g c)) → Fr h₀ L h m → News h₀ L h ((D, lst ys) :: news) → Q (.ref D) { s with heap := h, toks := tk })
    (hs : ∀ x, foldedSetIterable iter env x = pure x) :
    wpAny (model prog w) A (eval (.ListComp elt [⟨.Name x px, iter, [], 0⟩] scope pos) env) Q E s := by
  rw [eval_ListComp]
  have hszl : (S y).cps.size ≤ sizeLine := by rw [PySem.sizeLine_eq]; simpa using hsz
  have up : ∀ (o : Obj) b q, s.heap.get? b = some q → (s.heap.push o).get? b = some q := fun o b q e => Heap.get?_push_of_some _ e
  have hfp : ∀ (o : Obj) b, b ∈ [s.heap.objs.size] → b < (s.heap.push o).objs.size := fun o b hb => by rw [List.mem_singleton.mp hb, Heap.size_push]; exact Nat.lt_succ_self _
  refine wpAny_comprehension_free (use := none) rfl hs hclos hkind hnames (hiter _ ?_)
  cases ha : (S y).cps.all (· < 128)
  · refine wpAny_pyIter_wide ha ?_
    refine block_U (Walks.strWide hh s.heap.objs.size (S y) t) hszl (fun i h st => by obtain ⟨o, e, _⟩ := st; exact ⟨o, e⟩) (fun i h h' o nw st e e' _ _ _ => by obtain ⟨q, eq, r⟩ := st; rw [e] at eq; cases eq; exact ⟨_, e', r⟩)
      hcell hkind hx ⟨_, Heap.get?_push_size _ rfl, rfl, rfl⟩ (hfp _) (F.keeps (up _)) (N.grown (up _)) (Nat.ne_of_lt F.ns.lt) (next_is_new F) (fun p hp => Nat.ne_of_lt (Heap.lt_size (N p hp).1)) trivial (rest_signs y g turn (Fin := FinE h₀ L m s Q) fun ys hy => fun D h tk F' N' o1 => fin D h tk ys hy F' N') ?_
    intro D C h tk m' ys news' F' N' o1 hn hC₀ hD₀ hCL hDL hCD offC fin
    refine ⟨m', hn, fun h'' hs'' => fin D h'' tk (F'.change hs'' hCL hC₀) (fun p hp => ?_) o1⟩
    refine ⟨hs''.extBut _ _ ?_ (N' p hp).1, (N' p hp).2⟩
    rcases List.mem_cons.mp hp with rfl | hp
    · exact Ne.symm hCD
    · exact offC p hp
  · refine wpAny_pyIter_ascii ha ?_
    refine block_U (Walks.strAscii hh s.heap.objs.size (S y) t) hszl (fun i h st => by obtain ⟨o, e, _⟩ := st; exact ⟨o, e⟩) (fun i h h' o nw st e e' _ _ _ => by obtain ⟨q, eq, r⟩ := st; rw [e] at eq; cases eq; exact ⟨_, e', r⟩)
      hcell hkind hx ⟨_, Heap.get?_push_size _ rfl, rfl, rfl⟩ (hfp _) (F.keeps (up _)) (N.grown (up _)) (Nat.ne_of_lt F.ns.lt) (next_is_new F) (fun p hp => Nat.ne_of_lt (Heap.lt_size (N p hp).1)) trivial (rest_signs y g turn (Fin := FinE h₀ L m s Q) fun ys hy => fun D h tk F' N' o1 => fin D h tk ys hy F' N') ?_
    intro D C h tk m' ys news' F' N' o1 hn hC₀ hD₀ hCL hDL hCD offC fin
    refine ⟨m', hn, fun h'' hs'' => fin D h'' tk (F'.change hs'' hCL hC₀) (fun p hp => ?_) o1⟩
    refine ⟨hs''.extBut _ _ ?_ (N' p hp).1, (N' p hp).2⟩
    rcases List.mem_cons.mp hp with rfl | hp
    · exact Ne.symm hCD
    · exact offC p hp
end
end Mine
end
section
open PySem PySem.W PySem.Calls PyProof.Rows PyProof.V
set_option maxRecDepth 100000
namespace Mine
inductive Lits : List (Option PySem.Expr) → List PySem.Expr → List (Nat × Cs) → Prop
  | nil : Lits [] [] []
  | cons {a b : Str} {c : Nat} {z : Cs} {k k' : Nat} {p p' : Pos} {ks : List (Option PySem.Expr)} {vs : List PySem.Expr} {l : List (Nat × Cs)} : a = S [c] → b = S z → Lits ks vs l → Lits (some (.Constant (.str a) k p) :: ks) (.Constant (.str b) k' p' :: vs) ((c, z) :: l)
inductive LitVals : List (Value × Value) → List (Nat × Cs) → Prop
  | nil : LitVals [] []
  | cons {c : Nat} {z : Cs} {t u : Tok} {vs : List (Value × Value)} {l : List (Nat × Cs)} : LitVals vs l → LitVals ((.str (S [c]) t, .str (S z) u) :: vs) ((c, z) :: l)
def dataOf (l : List (Nat × Cs)) : List (PyData × PyData) := l.map fun p => (PyData.str (S [p.1]), PyData.str (S p.2))
theorem LitVals.facts {vs : List (Value × Value)} {l : List (Nat × Cs)} (h : LitVals vs l) : allStrKeys vs = true ∧ (strPairs vs).map (·.1) = l.map (fun p => S [p.1]) ∧ allFlat vs = true ∧ strData vs = dataOf l := by
  induction h with
  | nil => exact ⟨rfl, rfl, rfl, rfl⟩
  | cons _ ih =>
    obtain ⟨h1, h2, h3, h4⟩ := ih
    refine ⟨h1, ?_, ?_, ?_⟩
    · simp [strPairs, h2]
    · simpa [allFlat, datumOf] using h3
    · simp [strData, datumOf, h4, dataOf]
/-- what is known of a made dict of signs -/
def DictIs (w : World) (d : Addr) (o : Obj) (l : List (Nat × Cs)) : Prop := (d == sysModules) = false ∧ ∃ kvs, o.IsDictOf (PySem.strKind Pg w) kvs ∧ FlatPairs PyData.str kvs (dataOf l)
section
variable {w : World} {A : Around} {E : Value → Shared → Prop} {s : Shared} {env : Env} {h₀ : Heap} {L : Addr} {m : Str → Option Value} {news : List (Addr × Obj)}
theorem lits_walk {pos : Pos} : ∀ {ks : List (Option PySem.Expr)} {vs : List PySem.Expr} {l : List (Nat × Cs)} (_ : Lits ks vs l) (s : Shared) (Q : List (Value × Value) → Shared → Prop),
    (∀ rs tk, LitVals rs l → Q rs { s with toks := tk }) → wpAny (model Pg w) A (evalPairs (pairTrees ks vs env pos)) Q E s
  | _, _, _, .nil, s, Q, h => pairTrees_nil_walk (h [] s.toks .nil)
  | _, _, _, .cons ha hb r, s, Q, h => by
    subst ha; subst hb
    refine pairTrees_cons_walk (Calls.Constant_str (Calls.Constant_str ?_))
    exact lits_walk r _ _ fun rs tk hr => h _ tk (.cons hr)
theorem Lits.facts {ks : List (Option PySem.Expr)} {vs : List PySem.Expr} {l : List (Nat × Cs)} (h : Lits ks vs l) : ks.all (·.isSome) = true ∧ ks.length = vs.length ∧ ks.length = l.length := by
  induction h with
  | nil => exact ⟨rfl, rfl, rfl⟩
  | cons _ _ _ ih => exact ⟨by simpa using ih.1, by simp [ih.2.1], by simp [ih.2.2]⟩
theorem dict_lits {ks : List (Option PySem.Expr)} {vs : List PySem.Expr} {pos : Pos} {Q : Value → Shared → Prop} (l : List (Nat × Cs)) (hL : Lits ks vs l) (F : Fr h₀ L s.heap m) (N : News h₀ L s.heap news) (hbig : h₀.NoLimit)
    (hn : (l.map (·.1)).Nodup) (h0 : l ≠ []) (hlen : l.length ≤ 15)
    (h : ∀ d h' o tk, Fr h₀ L h' m → News h₀ L h' ((d, o) :: news) → (∀ p ∈ news, p.1 < d) → DictIs w d o l → Q (.ref d) { s with heap := h', toks := tk }) :
    wpAny (model Pg w) A (eval (.Dict ks vs pos) env) Q E s := by
  obtain ⟨f1, f2, f3⟩ := hL.facts
  refine kdn_eval (knd := PySem.strKind Pg w) F N hbig f1 f2 (fun e => h0 (List.length_eq_zero_iff.mp (by rw [← f3, e]; rfl))) (by rw [f3]; exact hlen) fun d h' o F' N' lo hd ho => ?_
  refine lits_walk hL _ _ fun rs tk hr => ?_
  obtain ⟨g1, g2, g3, g4⟩ := hr.facts
  have hnd : ((strPairs rs).map (·.1)).Nodup := by
    rw [g2]
    have : (l.map fun p => S [p.1]) = (l.map (·.1)).map fun c => S [c] := by rw [List.map_map]; rfl
    rw [this]
    refine List.Pairwise.map _ (fun a b hab e => hab ?_) hn
    have := S_inj e
    simpa using this
  refine kdn_made_strF (g := fun o' => (d, o') :: news) F' N' (UpdF.head fun p hp => Nat.ne_of_lt (lo p hp)) ho g1 hnd g3 fun h'' o'' F'' N'' hd'' hf => ?_
  rw [g4] at hf
  exact h d h'' o'' _ F'' N'' lo ⟨hd, _, hd'', hf⟩
theorem lookup_data (l : List (Nat × Cs)) (c : Nat) : (Spec.lookup (PyData.str ⟨#[c]⟩) (dataOf l)).getD (PyData.str ⟨#[c]⟩) = PyData.str (S (look l c)) := by
  unfold look
  induction l with
  | nil => rfl
  | cons p r ih =>
    show (Spec.lookup (PyData.str ⟨#[c]⟩) ((PyData.str (S [p.1]), PyData.str (S p.2)) :: dataOf r)).getD (PyData.str ⟨#[c]⟩) = _
    have e : Spec.same (PyData.str (S [p.1])) (PyData.str ⟨#[c]⟩) = (c == p.1) := by
      have e1 : Spec.same (PyData.str (S [p.1])) (PyData.str ⟨#[c]⟩) = (S [p.1] == S [c]) := rfl
      rw [e1, S_beq]
      by_cases h : c = p.1
      · subst h; simp
      · rw [decide_eq_false (fun q => h (by simpa using q.symm))]
        exact (beq_eq_false_iff_ne.mpr h).symm
    rw [List.lookup_cons]
    unfold Spec.lookup
    rw [e]
    cases c == p.1 with
    | true => rfl
    | false => simpa using ih
theorem get_sign {d : Addr} {o : Obj} {l : List (Nat × Cs)} {c : Nat} {t u : Tok} {Q : Value → Shared → Prop} (N : News h₀ L s.heap news) (hm : (d, o) ∈ news) (hd : DictIs w d o l)
    (h : ∀ t', Q (.str (S (look l c)) t') { s with toks := s.toks + 1 }) : wpAny (model Pg w) A (call (.builtin "dict.get") [.ref d, .str ⟨#[c]⟩ t, .str ⟨#[c]⟩ u]) Q E s := by
  obtain ⟨lo, kvs, ho, hf⟩ := hd
  refine call_get2_strTab (TabAt.ofNews N hm lo ho hf) (Flat.str _ _) fun v hv => ?_
  rw [lookup_data] at hv
  have := hv s.heap
  cases this
  exact h _
end
end Mine
end
section
open PySem PySem.W PySem.Calls PyProof.Rows
namespace Mine
theorem lit_empty : Str.ofString "" = S [] := by decide
theorem strJoin_flat (g : Nat → Cs) : ∀ y : Cs, Str.join (S []) (y.map fun c => S (g c)) = S (y.flatMap g)
  | [] => rfl
  | [c] => by simp [Str.join]
  | c :: d :: r => by
    have ih := strJoin_flat g (d :: r)
    show S (g c) ++ S [] ++ Str.join (S []) ((d :: r).map fun c => S (g c)) = _
    rw [ih, app_S, app_S]
    exact congrArg (fun l : Cs => S l) (by simp)
theorem txtJoin_flat (g : Nat → Cs) (y : Cs) : Txt.join (Str.ofString "") (y.map fun c => S (g c)) = S (y.flatMap g) := by
  rw [lit_empty]
  unfold Txt.join
  rw [StrLaws.glued_eq_join, strJoin_flat]
theorem sum_len (g : Nat → Cs) (n : Nat) (h : ∀ d, (g d).length ≤ n) : ∀ y : Cs, (((y.map fun c => S (g c))).map (·.length)).sum ≤ n * y.length
  | [] => by simp
  | c :: r => by
    have ih := sum_len g n h r
    have := h c
    simp only [List.map_cons, List.sum_cons, List.length_cons, len_S] at ih ⊢
    rw [Nat.mul_add]; omega
section
variable {w : World} {A : Around} {E : Value → Shared → Prop} {s : Shared} {h₀ : Heap} {L : Addr} {news : List (Addr × Obj)}
theorem join_signs {D : Addr} {ys : List Value} {n : Nat} {t : Tok} {Q : Value → Shared → Prop} (g : Nat → Cs) (y : Cs) (hg : ∀ d, (g d).length ≤ 6) (hy : y.length ≤ 2100000) (N : News h₀ L s.heap news) (hm : (D, ({ cls := .type "list", data := .seq (List.toArray ys) n } : Obj)) ∈ news) (hs : StrsAre ys (y.map fun c => S (g c)))
    (h : ∀ t' k, Q (.str (S (y.flatMap g)) t') { s with toks := k }) : wpAny (model Pg w) A (call (.builtin "str.join") [.str (Str.ofString "") t, .ref D]) Q E s := by
  refine join_list (items := List.toArray ys) (N.isList hm) hs ?_ fun t' k => ?_
  · have h1 := sum_len g 6 hg y
    have h2 : (Str.ofString "").length = 0 := by rw [lit_empty]; rfl
    rw [h2, Nat.mul_zero]
    omega
  · rw [txtJoin_flat]; exact h t' k
theorem dictTab {d : Addr} {o : Obj} {l : List (Nat × Cs)} {h : Heap} (N : News h₀ L h news) (hm : (d, o) ∈ news) (hd : DictIs w d o l) : StrTab Pg w h d (dataOf l) :=
  let ⟨lo, _, ho, hf⟩ := hd
  TabAt.ofNews N hm lo ho hf
end
end Mine
end
section
open PySem PySem.W PySem.Calls PyProof.Rows
set_option maxRecDepth 100000
namespace Mine
section
variable {prog : Program} {w : World} {A : Around} {E : Value → Shared → Prop} {s : Shared} {env : Env} {h₀ : Heap} {body : List Stmt} {Q : Flow → Shared → Prop}
def JT (d : DS) (xs : List Int) (a : Addr) (i : Nat) (m : Str → Option Value) (nx : List (Addr × Obj)) : Prop :=
  ∃ ws k tn, nx = [(a, listOf (List.toArray ws) k)] ∧ StrsAre ws ((outs d (xs.take i)).map S) ∧ m (Str.ofString "name") = some (.str (S (W (runD d (xs.take i)))) tn) ∧ m (Str.ofString "told") = some (.ref a)
structure ToldH (st : Cs) (xs : List Int) : Prop where
  hx : ∀ x ∈ xs, 0 ≤ x ∧ x < 150
  hlen : xs.length ≤ 7
  hst : 46 ∉ st
  hst5 : st.length ≤ 5
theorem iter_told {st : Cs} {a l : Addr} {vs : List Value} {xs : List Int} {m₀ : Str → Option Value} {news : List (Addr × Obj)} {k0 : Nat} {t0 : Tok}
    (H : ToldH st xs) (hh : A.handled = none) (hl : h₀.IsList l vs.toArray) (hi : IntsAre vs xs) (F : Fr h₀ env.locals s.heap m₀) (N : News h₀ env.locals s.heap news) (hmem : (a, listOf (List.toArray []) k0) ∈ news)
    (hn : m₀ (Str.ofString "name") = some (.str (S st) t0)) (ht : m₀ (Str.ofString "told") = some (.ref a))
    (turn : ∀ i x t tn ws k (u : Str → Option Value) h tk own, xs[i]? = some x → 0 ≤ x → x < 150 → (W (runD (st0 st) (xs.take i))).length ≤ 335921 → ws.length ≤ 7 → OwnOff own [a] → StrsAre ws ((outs (st0 st) (xs.take i)).map S) →
      Fr h₀ env.locals h (fun y => if y = Str.ofString "x" then some (.int x t) else if y = Str.ofString "name" then some (.str (S (W (runD (st0 st) (xs.take i)))) tn) else if y = Str.ofString "told" then some (.ref a) else u y) →
      News h₀ env.locals h ((a, listOf (List.toArray ws) k) :: own) →
      wpAny (model prog w) A (execs body env) (InvPostN h₀ env.locals (JT (st0 st) xs a (i + 1)) own [a] { s with heap := h, toks := tk } Q) E { s with heap := h, toks := tk })
    (done : ∀ ws k (u : Str → Option Value) h tk, StrsAre ws ((outs (st0 st) xs).map S) → Fr h₀ env.locals h (fun y => if y = Str.ofString "told" then some (.ref a) else u y) → News h₀ env.locals h [(a, listOf (List.toArray ws) k)] → Q .next { s with heap := h, toks := tk }) :
    wpAny (model prog w) A (pyIter (.ref l)) (fun it s₂ => LoopAtV prog w A h₀ env (Str.ofString "x") body Q E it s₂) E s := by
  refine iter_invN (JT (st0 st) xs a) (news := [(a, listOf (List.toArray []) k0)]) hh hl hi F (fun p hp => N p (by rw [List.mem_singleton.mp hp]; exact hmem)) ⟨[], k0, t0, rfl, .nil, by simpa [runD, W_st0] using hn, ht⟩ ?_ ?_
  · rintro i x t m₁ news₁ h tk own hx _ hoff ⟨ws, k, tn, rfl, hs, h1, h2⟩ F₁ N₁
    have hlt : i < xs.length := (List.getElem?_eq_some_iff.mp hx).1
    refine turn i x t tn ws k m₁ h tk own hx (H.hx x (List.mem_of_getElem? hx)).1 (H.hx x (List.mem_of_getElem? hx)).2 ((len_take H.hst H.hst5 H.hlen i).2 hlt) ?_ hoff hs ?_ N₁
    · have h9 := strs_len hs
      rw [List.length_map, outs_len, List.length_take] at h9
      have := H.hlen
      omega
    have e : (fun y => if y = Str.ofString "x" then some (Value.int x t) else m₁ y) = (fun y => if y = Str.ofString "x" then some (.int x t) else if y = Str.ofString "name" then some (.str (S (W (runD (st0 st) (xs.take i)))) tn) else if y = Str.ofString "told" then some (.ref a) else m₁ y) := by
      funext y
      by_cases h3 : y = Str.ofString "x"
      · simp [h3]
      · simp only [if_neg h3]
        by_cases h4 : y = Str.ofString "name"
        · subst h4; simp [h1]
        · simp only [if_neg h4]
          by_cases h5 : y = Str.ofString "told"
          · subst h5; simp [h2]
          · simp only [if_neg h5]
    rw [e] at F₁
    exact F₁
  · rintro m₁ news₁ h tk ⟨ws, k, tn, rfl, hs, h1, h2⟩ F₁ N₁
    rw [List.take_length] at hs
    refine done ws k m₁ h tk hs ?_ N₁
    have e : m₁ = (fun y => if y = Str.ofString "told" then some (.ref a) else m₁ y) := by
      funext y
      by_cases h5 : y = Str.ofString "told"
      · subst h5; simp [h2]
      · simp only [if_neg h5]
    rw [← e]
    exact F₁
theorem told_end {st : Cs} {xs : List Int} {L a : Addr} {i : Nat} {x : Int} {ws : List Value} {k tk : Nat} {own news' : List (Addr × Obj)} {h' : Heap} {m' : Str → Option Value} {s₁ : Shared} {n' : Cs} {tn : Tok} (H : ToldH st xs) (hx : xs[i]? = some x) (hs : StrsAre ws ((outs (st0 st) (xs.take i)).map S)) (hnew : n' = stepT (W (runD (st0 st) (xs.take i))) x)
    (F : Fr h₀ L h' m') (N : News h₀ L h' news') (hm : m' (Str.ofString "name") = some (.str (S n') tn)) (ht : m' (Str.ofString "told") = some (.ref a)) (hin : (a, listOf ((List.toArray ws).push (.str (S n') tn)) (k + 1)) ∈ news') (ho : ∀ p ∈ own, p ∈ news') :
    InvEndN h₀ L (JT (st0 st) xs a (i + 1)) own [a] s₁ { s₁ with heap := h', toks := tk } := by
  obtain ⟨e1, e2⟩ := run_take (d := st0 st) xs hx
  have e3 : n' = W (runD (st0 st) (xs.take (i + 1))) := by rw [hnew, e1, (sim (inv_run _ (inv_st0 H.hst)) x).1]
  have e4 : (List.toArray ws).push (.str (S n') tn) = List.toArray (ws ++ [.str (S n') tn]) := by simp
  refine InvEndN.intro (nx := [(a, listOf ((List.toArray ws).push (.str (S n') tn)) (k + 1))]) F N ⟨ws ++ [.str (S n') tn], k + 1, tn, by rw [e4], ?_, by rw [← e3]; exact hm, ht⟩ rfl (fun p hp => by rw [List.mem_singleton.mp hp]; exact hin) ho
  rw [e2, List.map_append, e3]
  exact strs_snoc hs
end
/-- what a made list of texts is -/
def TextsAt (h : Heap) (r : Value) (ss : List Str) : Prop := ∃ a ws, r = .ref a ∧ h.IsList a (List.toArray ws) ∧ StrsAre ws ss
theorem encO_len {j : Nat} {e : Cs} (h : encO j = some e) : e.length ≤ 10 := by
  revert h; unfold encO; split <;> intro h <;> cases h <;> decide
section
variable {w : World} {mean : ExcName → Option Value} {mg mb : Str → Option Value}
theorem escape_okI (x : Cs) (t : Tok) (k : Int) (u : Tok) (y : Int) (hk : k = (y.fdiv 5).fmod 5) : Cn w mean mg mb 303 10 286 [.str (S x) t, .int k u] (fun _ => x.length ≤ 390000) (fun _ r _ => ∃ t', r = .str (S (spell (j5 y) x)) t') := by
  rw [hk, ← j5_cast]
  exact escape_ok x t (j5 y) u (j5_lt y)
local macro_rules | `(tactic| walk_at "call ref") => `(tactic| (k_here; (with_reducible show wpAny _ _ (call (Value.ref 42) _) _ _ _); (with_reducible rename Fr _ _ _ _ => F'); (with_reducible rename News _ _ _ _ => N'); k_dflt (first
  | refine use (build_start _ _ _) F' (by assumption) N' (by assumption) (News.isTup N' (by k_mem)) ⟨_, _, rfl⟩ ?_
  | refine use (build_ok _ _ _ _ _) F' (by assumption) N' (by assumption) ⟨News.isList N' (by k_mem), by omega⟩ ⟨_, _, rfl⟩ ?_
  | refine use (build_none _ _ _) F' (by assumption) N' (by assumption) (News.isList N' (by k_mem)) ⟨_, _, rfl⟩ ?_); intro r' h' tk' F' N' kp' hp'; obtain ⟨t', hp'⟩ := hp'; subst hp'))
local macro_rules | `(tactic| walk_at "call ref") => `(tactic| (k_here; (with_reducible show wpAny _ _ (call (Value.ref 286) _) _ _ _); (with_reducible rename Fr _ _ _ _ => F'); (with_reducible rename News _ _ _ _ => N'); k_dflt (refine use (escape_okI _ _ _ _ _ rfl) F' (by assumption) N' (by assumption) (by omega) ⟨_, _, rfl⟩ ?_); intro r' h' tk' F' N' kp' hp'; obtain ⟨t', hp'⟩ := hp'; subst hp'))
local macro_rules | `(tactic| walk_at "call ref") => `(tactic| (k_here; (with_reducible show wpAny _ _ (call (Value.ref 293) _) _ _ _); (with_reducible rename Fr _ _ _ _ => F'); (with_reducible rename News _ _ _ _ => N'); k_dflt (refine use (encoding_ok _ _ (by assumption) (by assumption)) F' (by assumption) N' (by assumption) trivial ⟨_, _, rfl⟩ ?_); intro r' h' tk' F' N' kp' hp'; (generalize hEn' : encO (j6 _) = o' at hp'); rcases o' with _ | e'; all_goals (dsimp only [EncR] at hp'; first | subst hp' | (obtain ⟨t', hp'⟩ := hp'; subst hp'; have hel' := encO_len hEn'))))
local macro_rules | `(tactic| walk_at "call ref") => `(tactic| (k_here; (with_reducible show wpAny _ _ (call (Value.ref 300) _) _ _ _); (with_reducible rename Fr _ _ _ _ => F'); (with_reducible rename News _ _ _ _ => N'); k_dflt (refine use (modifier_ok _ _ (by assumption) (by assumption)) F' (by assumption) N' (by assumption) trivial ⟨_, _, rfl⟩ ?_); intro r' h' tk' F' N' kp' hp'; obtain ⟨t', hp'⟩ := hp'; subst hp'))
local macro_rules | `(tactic| walk_at "call ref") => `(tactic| (k_here; (with_reducible show wpAny _ _ (call (Value.ref 35) _) _ _ _); (with_reducible rename Fr _ _ _ _ => F'); (with_reducible rename News _ _ _ _ => N'); k_dflt (first
  | ((rename ToldH _ _ => hH'); refine use (euro_ok _ _ _) F' (by assumption) N' (by assumption) ⟨by omega, (euro_sim (inv_run _ (inv_st0 hH'.hst))).2⟩ ⟨_, _, rfl⟩ ?_)
  | refine use (append_ok _ _ _ _ (modO_ne _)) F' (by assumption) N' (by assumption) (by have := modO_len (j6 (by assumption)); omega) ⟨_, _, rfl⟩ ?_); intro r' h' tk' F' N' kp' hp'; obtain ⟨t', hp'⟩ := hp'; subst hp'))
set_option maxHeartbeats 1000000 in
theorem told_ok (st : Cs) (t : Tok) (l : Addr) (vs : List Value) (xs : List Int) : Cn w mean mg mb 302 7 307 [.str (S st) t, .ref l] (fun h => h.IsList l vs.toArray ∧ IntsAre vs xs ∧ ToldH st xs)
    (fun _ r h' => TextsAt h' r ((outs (st0 st) xs).map S)) := by
  refine enter (binds := [(Str.ofString "start", .str (S st) t), (Str.ofString "deeds", .ref l)]) (by k_is) (by k_is) (by decide) rfl (locs rfl) ?_ rfl rfl rfl (by decide)
  intro fr gd s Q h₀ L m X T pre hm F N ret
  subst hm
  k_fold
  obtain ⟨hl, hi, H⟩ := pre
  repeat' ((fail_if_success (with_reducible show wpAny _ _ (pyIter _) _ _ _)); (first | (k_unfold; (try dsimp only)) | (k_end; wrow_close) | walk1 | (dsimp only; walk1)))
  (rename IntsAre _ _ => hi9)
  (rename Fr _ _ _ _ => F')
  (rename News _ _ _ _ => N')
  with_unfolding_all refine iter_told H (by rfl) (by assumption) hi9 F' N' (by k_mem) (by rfl) (by rfl) ?tt ?dd
  · intro i' x' t' tn' ws' k' u' h' tk' own' hxi' hx0' hx1' hle' hws' hoff' hs' F' N'
    k_steps
    all_goals (
      refine told_end (by assumption) hxi' hs' ?_ (by assumption) (by assumption) (by rfl) (by rfl) (by k_mem) (by (intro p hp; k_ownIn))
      unfold stepT
      (repeat' split)
      all_goals first
        | (exfalso; omega)
        | rfl
        | ((rename (encO _ = some _) => hE); rw [hE]; rfl)
        | ((rename (encO _ = none) => hE); rw [hE]; exact (List.append_nil _).symm))
  · intro ws' k' u' h' tk' hs' F' N'
    k_steps
    exact ret _ _ _ (Fr.keep (by assumption)) ⟨_, _, rfl, News.isList (by assumption) (by k_mem), hs'⟩
end
end Mine
end
section
open PySem PySem.W PySem.Calls PyProof.Rows
set_option maxRecDepth 100000
namespace Mine
section
variable {w : World} {mean : ExcName → Option Value} {mg mb : Str → Option Value}
local macro_rules | `(tactic| walk_at "call builtin:str.join") => `(tactic| (k_here; (with_reducible rename News _ _ _ _ => N'); (rename StrsAre _ _ => hs'); k_dflt (refine join_signs (look (tab _)) _ (look_len _ 6 (by decide) fun p hp => (tab_six _ p hp).2) (by assumption) N' (by k_mem) hs' ?_); intro t' tk'))
local macro_rules | `(tactic| walk_at "getMethod ref") => `(tactic| (k_here; (with_reducible rename News _ _ _ _ => N'); k_dflt (refine getMethod_strTab_get (dictTab N' (by k_mem) (by assumption)) ?_)))
local macro_rules | `(tactic| walk_at "call builtin:dict.get") => `(tactic| (k_here; (with_reducible rename News _ _ _ _ => N'); k_dflt (refine get_sign N' (by k_mem) (by assumption) ?_); intro t'))
set_option maxHeartbeats 400000 in
theorem spelled_ok (x : Cs) (t : Tok) (i : Int) (k : Nat) (hk : k < 5) (hi : i = k) (u : Tok) : Cn w mean mg mb 304 13 279 [.str (S x) t, .int i u] (fun _ => x.length ≤ 2100000) (fun _ r _ => ∃ t', r = .str (S (spell k x)) t') := by
  refine enterC (binds := [(Str.ofString "text", .str (S x) t), (Str.ofString "which", .int i u)]) (by k_is) (by k_is) (by decide) rfl rfl (by decide +kernel) ?_ rfl rfl rfl
  intro fr gd s Q h₀ L m cells X T pre hm F N Y ret
  subst hm
  k_fold
  k_cells Y
  refine wpAny_execs_cons ?_
  refine wpAny_Assign_Name ?_
  refine List_ ?_
  (rename News _ _ _ _ => N)
  have hb := Top.nolimit T
  refine spliced_more ?_
  with_reducible refine dict_lits (tab 0) ?_ F N hb ?_ ?_ ?_ ?_
  · repeat (first | exact Lits.nil | refine Lits.cons (by decide) (by decide) ?_)
  · decide
  · decide
  · decide
  clear F N
  intro d0 h0 o0 tk0 F N l0 D0
  k_lt l0
  refine spliced_more ?_
  with_reducible refine dict_lits (tab 1) ?_ F N hb ?_ ?_ ?_ ?_
  · repeat (first | exact Lits.nil | refine Lits.cons (by decide) (by decide) ?_)
  · decide
  · decide
  · decide
  clear F N
  intro d1 h1 o1 tk1 F N l1 D1
  k_lt l1
  refine spliced_more ?_
  with_reducible refine dict_lits (tab 2) ?_ F N hb ?_ ?_ ?_ ?_
  · repeat (first | exact Lits.nil | refine Lits.cons (by decide) (by decide) ?_)
  · decide
  · decide
  · decide
  clear F N
  intro d2 h2 o2 tk2 F N l2 D2
  k_lt l2
  refine spliced_more ?_
  with_reducible refine dict_lits (tab 3) ?_ F N hb ?_ ?_ ?_ ?_
  · repeat (first | exact Lits.nil | refine Lits.cons (by decide) (by decide) ?_)
  · decide
  · decide
  · decide
  clear F N
  intro d3 h3 o3 tk3 F N l3 D3
  k_lt l3
  refine spliced_more ?_
  with_reducible refine dict_lits (tab 4) ?_ F N hb ?_ ?_ ?_ ?_
  · repeat (first | exact Lits.nil | refine Lits.cons (by decide) (by decide) ?_)
  · decide
  · decide
  · decide
  clear F N
  intro d4 h4 o4 tk4 F N l4 D4
  k_lt l4
  refine spliced_none ?_
  with_reducible refine newList_K F N ?_
  clear F N
  intro lt ht F N lt1
  k_lt lt1
  dsimp only
  repeat' ((fail_if_success (with_reducible show wpAny _ _ (eval (Expr.ListComp _ _ _ _) _) _ _ _)); (first | (k_unfold; (try dsimp only)) | (k_end; wrow_close) | walk1 | (dsimp only; walk1)))
  (rename Fr _ _ _ _ => F)
  (rename News _ _ _ _ => N)
  refine comp_signs (t := t) x (look (tab k)) (by rfl) F N (by omega) ?_ (by with_unfolding_all rfl) (by decide) (by rfl) (by decide) (by rfl) ?_ ?_ (by intro _; with_unfolding_all rfl)
  · intro Q' hq
    exact ldLoc F rfl hq
  · intro c u' I' oI C' oC D' m₂ ys h' tk' E' hc hC hx F' N' off ne
    have h5 : (i = 0 ∧ k = 0) ∨ (i = 1 ∧ k = 1) ∨ (i = 2 ∧ k = 2) ∨ (i = 3 ∧ k = 3) ∨ (i = 4 ∧ k = 4) := by omega
    rcases h5 with ⟨rfl, rfl⟩ | ⟨rfl, rfl⟩ | ⟨rfl, rfl⟩ | ⟨rfl, rfl⟩ | ⟨rfl, rfl⟩
    all_goals (
      k_steps
      exact LCg.CompEnd.intro (by assumption) (by assumption) _ (fun p hp => hp) (by assumption) trivial ⟨rfl, _, rfl⟩)
  · intro D h' tk' ys hs F' N'
    k_steps
    exact ret _ _ _ (Fr.keep (by assumption)) ⟨_, rfl⟩
end
end Mine
end
section
open PySem PySem.W PySem.Calls PyProof.Rows
set_option maxRecDepth 100000
namespace Mine
section
variable {prog : Program} {w : World} {A : Around} {E : Value → Shared → Prop} {s : Shared} {env : Env} {h₀ : Heap} {body : List Stmt} {Q : Flow → Shared → Prop}
/-- a turn's end, its ledger kept -/
def TurnE (h₀ : Heap) (L : Addr) (own : List (Addr × Obj)) (J : (Str → Option Value) → Prop) (s₁ : Shared) (f : Flow) (s₂ : Shared) : Prop :=
  f = .next ∧ ∃ h' tk' m', s₂ = { s₁ with heap := h', toks := tk' } ∧ Fr h₀ L h' m' ∧ News h₀ L h' own ∧ J m'
theorem TurnE.intro {L : Addr} {own news' : List (Addr × Obj)} {J : (Str → Option Value) → Prop} {s₁ : Shared} {h' : Heap} {tk : Nat} {m' : Str → Option Value} (F : Fr h₀ L h' m') (N : News h₀ L h' news') (hs : ∀ p ∈ own, p ∈ news') (hj : J m') : TurnE h₀ L own J s₁ .next { s₁ with heap := h', toks := tk } :=
  ⟨rfl, h', tk, m', rfl, F, fun p hp => N p (hs p hp), hj⟩
/-- a loop over a list of the base heap, its target any -/
theorem iter_listT {target : Expr} {l : Addr} {vs : List Value} {m₀ : Str → Option Value} (J : Nat → (Str → Option Value) → Prop)
    (hh : A.handled = none) (hl : h₀.IsList l vs.toArray) (F : Fr h₀ env.locals s.heap m₀) (h0 : J 0 m₀)
    (turn : ∀ i v m₁ (s₁ : Shared) own, vs[i]? = some v → J i m₁ → Fr h₀ env.locals s₁.heap m₁ → News h₀ env.locals s₁.heap own →
      wpAny (model prog w) A (assign target env v) (fun _ s₃ => wpAny (model prog w) A (execs body env) (TurnE h₀ env.locals own (J (i + 1)) s₁) E s₃) E s₁)
    (done : ∀ m₁ h tk, J vs.length m₁ → Fr h₀ env.locals h m₁ → Q .next { s with heap := h, toks := tk }) :
    wpAny (model prog w) A (pyIter (.ref l)) (fun it s₂ => LoopAtT prog w A h₀ env target body Q E it s₂) E s := by
  have hls : s.heap.IsList l vs.toArray := hl.at fun o e => F.keep l o e
  obtain ⟨ol, hol, _⟩ := id hl
  have hlt : l < h₀.objs.size := Heap.lt_size hol
  have hne : l ≠ s.heap.objs.size := Nat.ne_of_lt (Nat.lt_trans (Nat.lt_of_lt_of_le hlt F.above) F.ns.lt)
  refine wpAny_pyIter_list hls ?_
  have Wk := Walks.list (prog := prog) (w := w) hh s.heap.objs.size l hne vs.toArray
  have hlen : vs.toArray.size = vs.length := by simp
  rw [hlen] at Wk
  refine ⟨_, _, _, vs.length, _, _, m₀, [], fun i m nx => nx = [] ∧ J i m, rfl, Wk, ?_, ?_, (fun _ hp => nomatch hp), ⟨⟨_, Heap.get?_push_size _ rfl, rfl, rfl⟩, hls.at fun o e => Heap.get?_push_of_some _ e⟩, F.push _, News.nil, (fun i s' v Q' st hQ' => letGo_listiter st.1 hQ'), ⟨rfl, h0⟩, ?_, ?_⟩
  · intro hm
    rcases List.mem_cons.mp hm with e | hm
    · exact absurd F.ns.lt (e ▸ Nat.lt_irrefl _)
    · exact absurd (Nat.lt_of_lt_of_le hlt F.above) ((List.mem_singleton.mp hm) ▸ Nat.lt_irrefl _)
  · intro b hb
    rw [List.mem_singleton.mp hb]
    exact next_is_new F
  · rintro i v m₁ news₁ s₁ own hin hP ⟨rfl, hJ⟩ hoff hown _ _ _ F₁ N₁
    rw [List.append_nil] at N₁
    refine wpAny_mono (turn i v m₁ s₁ own (by simpa using hP) hJ F₁ N₁) (fun _ s₃ h₃ => wpAny_mono h₃ (fun f s₂ p => ?_) fun _ _ e => e) fun _ _ e => e
    obtain ⟨rfl, h', tk', m', rfl, F', N', hJ'⟩ := p
    exact ⟨rfl, h', tk', m', [], rfl, F', by rw [List.append_nil]; exact N', (fun _ hp => nomatch hp), rfl, hJ'⟩
  · rintro h' tk m' news' F' N' _ ⟨_, hJ⟩
    exact done m' h' tk hJ F'
/-- a loop over a list of the ledger that no turn changes, its target a name -/
theorem iter_listV {x : Str} {l : Addr} {vs : List Value} {k : Nat} {m₀ : Str → Option Value} {news : List (Addr × Obj)} (J : Nat → (Str → Option Value) → Prop)
    (hh : A.handled = none) (hm : (l, ({ cls := .type "list", data := .seq (List.toArray vs) k } : Obj)) ∈ news) (F : Fr h₀ env.locals s.heap m₀) (N : News h₀ env.locals s.heap news) (h0 : J 0 m₀)
    (turn : ∀ i v m₁ h tk own, vs[i]? = some v → J i m₁ → Fr h₀ env.locals h (fun y => if y = x then some v else m₁ y) → News h₀ env.locals h (own ++ news) →
      wpAny (model prog w) A (execs body env) (TurnE h₀ env.locals (own ++ news) (J (i + 1)) { s with heap := h, toks := tk }) E { s with heap := h, toks := tk })
    (done : ∀ m₁ h tk, J vs.length m₁ → Fr h₀ env.locals h m₁ → News h₀ env.locals h news → Q .next { s with heap := h, toks := tk }) :
    wpAny (model prog w) A (pyIter (.ref l)) (fun it s₂ => LoopAtV prog w A h₀ env x body Q E it s₂) E s := by
  have hls : s.heap.IsList l vs.toArray := N.isList hm
  have hg := N _ hm
  have hlt : l < s.heap.objs.size := Heap.lt_size hg.1
  have hne : l ≠ s.heap.objs.size := Nat.ne_of_lt hlt
  refine wpAny_pyIter_list hls ?_
  have Wk := Walks.list (prog := prog) (w := w) hh s.heap.objs.size l hne vs.toArray
  have hlen : vs.toArray.size = vs.length := by simp
  rw [hlen] at Wk
  refine ⟨_, _, _, vs.length, _, _, m₀, news, fun i m nx => nx = news ∧ J i m, rfl, Wk, ?_, ?_, ?_, ⟨⟨_, Heap.get?_push_size _ rfl, rfl, rfl⟩, hls.at fun o e => Heap.get?_push_of_some _ e⟩, F.push _, (fun p hp => ⟨Heap.get?_push_of_some _ (N p hp).1, (N p hp).2⟩), ⟨rfl, h0⟩, ?_, ?_⟩
  · intro hm
    rcases List.mem_cons.mp hm with e | hm
    · exact absurd F.ns.lt (e ▸ Nat.lt_irrefl _)
    · exact hg.2.1 (List.mem_singleton.mp hm).symm
  · intro b hb
    rw [List.mem_singleton.mp hb]
    exact next_is_new F
  · intro p hp hI
    exact absurd (Heap.lt_size (N p hp).1) ((List.mem_singleton.mp hI) ▸ Nat.lt_irrefl _)
  · rintro i v m₁ news₁ s₁ own ⟨hh', tk', rfl⟩ hin hP ⟨rfl, hJ⟩ hoff _ _ _ _ F₁ N₁
    refine wpAny_mono (turn i v m₁ hh' tk' own (by simpa using hP) hJ F₁ N₁) (fun f s₂ p => ?_) fun _ _ e => e
    obtain ⟨rfl, h', tk, m', rfl, F', N', hJ'⟩ := p
    exact .next ⟨rfl, h', tk, m', _, rfl, F', N', hoff, rfl, hJ'⟩
  · rintro h' tk m' news' F' N' _ ⟨rfl, hJ⟩
    exact done m' h' tk hJ F' N'
end
end Mine
end
section
open PySem PySem.W PySem.Calls PyProof.Rows
set_option maxRecDepth 100000
namespace Mine
def PieceAt (h : Heap) (v : Value) (p : Cs × Nat) : Prop := ∃ b t u, v = .ref b ∧ h.IsList b [.str (S p.1) t, .int p.2 u].toArray
inductive PiecesAre (h : Heap) : List Value → List (Cs × Nat) → Prop
  | nil : PiecesAre h [] []
  | cons {v : Value} {p : Cs × Nat} {vs : List Value} {ps : List (Cs × Nat)} : PieceAt h v p → PiecesAre h vs ps → PiecesAre h (v :: vs) (p :: ps)
theorem PieceAt.keeps {h h' : Heap} {v : Value} {p : Cs × Nat} (x : PieceAt h v p) (k : Kp h h') : PieceAt h' v p :=
  let ⟨b, t, u, e, hl⟩ := x; ⟨b, t, u, e, hl.at fun o e => k b o e⟩
theorem PiecesAre.keeps {h h' : Heap} (k : Kp h h') : ∀ {vs : List Value} {ps : List (Cs × Nat)}, PiecesAre h vs ps → PiecesAre h' vs ps
  | _, _, .nil => .nil
  | _, _, .cons x r => .cons (x.keeps k) (r.keeps k)
theorem PiecesAre.length {h : Heap} : ∀ {vs : List Value} {ps : List (Cs × Nat)}, PiecesAre h vs ps → vs.length = ps.length
  | _, _, .nil => rfl
  | _, _, .cons _ r => congrArg (· + 1) r.length
theorem PiecesAre.get {h : Heap} : ∀ {vs : List Value} {ps : List (Cs × Nat)}, PiecesAre h vs ps → ∀ {i : Nat} {v : Value}, vs[i]? = some v → ∃ p, ps[i]? = some p ∧ PieceAt h v p
  | _, _, .nil, _, _, e => by simp at e
  | _, _, .cons x r, 0, _, e => by simp at e; subst e; exact ⟨_, rfl, x⟩
  | _, _, .cons x r, i + 1, _, e => by simpa using r.get (by simpa using e)
theorem PiecesAre.snoc {h : Heap} {v : Value} {p : Cs × Nat} (x : PieceAt h v p) : ∀ {vs : List Value} {ps : List (Cs × Nat)}, PiecesAre h vs ps → PiecesAre h (vs ++ [v]) (ps ++ [p])
  | _, _, .nil => .cons x .nil
  | _, _, .cons y r => .cons y (r.snoc x)
theorem map2 {m : Str → Option Value} {x y : Str} {v u : Value} (hx : m x = some v) (hy : m y = some u) : m = fun z => if z = x then some v else if z = y then some u else m z := by
  funext z
  by_cases h1 : z = x
  · subst h1; simp [hx]
  · simp only [if_neg h1]
    by_cases h2 : z = y
    · subst h2; simp [hy]
    · simp only [if_neg h2]
theorem map3 {m : Str → Option Value} {x y z : Str} {v u r : Value} (hx : m x = some v) (hy : m y = some u) (hz : m z = some r) : m = fun q => if q = x then some v else if q = y then some u else if q = z then some r else m q := by
  funext q
  by_cases h1 : q = x
  · subst h1; simp [hx]
  · simp only [if_neg h1]
    by_cases h2 : q = y
    · subst h2; simp [hy]
    · simp only [if_neg h2]
      by_cases h3 : q = z
      · subst h3; simp [hz]
      · simp only [if_neg h3]
theorem lay_ge : ∀ (ks : List Nat) (t : Cs), t.length ≤ (lay ks t).length
  | [], _ => Nat.le_refl _
  | k :: r, t => Nat.le_trans (spell_ge k t) (lay_ge r (spell k t))
theorem lay_take_le (ks : List Nat) (t : Cs) (j : Nat) : (lay (ks.take j) t).length ≤ (lay ks t).length := by
  have e : lay ks t = lay (ks.drop j) (lay (ks.take j) t) := by
    have h := List.take_append_drop j ks
    show _ = (ks.drop j).foldl _ ((ks.take j).foldl _ t)
    rw [← List.foldl_append, h]; rfl
  rw [e]
  exact lay_ge _ _
theorem lay_succ {ks : List Nat} {j k : Nat} (h : ks[j]? = some k) (t : Cs) : lay (ks.take (j + 1)) t = spell k (lay (ks.take j) t) := by
  rw [List.take_add_one, h]
  exact lay_snoc _ _ _
theorem writ_succ {ps : List (Cs × Nat)} {ls : List Nat} {i : Nat} {p : Cs × Nat} (h : ps[i]? = some p) : writ (ps.take (i + 1)) ls = writ (ps.take i) ls ++ lay (ls.drop p.2) p.1 := by
  rw [List.take_add_one, h]
  show writ (ps.take i ++ [p]) ls = _
  rw [writ_append, writ_cons]; simp [writ]
theorem writ_take_le (ps : List (Cs × Nat)) (ls : List Nat) (i : Nat) : (writ (ps.take i) ls).length ≤ (writ ps ls).length := by
  have h := congrArg (fun q => (writ q ls).length) (List.take_append_drop i ps)
  simp only [writ_append, List.length_append] at h
  omega
theorem ints_get {vs : List Value} {ls : List Nat} (h : IntsAre vs (ls.map fun k : Nat => (k : Int))) {j : Nat} {v : Value} (e : vs[j]? = some v) : ∃ k t, ls[j]? = some k ∧ v = .int (k : Int) t := by
  obtain ⟨n, t, hv, hn⟩ := IntsAre.at h j v e
  rw [List.getElem?_map] at hn
  cases hk : ls[j]? with
  | none => rw [hk] at hn; cases hn
  | some k => rw [hk] at hn; cases hn; exact ⟨k, t, rfl, hv⟩
structure WPre (h : Heap) (a la : Addr) (ps : List (Cs × Nat)) (ls : List Nat) (vs lvs : List Value) : Prop where
  list : h.IsList a vs.toArray
  pieces : PiecesAre h vs ps
  layl : h.IsList la lvs.toArray
  lays : IntsAre lvs (ls.map fun k : Nat => (k : Int))
  five : ∀ k ∈ ls, k < 5
  since : ∀ p ∈ ps, p.2 ≤ ls.length
  seven : ls.length ≤ 7
  len : (writ ps ls).length ≤ 2100000
section
variable {w : World} {mean : ExcName → Option Value} {mg mb : Str → Option Value}
local macro_rules | `(tactic| walk_at "pad E8 0") => `(tactic| skip)
local macro_rules | `(tactic| walk_at "binaryOp Add str str") => `(tactic| (k_here; k_dflt (refine add_str (hsz := ?hsz) ?_; (case hsz => (simp only [len_S, PySem.sizeLine_eq]; omega))); intro t' tk'))
local macro_rules | `(tactic| walk_at "call ref") => `(tactic| (k_here; (with_reducible show wpAny _ _ (call (Value.ref 279) _) _ _ _); (with_reducible rename Fr _ _ _ _ => F'); (with_reducible rename News _ _ _ _ => N'); k_dflt (refine use (spelled_ok _ _ _ _ (by assumption) rfl _) F' (by assumption) N' (by assumption) (by assumption) ⟨_, _, rfl⟩ ?_); intro r' h' tk' F' N' kp' hp'; obtain ⟨t', hp'⟩ := hp'; subst hp'))
local macro_rules | `(tactic| walk_at "exec For") => `(tactic| (k_here; (with_reducible rename Fr _ _ _ _ => F'); (with_unfolding_all refine For_invVF F' (by rfl) (by rfl) ?_)))
set_option maxHeartbeats 400000 in
theorem written_ok (a la : Addr) (ps : List (Cs × Nat)) (ls : List Nat) (vs lvs : List Value) : Cn w mean mg mb 303 10 319 [.ref a, .ref la] (fun h => WPre h a la ps ls vs lvs) (fun _ r _ => ∃ t', r = .str (S (writ ps ls)) t') := by
  refine enter (binds := [(Str.ofString "pieces", .ref a), (Str.ofString "layers", .ref la)]) (by k_is) (by k_is) (by decide) rfl (locs rfl) ?_ rfl rfl rfl (by decide)
  intro fr gd s Q h₀ L m X T pre hm F N ret
  subst hm
  k_fold
  obtain ⟨hl, hp, hll, hli, h5, hsi, h7, hlen⟩ := pre
  repeat' ((fail_if_success (with_reducible show wpAny _ _ (pyIter _) _ _ _)); (first | (k_unfold; (try dsimp only)) | (k_end; wrow_close) | walk1 | (dsimp only; walk1)))
  (rename Fr _ _ _ _ => F)
  (rename News _ _ _ _ => N)
  refine For_invTF F ?_ (by intro _; with_unfolding_all rfl)
  refine ld F rfl ?_
  refine iter_listT (fun i m => (∃ t, m (Str.ofString "whole") = some (.str (S (writ (ps.take i) ls)) t)) ∧ m (Str.ofString "layers") = some (.ref la)) (by rfl) hl F ⟨⟨_, by simp only [List.take_zero, writ_nil, ← lit_empty]; rfl⟩, rfl⟩ ?_ ?_
  · rintro i v m₁ s₁ own hv ⟨⟨tw, hw⟩, hla⟩ F' N'
    obtain ⟨p, hpi, b, tb, ub, rfl, hb⟩ := hp.get hv
    rw [map2 hw hla] at F'
    have hb' : s₁.heap.IsList b [.str (S p.1) tb, .int p.2 ub].toArray := hb.at fun o e => F'.keep b o e
    repeat' ((fail_if_success (with_reducible show wpAny _ _ (subscriptTail _ _ _ _) _ _ _)); (first | (k_unfold; (try dsimp only)) | (k_end; wrow_close) | walk1 | (dsimp only; walk1)))

    (rename Fr _ _ _ _ => F)
    (rename News _ _ _ _ => N)
    refine slice_list F N (hll.at fun o e => F.keep la o e) (IsPart.int _ _) IsPart.none ?_ ?_ ?_ ?_
    · clear F N
      intro h₂ F N
      have hpm : p ∈ ps := List.mem_of_getElem? hpi
      have hI := slice_ints_from hli (x := (p.2 : Int)) (Int.natCast_nonneg _) (by rw [List.length_map]; exact Int.ofNat_le.mpr (hsi p hpm))
      have hI' : IntsAre (slicePick lvs.toArray (some (p.2 : Int)) none none).toList ((ls.drop p.2).map fun k : Nat => (k : Int)) := by
        rw [Int.toNat_natCast, ← List.map_drop] at hI; exact hI
      have hlay : (lay (ls.drop p.2) p.1).length ≤ 2100000 := by
        have h1 := writ_take_le ps ls (i + 1)
        rw [writ_succ hpi, List.length_append] at h1
        omega
      generalize hA : slicePick lvs.toArray (some (p.2 : Int)) none none = arr at N hI'
      obtain ⟨ws⟩ := arr
      refine iter_listV (vs := ws) (fun j m => (∃ t, m (Str.ofString "text") = some (.str (S (lay ((ls.drop p.2).take j) p.1)) t)) ∧ (∃ t, m (Str.ofString "whole") = some (.str (S (writ (ps.take i) ls)) t)) ∧ m (Str.ofString "layers") = some (.ref la)) (by rfl) (List.Mem.head _) F N ⟨⟨_, rfl⟩, ⟨_, rfl⟩, rfl⟩ ?_ ?_
      · clear F N
        rintro j v m₂ h₃ tk₃ own₃ hv ⟨⟨tt, ht⟩, ⟨tw', hw'⟩, hla'⟩ F N
        obtain ⟨kn, tn, hkn, rfl⟩ := ints_get hI' hv
        rw [map3 ht hw' hla'] at F
        have hk5 : kn < 5 := h5 kn (List.mem_of_mem_drop (List.mem_of_getElem? hkn))
        have hle := Nat.le_trans (lay_take_le (ls.drop p.2) p.1 j) hlay
        k_steps
        exact TurnE.intro (by assumption) (by assumption) (fun p hp => hp) ⟨⟨_, by rw [lay_succ hkn]; rfl⟩, ⟨_, rfl⟩, rfl⟩
      · clear F N
        rintro m₂ h₃ tk₃ ⟨⟨tt, ht⟩, ⟨tw', hw'⟩, hla'⟩ F N
        have hwl : ws.length = (ls.drop p.2).length := by have h9 := hI'.length; rw [List.length_map] at h9; exact h9
        rw [hwl, List.take_length] at ht
        rw [map3 ht hw' hla'] at F
        have hsum : (writ (ps.take i) ls).length + (lay (ls.drop p.2) p.1).length ≤ 2100000 := by
          have h1 := writ_take_le ps ls (i + 1)
          rw [writ_succ hpi, List.length_append] at h1
          omega
        k_steps
        refine TurnE.intro (by assumption) (by assumption) (fun p hp => List.Mem.tail _ hp) ?_
        exact ⟨⟨_, by rw [writ_succ hpi, ← app_S]; rfl⟩, rfl⟩
    · with_unfolding_all rfl
    · intro _; with_unfolding_all rfl
    · rw [List.size_toArray, hli.length, List.length_map, PySem.sizeLine_eq]; omega
  · clear F N
    rintro m₁ h₃ tk₃ ⟨⟨tw, hw⟩, hla⟩ F
    have N : News h₀ (envOf (Str.ofString "_law_written") { kind := ScopeKind.function, names := [], isGenerator := false, isCoroutine := false } L 319 (Value.ref 318)).locals h₃ [] := News.nil
    rw [map2 hw hla, hp.length, List.take_length] at F
    k_steps
    exact ret _ _ _ (Fr.keep (by assumption)) ⟨_, rfl⟩
end
end Mine
end
section
open PySem PySem.W PySem.Calls PyProof.Rows
set_option maxRecDepth 100000
namespace Mine
section
variable {prog : Program} {w : World} {A : Around} {E : Value → Shared → Prop} {s : Shared} {h₀ : Heap} {L : Addr} {m : Str → Option Value} {env : Env} {ct elt : Expr} {x : Str} {scope : Scope} {cl : List (Str × Addr)} {news : List (Addr × Obj)}
theorem ints_snoc {y : Int} {t : Tok} : ∀ {vs : List Value} {ys : List Int}, IntsAre vs ys → IntsAre (vs ++ [.int y t]) (ys ++ [y])
  | _, _, .nil => .cons y t .nil
  | _, _, .cons z u r => .cons z u (ints_snoc r)
theorem rest_test {s₂ : Shared} {S' : List (Addr × Obj) → Prop} {Fin : List Value → List (Addr × Obj) → Prop} (n : Nat) (g : Nat → Bool)
    (turn : ∀ (i : Nat) t I oI C oC D m₂ ys h tk (E' : Value → Shared → Prop), i < n → LCg.NsObj oC m₂ → m₂ x = some (.int (i : Int) t) → Fr h₀ L h m → News h₀ L h ((I, oI) :: (C, oC) :: (D, LCg.lst ys) :: news) → LCg.Off3 I C D news → ((@Ne Nat I C) ∧ (@Ne Nat I D) ∧ (@Ne Nat C D)) →
      wpAny (model prog w) A (isTrue ct (compEnvC scope cl C env) (eval ct (compEnvC scope cl C env))) (fun ok s' => if ok = true then
        wpAny (model prog w) A (eval elt (compEnvC scope cl C env)) (LCg.CompEnd h₀ L m { s₂ with heap := h, toks := tk } I oI C oC D (LCg.lst ys) S' (fun v news' => news' = news ∧ g i = true ∧ ∃ t : Tok, v = .int (i : Int) t)) E' s'
        else LCg.CompEnd h₀ L m { s₂ with heap := h, toks := tk } I oI C oC D (LCg.lst ys) S' (fun _ news' => news' = news ∧ g i = false) Value.none s') E' { s₂ with heap := h, toks := tk })
    (fin : ∀ ys, IntsAre ys (((List.range n).filter g).map fun k : Nat => (k : Int)) → Fin ys news) : LCt.CompRestT prog w A h₀ L m env ct elt x scope cl s₂ S' (fun i v => ∃ t, v = .int (0 + (i : Int)) t) Fin n 0 [] news := by
  have key : ∀ (j i : Nat) (ys : List Value), i + j = n → IntsAre ys (((List.range i).filter g).map fun k : Nat => (k : Int)) → LCt.CompRestT prog w A h₀ L m env ct elt x scope cl s₂ S' (fun i v => ∃ t, v = .int (0 + (i : Int)) t) Fin j i ys news := by
    intro j
    induction j with
    | zero =>
      intro i ys hi hy
      have e : i = n := by omega
      subst e
      exact LCt.CompRestT.zero (fin ys hy)
    | succ j ih =>
      intro i ys hi hy
      refine LCt.CompRestT.succ ?_
      intro v I oI C oC D m₂ h tk E' hv hC hx F N off ne
      obtain ⟨t, rfl⟩ := hv
      rw [Int.zero_add] at hx
      refine wpAny_mono (turn i t I oI C oC D m₂ ys h tk E' (by omega) hC hx F N off ne) (fun ok s₃ h₃ => ?_) fun _ _ e => e
      cases ok with
      | true =>
        simp only [if_true] at h₃ ⊢
        refine wpAny_mono h₃ (fun v s₄ hq => ?_) fun _ _ e => e
        obtain ⟨h', tk', nw, e, F', N', off', hS, hn, hg, t', hy'⟩ := hq
        rw [hn] at N' off' hS
        refine ⟨h', tk', news, e, F', N', off', hS, ?_⟩
        rw [hy']
        refine ih (i + 1) _ (by omega) ?_
        rw [List.range_succ, List.filter_append, List.map_append]
        simp only [List.filter_cons, hg, if_true, List.filter_nil, List.map_cons, List.map_nil]
        exact ints_snoc hy
      | false =>
        simp only [Bool.false_eq_true, if_false] at h₃ ⊢
        obtain ⟨h', tk', nw, e, F', N', off', hS, hn, hg⟩ := h₃
        rw [hn] at N' off' hS
        refine ⟨h', tk', news, e, F', N', off', hS, ?_⟩
        refine ih (i + 1) _ (by omega) ?_
        rw [List.range_succ, List.filter_append, List.map_append]
        simp only [List.filter_cons, hg, Bool.false_eq_true, if_false, List.filter_nil, List.map_nil, List.append_nil]
        exact hy
  exact key n 0 [] (by omega) .nil
end
section
variable {prog : Program} {w : World} {A : Around} {E : Value → Shared → Prop} {s : Shared} {h₀ : Heap} {L l : Addr} {m : Str → Option Value} {vs : List Value} {Q : Value → Shared → Prop}
theorem item_base {value slice : Expr} {k : Int} {t : Tok} {v : Value} {ops : List Value} (F : Fr h₀ L s.heap m) (hl : h₀.IsList l vs.toArray) (h0 : 0 ≤ k) (hfit : k < 2 ^ 63) (hx : vs[k.toNat]? = some v) (h : Q v s)
    (hs : subscripted slice false (.ref l) (.int k t) = operate ops (getItem (.ref l) (.int k t))) : wpAny (model prog w) A (subscriptTail value slice (.ref l) (.int k t)) Q E s :=
  have hl' : s.heap.IsList l vs.toArray := hl.at fun o e => F.keep l o e
  tail_any hl'.typeIs slot_list_getitem.lookup (wpAny_getItem_list hl' h0 hfit (by simpa using hx) h) hs
theorem item_neg {value slice : Expr} {t : Tok} {v : Value} {ops : List Value} (F : Fr h₀ L s.heap m) (hl : h₀.IsList l vs.toArray) (hx : vs.getLast? = some v) (h : Q v s)
    (hs : subscripted slice false (.ref l) (.int (-1) t) = operate ops (getItem (.ref l) (.int (-1) t))) : wpAny (model prog w) A (subscriptTail value slice (.ref l) (.int (-1) t)) Q E s := by
  have hl' : s.heap.IsList l vs.toArray := hl.at fun o e => F.keep l o e
  rw [List.getLast?_eq_getElem?] at hx
  have hlt : vs.length - 1 < vs.length := (List.getElem?_eq_some_iff.mp hx).1
  have e : ((-1 : Int) + ((List.toArray vs).size : Int)).toNat = vs.length - 1 := by rw [List.size_toArray]; omega
  exact tail_any hl'.typeIs slot_list_getitem.lookup (wpAny_getItem_list_neg hl' (by decide) (by rw [List.size_toArray]; omega) (by decide) (by rw [e]; simpa using hx) h) hs
theorem len_base {n : Nat} (F : Fr h₀ L s.heap m) (hl : h₀.IsList l vs.toArray) (hn : vs.length = n) (hfit : n ≤ 1000) (h : ∀ t tk, Q (.int n t) { s with toks := tk }) : wpAny (model prog w) A (call (.builtin "len") [.ref l]) Q E s := by
  have hl' : s.heap.IsList l vs.toArray := hl.at fun o e => F.keep l o e
  have e : (List.toArray vs).size = n := by rw [List.size_toArray]; exact hn
  exact call_len_list hl' (by rw [e]; omega) (by rw [e]; exact h _ _)
end
theorem PiecesAre.at {h : Heap} : ∀ {vs : List Value} {ps : List (Cs × Nat)}, PiecesAre h vs ps → ∀ {i : Nat} {p : Cs × Nat}, ps[i]? = some p → ∃ v, vs[i]? = some v ∧ PieceAt h v p
  | _, _, .nil, _, _, e => by simp at e
  | _, _, .cons x r, 0, _, e => by simp at e; subst e; exact ⟨_, rfl, x⟩
  | _, _, .cons x r, i + 1, _, e => by simpa using r.at (by simpa using e)
theorem slice1 (l : Cs) : Txt.slice (S l) none (some 1) = S (l.take 1) := by
  cases l with
  | nil => decide
  | cons d r =>
    have h := slice_closes_to (x := S (d :: r)) (j := 1) ⟨by decide, by simp; omega⟩
    rw [eq_of_beq h]
    rfl
theorem test_dot (l : Cs) : (Txt.slice (S l) none (some 1) == Str.ofString ".") = (l.head? == some 46) := by
  rw [slice1, lit_dot, S_beq]
  cases l with
  | nil => rfl
  | cons d r =>
    by_cases h : d = 46
    · subst h; simp
    · rw [decide_eq_false (by simpa using h)]
      exact (beq_eq_false_iff_ne.mpr (by simpa using h)).symm
def dotAt (ps : List (Cs × Nat)) (k : Nat) : Bool := match ps[k]? with | some p => dots p | none => false
abbrev dl (ps : List (Cs × Nat)) : List Nat := (List.range ps.length).filter (dotAt ps)
theorem all_dots (ps : List (Cs × Nat)) : (ps.all fun p => !dots p) = true ↔ ∀ k, k < ps.length → dotAt ps k = false := by
  rw [List.all_eq_true]
  constructor
  · intro h k hk
    have := h ps[k] (List.getElem_mem hk)
    unfold dotAt
    rw [List.getElem?_eq_getElem hk]
    simpa using this
  · intro h p hp
    obtain ⟨k, hk, rfl⟩ := List.mem_iff_getElem.mp hp
    have := h k hk
    unfold dotAt at this
    rw [List.getElem?_eq_getElem hk] at this
    simpa using this
theorem dl_nil (ps : List (Cs × Nat)) : dl ps = [] ↔ (ps.all fun p => !dots p) = true := by
  rw [all_dots, List.filter_eq_nil_iff]
  constructor
  · intro h k hk
    have := h k (List.mem_range.mpr hk)
    simpa using this
  · intro h k hk
    rw [h k (List.mem_range.mp hk)]; simp
theorem dl_cons {ps : List (Cs × Nat)} {d : Nat} {r : List Nat} (h : dl ps = d :: r) : d < ps.length ∧ dotAt ps d = true ∧ ∀ k, k < d → dotAt ps k = false := by
  obtain ⟨l₁, l₂, e, h1, h2, _⟩ := List.filter_eq_cons_iff.mp h
  have hlen := congrArg List.length e
  rw [List.length_range, List.length_append, List.length_cons] at hlen
  have hget : ∀ k, k < ps.length → (l₁ ++ d :: l₂)[k]? = some k := by
    intro k hk
    rw [← e]
    simp [hk]
  have hd : l₁.length = d := by
    have := hget l₁.length (by omega)
    rw [List.getElem?_append_right (Nat.le_refl _)] at this
    simpa using this.symm
  refine ⟨by omega, h2, fun k hk => ?_⟩
  have := hget k (by omega)
  rw [List.getElem?_append_left (by omega)] at this
  have := h1 k (List.mem_of_getElem? this)
  simpa using this
theorem dropLast_dots (ps : List (Cs × Nat)) : (ps.dropLast.all fun p => !dots p) = true ↔ ∀ k, k < ps.length - 1 → dotAt ps k = false := by
  rw [all_dots, List.length_dropLast]
  have e : ∀ k, k < ps.length - 1 → dotAt ps.dropLast k = dotAt ps k := by
    intro k hk
    unfold dotAt
    rw [List.getElem?_dropLast, if_pos hk]
  exact ⟨fun h k hk => (e k hk).symm.trans (h k hk), fun h k hk => (e k hk).trans (h k hk)⟩
theorem map_nil_iff (l : List Nat) : (l.map fun k : Nat => (k : Int)) = [] ↔ l = [] := by simp
theorem euro_a {ps : List (Cs × Nat)} (h : decide (((dl ps).map fun k : Nat => (k : Int)) = []) = true) : euroP ps = 46 :: iso15 := by
  unfold euroP
  rw [if_pos ((dl_nil ps).mp ((map_nil_iff _).mp (of_decide_eq_true h)))]
theorem euro_first {ps : List (Cs × Nat)} (h : decide (((dl ps).map fun k : Nat => (k : Int)) = []) = false) : ¬ (ps.all fun p => !dots p) = true ∧ ((((dl ps).map fun k : Nat => (k : Int)).getD (Int.toNat 0) 0 = (ps.length : Int) - 1) ↔ (ps.dropLast.all fun p => !dots p) = true) := by
  have hn : dl ps ≠ [] := fun e => of_decide_eq_false h ((map_nil_iff _).mpr e)
  refine ⟨fun q => hn ((dl_nil ps).mpr q), ?_⟩
  cases hd : dl ps with
  | nil => exact absurd hd hn
  | cons d r =>
    obtain ⟨h1, h2, h3⟩ := dl_cons hd
    rw [dropLast_dots]
    show ((d : Int) = (ps.length : Int) - 1) ↔ _
    constructor
    · intro e k hk
      exact h3 k (by omega)
    · intro q
      by_cases hlt : d < ps.length - 1
      · rw [q d hlt] at h2; cases h2
      · omega
theorem any_two' {x : Cs} {b : Bool} (h : ([Str.ofString ".ISO8859-15", Str.ofString ".UTF-8"].any fun y => y == S x) = b) : (x = 46 :: iso15 ∨ x = 46 :: utf8) ↔ b = true := by
  rw [show Str.ofString ".ISO8859-15" = S (46 :: iso15) from lit_iso, show Str.ofString ".UTF-8" = S (46 :: utf8) by decide] at h
  simp only [List.any_cons, List.any_nil, S_beq, Bool.or_false] at h
  subst h
  simp only [Bool.or_eq_true, decide_eq_true_eq]
  exact ⟨fun q => q.imp Eq.symm Eq.symm, fun q => q.imp Eq.symm Eq.symm⟩
theorem euro_b {ps : List (Cs × Nat)} {pl : Cs × Nat} (h : decide (((dl ps).map fun k : Nat => (k : Int)) = []) = false) (h1 : ((dl ps).map fun k : Nat => (k : Int)).getD (Int.toNat 0) 0 = (ps.length : Int) - 1) (hl : ps.getLast? = some pl)
    (h2 : ([Str.ofString ".ISO8859-15", Str.ofString ".UTF-8"].any fun y => y == S pl.1) = true) : euroP ps = [] := by
  obtain ⟨n1, n2⟩ := euro_first h
  unfold euroP
  rw [if_neg n1, if_pos ⟨n2.mp h1, pl, hl, (any_two' h2).mpr rfl⟩]
theorem euro_c {ps : List (Cs × Nat)} {pl : Cs × Nat} (h : decide (((dl ps).map fun k : Nat => (k : Int)) = []) = false) (hl : ps.getLast? = some pl)
    (h2 : ([Str.ofString ".ISO8859-15", Str.ofString ".UTF-8"].any fun y => y == S pl.1) = false) : euroP ps = 64 :: eur := by
  obtain ⟨n1, n2⟩ := euro_first h
  unfold euroP
  rw [if_neg n1, if_neg]
  rintro ⟨_, p, hp, q⟩
  rw [hl] at hp
  cases hp
  have := (any_two' h2).mp q
  cases this
theorem euro_d {ps : List (Cs × Nat)} (h : decide (((dl ps).map fun k : Nat => (k : Int)) = []) = false) (h1 : ((dl ps).map fun k : Nat => (k : Int)).getD (Int.toNat 0) 0 ≠ (ps.length : Int) - 1) : euroP ps = 64 :: eur := by
  obtain ⟨n1, n2⟩ := euro_first h
  unfold euroP
  rw [if_neg n1, if_neg]
  rintro ⟨q, _⟩
  exact h1 (n2.mpr q)
theorem lit_ateuro : Str.ofString "@euro" = S (64 :: eur) := by decide
structure EPre (h : Heap) (a : Addr) (ps : List (Cs × Nat)) (vs : List Value) : Prop where
  list : h.IsList a vs.toArray
  pieces : PiecesAre h vs ps
  eight : ps.length ≤ 8
  some1 : ps ≠ []
  len : ∀ p ∈ ps, p.1.length ≤ 2100000
section
variable {w : World} {mean : ExcName → Option Value} {mg mb : Str → Option Value}
local macro_rules | `(tactic| walk_at "call builtin:len") => `(tactic| (k_here; (with_reducible rename Fr _ _ _ _ => F'); k_dflt (refine len_base F' (by assumption) (PiecesAre.length (by assumption)) (by omega) ?_); intro t' tk'))
local macro_rules | `(tactic| walk_at "subscriptTail") => `(tactic| (k_here; (with_reducible show wpAny _ _ (subscriptTail _ _ (Value.ref _) (Value.int _ _)) _ _ _); (with_reducible rename Fr _ _ _ _ => F'); k_dflt (refine item_base F' (by assumption) (by omega) (by omega) (by first | rfl | (rw [Int.toNat_natCast]; assumption) | assumption) ?_ (by with_unfolding_all rfl))))
local macro_rules | `(tactic| walk_at "subscriptTail") => `(tactic| (k_here; (with_reducible show wpAny _ _ (subscriptTail _ _ (Value.ref _) (Value.int (-1) _)) _ _ _); (with_reducible rename Fr _ _ _ _ => F'); k_dflt (refine item_neg F' (by assumption) (by assumption) ?_ (by with_unfolding_all rfl))))
set_option maxHeartbeats 2000000 in
theorem peuro_ok (a : Addr) (ps : List (Cs × Nat)) (vs : List Value) : Cn w mean mg mb 303 10 312 [.ref a] (fun h => EPre h a ps vs) (fun _ r _ => ∃ t', r = .str (S (euroP ps)) t') := by
  refine enterC (binds := [(Str.ofString "pieces", .ref a)]) (by k_is) (by k_is) (by decide) rfl rfl (by decide +kernel) ?_ rfl rfl rfl
  intro fr gd s Q h₀ L m cells X T pre hm F N Y ret
  subst hm
  k_fold
  k_cells Y
  obtain ⟨hl, hp, h8, hne, hlen⟩ := pre
  (rename News _ _ _ _ => N)
  refine wpAny_execs_cons ?_
  refine LCt.Assign_ListComp_T (F₀ := F) (by rfl) (by with_unfolding_all rfl) (by with_unfolding_all rfl) (by decide) (by rfl) (by decide) (by rfl) (by rfl) (by rfl) ?_
  repeat' ((fail_if_success (with_reducible show LCt.CompSrcT _ _ _ _ _ _ _ _ _ _ _ _ _ _ _)); (first | (k_unfold; (try dsimp only)) | (k_end; wrow_close) | walk1 | (dsimp only; walk1)))
  refine LCt.CompSrcT.range (n := ps.length) (by rfl) (by assumption) (by assumption) (by assumption) (small_one (by decide) (by decide) (by omega) (by omega)) (by rw [rangeSize_nat]; simp) (by rw [PySem.sizeLine_eq]; omega) ?_
  intro g
  refine rest_test ps.length (dotAt ps) ?_ ?_
  · intro i t I oI C oC D m₂ ys h tk E' hi hC hx F N off ne
    obtain ⟨p, hpi⟩ : ∃ p, ps[i]? = some p := ⟨ps[i], List.getElem?_eq_getElem hi⟩
    obtain ⟨v, hvi, b, tb, ub, rfl, hb⟩ := hp.at hpi
    have hpl := hlen p (List.mem_of_getElem? hpi)
    have hdot : dotAt ps i = dots p := by unfold dotAt; rw [hpi]
    k_steps
    · (rename ((Txt.slice _ _ _ == _) = true) => hT)
      rw [test_dot] at hT
      exact LCg.CompEnd.intro (by assumption) (by assumption) _ (fun p hp => hp) (by assumption) trivial ⟨rfl, hdot.trans hT, _, rfl⟩
    · (rename ((Txt.slice _ _ _ == _) = false) => hT)
      rw [test_dot] at hT
      exact LCg.CompEnd.intro (by assumption) (by assumption) _ (fun p hp => hp) (by assumption) trivial ⟨rfl, hdot.trans hT⟩
  · intro ys hys D h tk F N o1
    obtain ⟨pl, hpl⟩ : ∃ p, ps.getLast? = some p := ⟨_, List.getLast?_eq_some_getLast hne⟩
    obtain ⟨vl, hvl, bl, tl, ul, rfl, hbl⟩ := hp.at (i := ps.length - 1) (p := pl) (by rw [← List.getLast?_eq_getElem?]; exact hpl)
    have hvl' : vs.getLast? = some (.ref bl) := by rw [List.getLast?_eq_getElem?, hp.length]; exact hvl
    k_steps
    · refine ret _ _ _ (Fr.keep (by assumption)) ?_
      rw [euro_a (by assumption)]
      exact ⟨_, rfl⟩
    · refine ret _ _ _ (Fr.keep (by assumption)) ?_
      rw [euro_b (by assumption) (by assumption) hpl (by assumption), ← lit_empty]
      exact ⟨_, rfl⟩
    · refine ret _ _ _ (Fr.keep (by assumption)) ?_
      rw [euro_c (by assumption) hpl (by assumption), ← lit_ateuro]
      exact ⟨_, rfl⟩
    · refine ret _ _ _ (Fr.keep (by assumption)) ?_
      rw [euro_d (by assumption) (by assumption), ← lit_ateuro]
      exact ⟨_, rfl⟩
end
end Mine
end
section
open PySem PySem.W PySem.Calls PyProof.Rows
set_option maxRecDepth 100000
namespace Mine
/-- the pieces as a ledger bears them -/
inductive PIn (tl : List (Addr × Obj)) : List Value → List (Cs × Nat) → Prop
  | nil : PIn tl [] []
  | cons {b : Addr} {x : Str} {t u : Tok} {n : Nat} {p : Cs × Nat} {vs : List Value} {ps : List (Cs × Nat)} : (b, listOf (List.toArray [.str x t, .int (p.2 : Int) u]) n) ∈ tl → x = S p.1 → PIn tl vs ps → PIn tl (.ref b :: vs) (p :: ps)
theorem PIn.mono {tl tl' : List (Addr × Obj)} (hs : ∀ p ∈ tl, p ∈ tl') : ∀ {vs : List Value} {ps : List (Cs × Nat)}, PIn tl vs ps → PIn tl' vs ps
  | _, _, .nil => .nil
  | _, _, .cons h e r => .cons (hs _ h) e (r.mono hs)
theorem PIn.snoc {tl : List (Addr × Obj)} {b : Addr} {x : Str} {t u : Tok} {n : Nat} {p : Cs × Nat} (h : (b, listOf (List.toArray [.str x t, .int (p.2 : Int) u]) n) ∈ tl) (e : x = S p.1) : ∀ {vs : List Value} {ps : List (Cs × Nat)}, PIn tl vs ps → PIn tl (vs ++ [.ref b]) (ps ++ [p])
  | _, _, .nil => .cons h e .nil
  | _, _, .cons k q r => .cons k q (r.snoc h e)
theorem PIn.are {h₀ h : Heap} {L : Addr} {tl : List (Addr × Obj)} (N : News h₀ L h tl) : ∀ {vs : List Value} {ps : List (Cs × Nat)}, PIn tl vs ps → PiecesAre h vs ps
  | _, _, .nil => .nil
  | _, _, .cons hm e r => .cons ⟨_, _, _, rfl, by rw [← e]; exact N.isList hm⟩ (r.are N)
theorem PIn.length {tl : List (Addr × Obj)} : ∀ {vs : List Value} {ps : List (Cs × Nat)}, PIn tl vs ps → vs.length = ps.length
  | _, _, .nil => rfl
  | _, _, .cons _ _ r => congrArg (· + 1) r.length
theorem runD_lens (xs : List Int) : ∀ d : DS, (runD d xs).1.length ≤ d.1.length + xs.length ∧ (runD d xs).2.length ≤ d.2.length + xs.length := by
  induction xs with
  | nil => intro d; exact ⟨Nat.le_refl _, Nat.le_refl _⟩
  | cons x r ih =>
    intro d
    have h := ih (stepDS d x)
    have h1 : (stepDS d x).1.length ≤ d.1.length + 1 := by
      show (stepP d.1 d.2 x).length ≤ _
      unfold stepP; split
      · omega
      · simp
    have h2 : (stepDS d x).2.length ≤ d.2.length + 1 := by
      show (stepL d.2 x).length ≤ _
      unfold stepL; split
      · simp
      · omega
    simp only [List.length_cons]
    exact ⟨by have := h.1; show (runD (stepDS d x) r).1.length ≤ _; omega, by have := h.2; show (runD (stepDS d x) r).2.length ≤ _; omega⟩
theorem piece_le {ps : List (Cs × Nat)} {ls : List Nat} {p : Cs × Nat} (h : p ∈ ps) : p.1.length ≤ (writ ps ls).length := by
  induction ps with
  | nil => cases h
  | cons q r ih =>
    rw [writ_cons, List.length_append]
    rcases List.mem_cons.mp h with rfl | h
    · have := lay_ge (ls.drop p.2) p.1; omega
    · have := ih h; omega
/-- what is known of the state ahead of a turn -/
structure DSt (d : DS) (x : Int) : Prop where
  inv : InvD d
  x0 : 0 ≤ x
  x1 : x < 150
  len : (W d).length ≤ 335921
  lenN : (W (stepDS d x)).length ≤ 2015537
  ps7 : d.1.length ≤ 7
  ls6 : d.2.length ≤ 6
theorem dst_of {st : Cs} {xs : List Int} (H : ToldH st xs) {i : Nat} {x : Int} (hx : xs[i]? = some x) : DSt (runD (st0 st) (xs.take i)) x := by
  have hlt : i < xs.length := (List.getElem?_eq_some_iff.mp hx).1
  have h7 := H.hlen
  have hl := runD_lens (xs.take i) (st0 st)
  have ht : (xs.take i).length ≤ 6 := by rw [List.length_take]; omega
  have hm := H.hx x (List.mem_of_getElem? hx)
  refine ⟨inv_run _ (inv_st0 H.hst), hm.1, hm.2, (len_take H.hst H.hst5 H.hlen i).2 hlt, ?_, ?_, ?_⟩
  · rw [← (run_take (d := st0 st) xs hx).1]; exact (len_take H.hst H.hst5 H.hlen (i + 1)).1
  · have := hl.1; simp only [st0, List.length_cons, List.length_nil] at this ⊢; omega
  · have := hl.2; simp only [st0, List.length_nil] at this ⊢; omega
theorem wpre_step {h₀ h : Heap} {L ap al : Addr} {news : List (Addr × Obj)} {d : DS} {x : Int} {vs lvs : List Value} {va la' : Array Value} {np nl : Nat} (D : DSt d x) (N : News h₀ L h news) (h1 : (ap, listOf va np) ∈ news) (e1 : va = List.toArray vs) (h2 : (al, listOf la' nl) ∈ news) (e2 : la' = List.toArray lvs)
    (hp : PIn news vs (stepP d.1 d.2 x)) (hl : IntsAre lvs ((stepL d.2 x).map fun k : Nat => (k : Int))) : WPre h ap al (stepP d.1 d.2 x) (stepL d.2 x) vs lvs := by
  subst e1; subst e2
  have I := (sim D.inv x).2
  have h6 := D.ls6
  have h7 : (stepL d.2 x).length ≤ d.2.length + 1 := by
    unfold stepL; split
    · simp
    · omega
  exact ⟨N.isList h1, hp.are N, N.isList h2, hl, I.five, I.since, by omega, Nat.le_trans D.lenN (by decide)⟩
theorem epre_of {h₀ h : Heap} {L ap : Addr} {news tw : List (Addr × Obj)} {d : DS} {x : Int} {vs : List Value} {np : Nat} (D : DSt d x) (N : News h₀ L h news) (h1 : (ap, listOf (List.toArray vs) np) ∈ news) (hp : PIn tw vs d.1) (hs : ∀ p ∈ tw, p ∈ news) : EPre h ap d.1 vs := by
  have h7 := D.ps7
  refine ⟨N.isList h1, (hp.mono hs).are N, by omega, ?_, fun p hm => Nat.le_trans (piece_le hm) (Nat.le_trans D.len (by decide))⟩
  obtain ⟨st, r, e, _⟩ := D.inv.shape
  rw [e]; simp
section
variable {prog : Program} {w : World} {A : Around} {E : Value → Shared → Prop} {s : Shared} {env : Env} {h₀ : Heap} {body : List Stmt} {Q : Flow → Shared → Prop}
def JD (d : DS) (xs : List Int) (ap al ad : Addr) (i : Nat) (m : Str → Option Value) (nx : List (Addr × Obj)) : Prop :=
  ∃ pvs lvs dvs np nl nd tl, nx = (ap, listOf (List.toArray pvs) np) :: (al, listOf (List.toArray lvs) nl) :: (ad, listOf (List.toArray dvs) nd) :: tl ∧ OwnOff tl [ap, al, ad] ∧ PIn tl pvs (runD d (xs.take i)).1 ∧ IntsAre lvs ((runD d (xs.take i)).2.map fun k : Nat => (k : Int)) ∧
    StrsAre dvs ((outs d (xs.take i)).map S) ∧ m (Str.ofString "pieces") = some (.ref ap) ∧ m (Str.ofString "layers") = some (.ref al) ∧ m (Str.ofString "due") = some (.ref ad)
/-- a turn's ground -/
structure TurnG (ap al ad : Addr) (own tl tw : List (Addr × Obj)) : Prop where
  sub : ∀ p ∈ tl, p ∈ tw
  subO : ∀ p ∈ own, p ∈ tw
  offO : OwnOff own (ap :: al :: ad :: tl.map (·.1))
  offT : OwnOff tl [ap, al, ad]
theorem iter_due {st : Cs} {ap al ad l : Addr} {vs : List Value} {xs : List Int} {m₀ : Str → Option Value} {news : List (Addr × Obj)} {pvs₀ : List Value} {k1 k2 k3 : Nat} (tl₀ : List (Addr × Obj))
    (H : ToldH st xs) (hh : A.handled = none) (hl : h₀.IsList l vs.toArray) (hi : IntsAre vs xs) (F : Fr h₀ env.locals s.heap m₀) (N : News h₀ env.locals s.heap news)
    (n1 : (ap, listOf (List.toArray pvs₀) k1) ∈ news) (n2 : (al, listOf (List.toArray []) k2) ∈ news) (n3 : (ad, listOf (List.toArray []) k3) ∈ news) (n4 : ∀ p ∈ tl₀, p ∈ news) (hp : PIn tl₀ pvs₀ (st0 st).1) (hoff₀ : OwnOff tl₀ [ap, al, ad])
    (h1 : m₀ (Str.ofString "pieces") = some (.ref ap)) (h2 : m₀ (Str.ofString "layers") = some (.ref al)) (h3 : m₀ (Str.ofString "due") = some (.ref ad))
    (turn : ∀ i x t pvs lvs dvs np nl nd (u : Str → Option Value) h tk own tl tw, xs[i]? = some x → DSt (runD (st0 st) (xs.take i)) x → TurnG ap al ad own tl tw → OwnOff tw [ap, al, ad] → PIn tl pvs (runD (st0 st) (xs.take i)).1 → IntsAre lvs ((runD (st0 st) (xs.take i)).2.map fun k : Nat => (k : Int)) → StrsAre dvs ((outs (st0 st) (xs.take i)).map S) →
      pvs.length ≤ 7 → lvs.length ≤ 6 → dvs.length ≤ 7 →
      Fr h₀ env.locals h (fun y => if y = Str.ofString "x" then some (.int x t) else if y = Str.ofString "pieces" then some (.ref ap) else if y = Str.ofString "layers" then some (.ref al) else if y = Str.ofString "due" then some (.ref ad) else u y) →
      News h₀ env.locals h ((ap, listOf (List.toArray pvs) np) :: (al, listOf (List.toArray lvs) nl) :: (ad, listOf (List.toArray dvs) nd) :: tw) →
      wpAny (model prog w) A (execs body env) (InvPostG h₀ env.locals (JD (st0 st) xs ap al ad (i + 1)) own { s with heap := h, toks := tk } Q) E { s with heap := h, toks := tk })
    (done : ∀ dvs k (u : Str → Option Value) h tk, StrsAre dvs ((outs (st0 st) xs).map S) → Fr h₀ env.locals h (fun y => if y = Str.ofString "due" then some (.ref ad) else u y) → News h₀ env.locals h [(ad, listOf (List.toArray dvs) k)] → Q .next { s with heap := h, toks := tk }) :
    wpAny (model prog w) A (pyIter (.ref l)) (fun it s₂ => LoopAtV prog w A h₀ env (Str.ofString "x") body Q E it s₂) E s := by
  refine iter_invG (JD (st0 st) xs ap al ad) (news := (ap, listOf (List.toArray pvs₀) k1) :: (al, listOf (List.toArray []) k2) :: (ad, listOf (List.toArray []) k3) :: tl₀) hh hl hi F (fun p hp => N p ?_) ⟨pvs₀, [], [], k1, k2, k3, tl₀, rfl, hoff₀, by simpa [runD] using hp, .nil, .nil, h1, h2, h3⟩ ?_ ?_
  · rcases List.mem_cons.mp hp with rfl | hp
    · exact n1
    · rcases List.mem_cons.mp hp with rfl | hp
      · exact n2
      · rcases List.mem_cons.mp hp with rfl | hp
        · exact n3
        · exact n4 p hp
  · rintro i x t m₁ news₁ h tk own hx _ hoff ⟨pvs, lvs, dvs, np, nl, nd, tl, rfl, ho, hpi, hli, hdi, g1, g2, g3⟩ F₁ N₁
    have D := dst_of H hx
    have h9 := strs_len hdi
    rw [List.length_map, outs_len, List.length_take] at h9
    have h7 := H.hlen
    have h8 := hpi.length
    have h10 := hli.length
    rw [List.length_map] at h10
    have := D.ps7
    have := D.ls6
    rw [map3 g1 g2 g3] at F₁
    refine turn i x t pvs lvs dvs np nl nd m₁ h tk own tl (tl ++ own) hx D ⟨fun p hp => List.mem_append_left _ hp, fun p hp => List.mem_append_right _ hp, hoff, ho⟩ (fun p hp b hb => ?_) hpi hli hdi (by omega) (by omega) (by omega) F₁ N₁
    rcases List.mem_append.mp hp with hp | hp
    · exact ho p hp b hb
    · refine hoff p hp b ?_
      simp only [List.mem_cons, List.not_mem_nil, or_false, List.map_cons] at hb ⊢
      rcases hb with rfl | rfl | rfl
      · exact .inl rfl
      · exact .inr (.inl rfl)
      · exact .inr (.inr (.inl rfl))
  · rintro m₁ news₁ h tk ⟨pvs, lvs, dvs, np, nl, nd, tl, rfl, ho, hpi, hli, hdi, g1, g2, g3⟩ F₁ N₁
    rw [List.take_length] at hdi
    refine done dvs nd m₁ h tk hdi ?_ (fun p hp => N₁ p (by rw [List.mem_singleton.mp hp]; exact .tail _ (.tail _ (.head _))))
    have e : m₁ = (fun y => if y = Str.ofString "due" then some (.ref ad) else m₁ y) := by
      funext y
      by_cases h5 : y = Str.ofString "due"
      · subst h5; simp [g3]
      · simp only [if_neg h5]
    rw [← e]
    exact F₁
theorem due_end {st : Cs} {xs : List Int} {L ap al ad : Addr} {i : Nat} {x : Int} {pvs lvs dvs : List Value} {va la' : Array Value} {np nl nd tk : Nat} {own tl tw news' : List (Addr × Obj)} {h' : Heap} {m' : Str → Option Value} {s₁ : Shared} {tn : Tok} (add : List (Addr × Obj))
    (H : ToldH st xs) (hx : xs[i]? = some x) (G : TurnG ap al ad own tl tw) (hs : StrsAre dvs ((outs (st0 st) (xs.take i)).map S))
    (F : Fr h₀ L h' m') (N : News h₀ L h' news') (g1 : m' (Str.ofString "pieces") = some (.ref ap)) (g2 : m' (Str.ofString "layers") = some (.ref al)) (g3 : m' (Str.ofString "due") = some (.ref ad))
    (n1 : (ap, listOf va np) ∈ news') (e1 : va = List.toArray pvs) (n2 : (al, listOf la' nl) ∈ news') (e2 : la' = List.toArray lvs)
    (n3 : (ad, listOf ((List.toArray dvs).push (.str (S (writ (stepP (runD (st0 st) (xs.take i)).1 (runD (st0 st) (xs.take i)).2 x) (stepL (runD (st0 st) (xs.take i)).2 x))) tn)) (nd + 1)) ∈ news')
    (n4 : ∀ p ∈ add, p ∈ news') (n5 : ∀ p ∈ tw, p ∈ news') (hadd : ∀ q ∈ add, OwnOff [q] [ap, al, ad] ∧ OwnOff own [q.1])
    (hp : PIn (add ++ tl) pvs (stepP (runD (st0 st) (xs.take i)).1 (runD (st0 st) (xs.take i)).2 x)) (hl : IntsAre lvs ((stepL (runD (st0 st) (xs.take i)).2 x).map fun k : Nat => (k : Int))) :
    InvEndG h₀ L (JD (st0 st) xs ap al ad (i + 1)) own s₁ { s₁ with heap := h', toks := tk } := by
  subst e1; subst e2
  obtain ⟨r1, r2⟩ := run_take (d := st0 st) xs hx
  have e4 : ∀ v : Value, (List.toArray dvs).push v = List.toArray (dvs ++ [v]) := fun v => by simp
  rw [e4] at n3
  refine InvEndG.intro (nx := (ap, listOf (List.toArray pvs) np) :: (al, listOf (List.toArray lvs) nl) :: (ad, listOf (List.toArray (dvs ++ [.str (S (W (stepDS (runD (st0 st) (xs.take i)) x))) tn])) (nd + 1)) :: (add ++ tl)) F N ⟨pvs, lvs, (dvs ++ [.str (S (W (stepDS (runD (st0 st) (xs.take i)) x))) tn]), np, nl, nd + 1, add ++ tl, rfl, ?_, by rw [r1]; exact hp, by rw [r1]; exact hl, ?_, g1, g2, g3⟩ ?_ ?_ (fun p hp => n5 p (G.subO p hp))
  · intro p hp b hb
    rcases List.mem_append.mp hp with hp | hp
    · exact (hadd p hp).1 p (List.mem_singleton.mpr rfl) b hb
    · exact G.offT p hp b hb
  · rw [r2, List.map_append, r1]
    exact strs_snoc hs
  · intro p hp b hb
    simp only [List.map_cons, List.map_append, List.mem_cons, List.mem_append] at hb
    rcases hb with rfl | rfl | rfl | hb | hb
    · exact G.offO p hp _ (by simp)
    · exact G.offO p hp _ (by simp)
    · exact G.offO p hp _ (by simp)
    · obtain ⟨q, hq, rfl⟩ := List.mem_map.mp hb
      exact (hadd q hq).2 p hp _ (List.mem_singleton.mpr rfl)
    · exact G.offO p hp _ (by simp only [List.mem_cons]; exact .inr (.inr (.inr hb)))
  · intro p hp
    rcases List.mem_cons.mp hp with rfl | hp
    · exact n1
    · rcases List.mem_cons.mp hp with rfl | hp
      · exact n2
      · rcases List.mem_cons.mp hp with rfl | hp
        · exact n3
        · rcases List.mem_append.mp hp with hp | hp
          · exact n4 p hp
          · exact n5 p (G.sub p hp)
end
end Mine
end
section
open PySem PySem.W PySem.Calls PyProof.Rows
set_option maxRecDepth 100000
namespace Mine
theorem ints_snoc' {n : Int} {t : Tok} : ∀ {vs : List Value} {ns : List Int}, IntsAre vs ns → IntsAre (vs ++ [.int n t]) (ns ++ [n])
  | _, _, .nil => .cons n t .nil
  | _, _, .cons z u r => .cons z u (ints_snoc' r)
theorem S_ne {q : Cs} (hq : q ≠ []) : (S q != Str.ofString "") = true := by
  rw [lit_empty]
  show (!(S q == S [])) = true
  rw [S_beq]; simp [hq]
theorem ne_of_S {q : Cs} (h : (S q != Str.ofString "") = true) : q ≠ [] := by
  intro e; subst e
  rw [lit_empty] at h
  have h' : (!(S [] == S [])) = true := h
  rw [S_beq] at h'; simp at h'
theorem piece_no {y : Str} {q : Cs} (h : (y != Str.ofString "") = false) (ey : y = S q) : q = [] := by
  subst ey
  cases q with
  | nil => rfl
  | cons a r => rw [S_ne (by simp)] at h; cases h
theorem ey_dot (e : Cs) : Str.ofString "." ++ S e = S (46 :: e) := by rw [lit_dot, app_S]; rfl
theorem ey_at (e : Cs) : Str.ofString "@" ++ S e = S (64 :: e) := by rw [lit_at, app_S]; rfl
theorem pc0 (ps : List (Cs × Nat)) {x : Int} (h : x.fmod 5 = 0) : pieceOf ps x = encP (encO (j6 x)) := by unfold pieceOf; rw [if_pos h]
theorem pc1 (ps : List (Cs × Nat)) {x : Int} (h : x.fmod 5 = 1) : pieceOf ps x = 64 :: modO (j6 x) := by unfold pieceOf; rw [if_neg (by omega), if_pos h]
theorem pc2 (ps : List (Cs × Nat)) {x : Int} (h : x.fmod 5 = 2) : pieceOf ps x = euroP ps := by unfold pieceOf; rw [if_neg (by omega), if_neg (by omega), if_pos h]
theorem pc3 (ps : List (Cs × Nat)) {x : Int} (h : 2 < x.fmod 5) : pieceOf ps x = [] := by unfold pieceOf; rw [if_neg (by omega), if_neg (by omega), if_neg (by omega)]
section
variable {tl tw own : List (Addr × Obj)} {ap al ad : Addr} {d : DS} {x : Int} {pvs lvs : List Value}
theorem turn_keep (_ : TurnG ap al ad own tl tw) (hp : PIn tl pvs d.1) (hl : IntsAre lvs (d.2.map fun k : Nat => (k : Int))) (hq : pieceOf d.1 x = []) (h3 : ¬ 2 < x.fmod 5) :
    PIn ([] ++ tl) pvs (stepP d.1 d.2 x) ∧ IntsAre lvs ((stepL d.2 x).map fun k : Nat => (k : Int)) := by
  unfold stepP stepL
  rw [if_pos hq, if_neg h3]
  exact ⟨hp, hl⟩
theorem turn_lay {h₀ h : Heap} {L : Addr} {z : Addr × Obj} {n : Nat} {rest : List (Addr × Obj)} {tk : Tok} (_ : News h₀ L h (z :: (al, listOf ((List.toArray lvs).push (.int ((x.fdiv 5).fmod 5) tk)) n) :: rest)) (_ : TurnG ap al ad own tl tw) (hp : PIn tl pvs d.1) (hl : IntsAre lvs (d.2.map fun k : Nat => (k : Int))) (h3 : 2 < x.fmod 5) :
    PIn ([] ++ tl) pvs (stepP d.1 d.2 x) ∧ IntsAre (lvs ++ [.int ((x.fdiv 5).fmod 5) tk]) ((stepL d.2 x).map fun k : Nat => (k : Int)) := by
  unfold stepP stepL
  rw [if_pos (pc3 _ h3), if_pos h3, List.map_append]
  refine ⟨hp, ?_⟩
  rw [← j5_cast]
  exact ints_snoc' hl
theorem turn_add {h₀ h : Heap} {L b : Addr} {y : Str} {t u : Tok} {n : Nat} {rest : List (Addr × Obj)} {q : Cs} (N : News h₀ L h ((b, listOf #[.str y t, .int (d.2.length : Nat) u] n) :: rest)) (G : TurnG ap al ad own tl tw) (hp : PIn tl pvs d.1) (hl : IntsAre lvs (d.2.map fun k : Nat => (k : Int))) (hq : pieceOf d.1 x = q) (ey : y = S q) (hne : (y != Str.ofString "") = true) (h3 : ¬ 2 < x.fmod 5) :
    PIn ([(b, listOf #[.str y t, .int (d.2.length : Nat) u] n)] ++ tl) (pvs ++ [.ref b]) (stepP d.1 d.2 x) ∧ IntsAre lvs ((stepL d.2 x).map fun k : Nat => (k : Int)) := by
  subst ey
  have h := ne_of_S hne
  unfold stepP stepL
  rw [if_neg (by rw [hq]; exact h), if_neg h3, hq]
  refine ⟨PIn.snoc (p := (q, d.2.length)) (t := t) (u := u) (n := n) (x := S q) (List.mem_append_left _ (List.mem_singleton.mpr rfl)) rfl (hp.mono fun p hp => List.mem_append_right _ hp), hl⟩
theorem off_one {b : Addr} {o : Obj} (G : TurnG ap al ad own tl tw) (h : ap < b ∧ al < b ∧ ad < b ∧ AllLt b tw) : ∀ q ∈ [(b, o)], OwnOff [q] [ap, al, ad] ∧ OwnOff own [q.1] := by
  intro q hq
  rw [List.mem_singleton.mp hq]
  have key : ∀ {l : List (Addr × Obj)}, AllLt b l → ∀ p ∈ l, @LT.lt Nat _ p.1 b := by
    intro l
    induction l with
    | nil => intro _ p hp; cases hp
    | cons z r ih =>
      intro hz p hp
      rcases List.mem_cons.mp hp with rfl | hp
      · exact hz.1
      · exact ih hz.2 p hp
  refine ⟨?_, ?_⟩
  · intro p hp c hc
    rw [List.mem_singleton.mp hp]
    simp only [List.mem_cons, List.not_mem_nil, or_false] at hc
    obtain ⟨h1, h2, h4, _⟩ := h
    rcases hc with rfl | rfl | rfl
    · exact neN (by show @Ne Nat b _; have : @LT.lt Nat _ c b := h1; omega)
    · exact neN (by have : @LT.lt Nat _ c b := h2; omega)
    · exact neN (by have : @LT.lt Nat _ c b := h4; omega)
  · intro p hp c hc
    rw [List.mem_singleton.mp hc]
    have := key h.2.2.2 p (G.subO p hp)
    exact neN (by dsimp only; omega)
theorem off_nil : ∀ q ∈ ([] : List (Addr × Obj)), OwnOff [q] [ap, al, ad] ∧ OwnOff own [q.1] := fun _ hq => nomatch hq
theorem in_add {add news : List (Addr × Obj)} (G : TurnG ap al ad own tl tw) (h1 : ∀ p ∈ add, p ∈ news) (h2 : ∀ p ∈ tw, p ∈ news) : ∀ p ∈ add ++ tl, p ∈ news := by
  intro p hp
  rcases List.mem_append.mp hp with hp | hp
  · exact h1 p hp
  · exact h2 p (G.sub p hp)
end
end Mine
end
section
open PySem PySem.W PySem.Calls PyProof.Rows
set_option maxRecDepth 100000
namespace Mine
theorem ints_len {vs : List Value} {ls : List Nat} (h : IntsAre vs (ls.map fun k : Nat => (k : Int))) : vs.length = ls.length := by have := h.length; rwa [List.length_map] at this
section
variable {prog : Program} {w : World} {A : Around} {E : Value → Shared → Prop} {s : Shared} {h₀ : Heap} {L l : Addr} {news : List (Addr × Obj)} {vs : List Value} {Q : Value → Shared → Prop}
theorem len_news {n k : Nat} (N : News h₀ L s.heap news) (hm : (l, listOf (List.toArray vs) k) ∈ news) (hn : vs.length = n) (hfit : n ≤ 1000) (h : ∀ t tk, Q (.int n t) { s with toks := tk }) : wpAny (model prog w) A (call (.builtin "len") [.ref l]) Q E s := by
  have e : (List.toArray vs).size = n := by rw [List.size_toArray]; exact hn
  exact call_len_list (N.isList hm) (by rw [e]; omega) (by rw [e]; exact h _ _)
end
section
variable {prog : Program} {w : World} {A : Around} {E : Value → Shared → Prop} {s : Shared} {env : Env} {h₀ : Heap} {body : List Stmt} {Q : Flow → Shared → Prop}
theorem iter_due1 {st : Cs} {ap al ad b l : Addr} {vs : List Value} {xs : List Int} {m₀ : Str → Option Value} {news : List (Addr × Obj)} {k0 k1 k2 k3 : Nat} {t0 u0 : Tok}
    (H : ToldH st xs) (hh : A.handled = none) (hl : h₀.IsList l vs.toArray) (hi : IntsAre vs xs) (F : Fr h₀ env.locals s.heap m₀) (N : News h₀ env.locals s.heap news)
    (n1 : (ap, listOf (List.toArray [.ref b]) k1) ∈ news) (n2 : (al, listOf (List.toArray []) k2) ∈ news) (n3 : (ad, listOf (List.toArray []) k3) ∈ news) (n4 : (b, listOf (List.toArray [.str (S st) t0, .int 0 u0]) k0) ∈ news) (hne : b ≠ ap ∧ b ≠ al ∧ b ≠ ad)
    (h1 : m₀ (Str.ofString "pieces") = some (.ref ap)) (h2 : m₀ (Str.ofString "layers") = some (.ref al)) (h3 : m₀ (Str.ofString "due") = some (.ref ad))
    (turn : ∀ i x t pvs lvs dvs np nl nd (u : Str → Option Value) h tk own tl tw, xs[i]? = some x → DSt (runD (st0 st) (xs.take i)) x → TurnG ap al ad own tl tw → OwnOff tw [ap, al, ad] → PIn tl pvs (runD (st0 st) (xs.take i)).1 → IntsAre lvs ((runD (st0 st) (xs.take i)).2.map fun k : Nat => (k : Int)) → StrsAre dvs ((outs (st0 st) (xs.take i)).map S) →
      pvs.length ≤ 7 → lvs.length ≤ 6 → dvs.length ≤ 7 →
      Fr h₀ env.locals h (fun y => if y = Str.ofString "x" then some (.int x t) else if y = Str.ofString "pieces" then some (.ref ap) else if y = Str.ofString "layers" then some (.ref al) else if y = Str.ofString "due" then some (.ref ad) else u y) →
      News h₀ env.locals h ((ap, listOf (List.toArray pvs) np) :: (al, listOf (List.toArray lvs) nl) :: (ad, listOf (List.toArray dvs) nd) :: tw) →
      wpAny (model prog w) A (execs body env) (InvPostG h₀ env.locals (JD (st0 st) xs ap al ad (i + 1)) own { s with heap := h, toks := tk } Q) E { s with heap := h, toks := tk })
    (done : ∀ dvs k (u : Str → Option Value) h tk, StrsAre dvs ((outs (st0 st) xs).map S) → Fr h₀ env.locals h (fun y => if y = Str.ofString "due" then some (.ref ad) else u y) → News h₀ env.locals h [(ad, listOf (List.toArray dvs) k)] → Q .next { s with heap := h, toks := tk }) :
    wpAny (model prog w) A (pyIter (.ref l)) (fun it s₂ => LoopAtV prog w A h₀ env (Str.ofString "x") body Q E it s₂) E s := by
  refine iter_due [(b, listOf (List.toArray [.str (S st) t0, .int 0 u0]) k0)] H hh hl hi F N n1 n2 n3 (fun p hp => by rw [List.mem_singleton.mp hp]; exact n4) (.cons (p := (st, 0)) (.head _) rfl .nil) ?_ h1 h2 h3 turn done
  intro p hp c hc
  rw [List.mem_singleton.mp hp]
  simp only [List.mem_cons, List.not_mem_nil, or_false] at hc
  rcases hc with rfl | rfl | rfl
  · exact hne.1
  · exact hne.2.1
  · exact hne.2.2
end
section
variable {w : World} {mean : ExcName → Option Value} {mg mb : Str → Option Value}
local macro_rules | `(tactic| walk_at "call builtin:len") => `(tactic| (k_here; (with_reducible rename News _ _ _ _ => N'); k_dflt (refine len_news N' (by k_mem) (ints_len (by assumption)) (by omega) ?_); intro t' tk'))
local macro_rules | `(tactic| walk_at "binaryOp Add str str") => `(tactic| (k_here; k_dflt (refine add_str (hsz := ?hsz) ?_; (case hsz => (simp only [lit_dot, lit_at, app_S, len_S, PySem.sizeLine_eq, List.length_append, List.length_cons, List.length_nil]; omega))); intro t' tk'))
local macro_rules | `(tactic| walk_at "call ref") => `(tactic| (k_here; (with_reducible show wpAny _ _ (call (Value.ref 293) _) _ _ _); (with_reducible rename Fr _ _ _ _ => F'); (with_reducible rename News _ _ _ _ => N'); (rename DSt _ _ => hD'); k_dflt (refine use (encoding_ok _ _ hD'.x0 hD'.x1) F' (by assumption) N' (by assumption) trivial ⟨_, _, rfl⟩ ?_); intro r' h' tk' F' N' kp' hp'; (generalize hEn' : encO (j6 _) = o' at hp'); rcases o' with _ | e'; all_goals (dsimp only [EncR] at hp'; first | subst hp' | (obtain ⟨t', hp'⟩ := hp'; subst hp'; have hel' := encO_len hEn'))))
local macro_rules | `(tactic| walk_at "call ref") => `(tactic| (k_here; (with_reducible show wpAny _ _ (call (Value.ref 293) _) _ _ _); (rename (encO (j6 _) = some _) => hEn0'); (with_reducible rename Fr _ _ _ _ => F'); (with_reducible rename News _ _ _ _ => N'); (rename DSt _ _ => hD'); k_dflt (refine use (encoding_ok _ _ hD'.x0 hD'.x1) F' (by assumption) N' (by assumption) trivial ⟨_, _, rfl⟩ ?_); intro r' h' tk' F' N' kp' hp'; rw [hEn0'] at hp'; dsimp only [EncR] at hp'; obtain ⟨t', hp'⟩ := hp'; subst hp'))
local macro_rules | `(tactic| walk_at "call ref") => `(tactic| (k_here; (with_reducible show wpAny _ _ (call (Value.ref 300) _) _ _ _); (with_reducible rename Fr _ _ _ _ => F'); (with_reducible rename News _ _ _ _ => N'); (rename DSt _ _ => hD'); k_dflt (refine use (modifier_ok _ _ hD'.x0 hD'.x1) F' (by assumption) N' (by assumption) trivial ⟨_, _, rfl⟩ ?_); intro r' h' tk' F' N' kp' hp'; obtain ⟨t', hp'⟩ := hp'; subst hp'; have hml' := modO_len (j6 (by assumption))))
local macro_rules | `(tactic| walk_at "call ref") => `(tactic| (k_here; (with_reducible show wpAny _ _ (call (Value.ref 312) _) _ _ _); (with_reducible rename Fr _ _ _ _ => F'); (with_reducible rename News _ _ _ _ => N'); (rename DSt _ _ => hD'); (rename PIn _ _ _ => hPi'); (rename TurnG _ _ _ _ _ _ => hG'); k_dflt (refine use (peuro_ok _ _ _) F' (by assumption) N' (by assumption) (epre_of hD' N' (by k_mem) (hPi'.mono hG'.sub) (by (intro p hp; k_ownIn))) ⟨_, _, rfl⟩ ?_); intro r' h' tk' F' N' kp' hp'; obtain ⟨t', hp'⟩ := hp'; subst hp'))
local macro_rules | `(tactic| walk_at "ite") => `(tactic| (k_here; first | refine ite_pos (by first | omega | (simp only [decide_eq_true_eq, beq_iff_eq]; omega)) ?_ | refine ite_neg (by first | omega | (simp only [decide_eq_true_eq, beq_iff_eq]; omega)) ?_))
local macro_rules | `(tactic| walk_at "call ref") => `(tactic| (k_here; (with_reducible show wpAny _ _ (call (Value.ref 319) _) _ _ _); (with_reducible rename Fr _ _ _ _ => F'); (with_reducible rename News _ _ _ _ => N'); (rename DSt _ _ => hD'); (rename TurnG _ _ _ _ _ _ => hG'); (rename (PIn _ _ _ ∧ _) => hT'); k_dflt (refine use (written_ok _ _ _ _ _ _) F' (by assumption) N' (by assumption) (wpre_step hD' N' (by k_mem) (by first | rfl | exact List.push_toArray _ _) (by k_mem) (by first | rfl | exact List.push_toArray _ _) (hT'.1.mono (in_add hG' (by first | exact List.forall_mem_nil _ | (intro p hp; rw [List.mem_singleton.mp hp]; k_mem)) (by (intro p hp; k_ownIn)))) hT'.2) ⟨_, _, rfl⟩ ?_); intro r' h' tk' F' N' kp' hp'; obtain ⟨t', hp'⟩ := hp'; subst hp'))
set_option maxHeartbeats 1000000 in
theorem due_ok (st : Cs) (t : Tok) (l : Addr) (vs : List Value) (xs : List Int) : Cn w mean mg mb 302 7 326 [.str (S st) t, .ref l] (fun h => h.IsList l vs.toArray ∧ IntsAre vs xs ∧ ToldH st xs)
    (fun _ r h' => TextsAt h' r ((outs (st0 st) xs).map S)) := by
  refine enter (binds := [(Str.ofString "start", .str (S st) t), (Str.ofString "deeds", .ref l)]) (by k_is) (by k_is) (by decide) rfl (locs rfl) ?_ rfl rfl rfl (by decide)
  intro fr gd s Q h₀ L m X T pre hm F N ret
  subst hm
  k_fold
  obtain ⟨hl, hi, H⟩ := pre
  repeat' ((fail_if_success (with_reducible show wpAny _ _ (pyIter _) _ _ _)); (first | (k_unfold; (try dsimp only)) | (k_end; wrow_close) | walk1 | (dsimp only; walk1)))
  (rename IntsAre _ _ => hi9)
  (rename Fr _ _ _ _ => F')
  (rename News _ _ _ _ => N')
  with_unfolding_all refine' iter_due1 H ?hh hl hi9 F' N' ?n1 ?n2 ?n3 ?n4 ?ne ?h1 ?h2 ?h3 ?tt ?dd
  case hh => rfl
  case h1 => exact rfl
  case h2 => exact rfl
  case h3 => exact rfl
  case n1 => k_dflt k_mem
  case n2 => k_dflt k_mem
  case n3 => k_dflt k_mem
  case n4 => k_dflt k_mem
  case ne => exact ⟨neN (by omega), neN (by omega), neN (by omega)⟩
  case tt =>
    clear F' N'
    intro i x tx pvs lvs dvs np nl nd u h tk own tl tw hxi D G hoff hpi hli hdi hp7 hl6 hd7 F' N'
    have hle := D.len
    have hls6 := D.ls6
    have hfm := fm5 x
    have h5 : x.fmod 5 = 0 ∨ x.fmod 5 = 1 ∨ x.fmod 5 = 2 ∨ 2 < x.fmod 5 := by omega
    rcases h5 with h5 | h5 | h5 | h5
    all_goals (repeat' ((fail_if_success (with_reducible show wpAny _ _ (call (Value.ref 319) _) _ _ _)); (first | (k_unfold; (try dsimp only)) | (k_end; wrow_close) | walk1 | (dsimp only; walk1))))
    all_goals (with_reducible rename News _ _ _ _ => N9)
    all_goals (rename TurnG _ _ _ _ _ _ => G)
    all_goals (rename PIn _ _ _ => hpi)
    · (rename (encO _ = none) => hE)
      have hT := turn_keep G hpi hli (x := x) (by rw [pc0 _ h5, hE]; rfl) (by omega)
      k_steps
      (rename (PIn _ _ _ ∧ _) => hT8)
      (rename TurnG _ _ _ _ _ _ => G)
      (with_reducible rename News _ _ _ _ => N8)
      (with_reducible rename Fr _ _ _ _ => F8)
      exact due_end [] H hxi G hdi F8 N8 rfl rfl rfl (by k_mem) (by first | rfl | exact List.push_toArray _ _) (by k_mem) (by first | rfl | exact List.push_toArray _ _) (by k_mem) (List.forall_mem_nil _) (by (intro p hp; k_ownIn)) off_nil hT8.1 hT8.2
    · (rename (encO _ = some _) => hE)
      (rename ((_ != _) = true) => hf)
      have hT := turn_add N9 G hpi hli (x := x) (by rw [pc0 _ h5, hE]; rfl) (ey_dot _) hf (by omega)
      k_steps
      (rename (PIn _ _ _ ∧ _) => hT8)
      (rename TurnG _ _ _ _ _ _ => G)
      (with_reducible rename News _ _ _ _ => N8)
      (with_reducible rename Fr _ _ _ _ => F8)
      exact due_end [_] H hxi G hdi F8 N8 rfl rfl rfl (by k_mem) (by first | rfl | exact List.push_toArray _ _) (by k_mem) (by first | rfl | exact List.push_toArray _ _) (by k_mem) (by (intro p hp; rw [List.mem_singleton.mp hp]; k_mem)) (by (intro p hp; k_ownIn)) (off_one G (by assumption)) hT8.1 hT8.2
    · (rename ((_ != _) = false) => hf)
      exact absurd (piece_no hf (ey_dot _)) (by simp)
    · (rename ((_ != _) = true) => hf)
      have hT := turn_add N9 G hpi hli (x := x) (by rw [pc1 _ h5]) (ey_at _) hf (by omega)
      k_steps
      (rename (PIn _ _ _ ∧ _) => hT8)
      (rename TurnG _ _ _ _ _ _ => G)
      (with_reducible rename News _ _ _ _ => N8)
      (with_reducible rename Fr _ _ _ _ => F8)
      exact due_end [_] H hxi G hdi F8 N8 rfl rfl rfl (by k_mem) (by first | rfl | exact List.push_toArray _ _) (by k_mem) (by first | rfl | exact List.push_toArray _ _) (by k_mem) (by (intro p hp; rw [List.mem_singleton.mp hp]; k_mem)) (by (intro p hp; k_ownIn)) (off_one G (by assumption)) hT8.1 hT8.2
    · (rename ((_ != _) = false) => hf)
      exact absurd (piece_no hf (ey_at _)) (by simp)
    · (rename ((_ != _) = true) => hf)
      have hT := turn_add N9 G hpi hli (x := x) (by rw [pc2 _ h5]) rfl hf (by omega)
      k_steps
      (rename (PIn _ _ _ ∧ _) => hT8)
      (rename TurnG _ _ _ _ _ _ => G)
      (with_reducible rename News _ _ _ _ => N8)
      (with_reducible rename Fr _ _ _ _ => F8)
      exact due_end [_] H hxi G hdi F8 N8 rfl rfl rfl (by k_mem) (by first | rfl | exact List.push_toArray _ _) (by k_mem) (by first | rfl | exact List.push_toArray _ _) (by k_mem) (by (intro p hp; rw [List.mem_singleton.mp hp]; k_mem)) (by (intro p hp; k_ownIn)) (off_one G (by assumption)) hT8.1 hT8.2
    · (rename ((_ != _) = false) => hf)
      have hT := turn_keep G hpi hli (x := x) (by rw [pc2 _ h5]; exact piece_no hf rfl) (by omega)
      k_steps
      (rename (PIn _ _ _ ∧ _) => hT8)
      (rename TurnG _ _ _ _ _ _ => G)
      (with_reducible rename News _ _ _ _ => N8)
      (with_reducible rename Fr _ _ _ _ => F8)
      exact due_end [] H hxi G hdi F8 N8 rfl rfl rfl (by k_mem) (by first | rfl | exact List.push_toArray _ _) (by k_mem) (by first | rfl | exact List.push_toArray _ _) (by k_mem) (List.forall_mem_nil _) (by (intro p hp; k_ownIn)) off_nil hT8.1 hT8.2
    · have hT := turn_lay N9 G hpi hli h5
      k_steps
      (rename (PIn _ _ _ ∧ _) => hT8)
      (rename TurnG _ _ _ _ _ _ => G)
      (with_reducible rename News _ _ _ _ => N8)
      (with_reducible rename Fr _ _ _ _ => F8)
      exact due_end [] H hxi G hdi F8 N8 rfl rfl rfl (by k_mem) (by first | rfl | exact List.push_toArray _ _) (by k_mem) (by first | rfl | exact List.push_toArray _ _) (by k_mem) (List.forall_mem_nil _) (by (intro p hp; k_ownIn)) off_nil hT8.1 hT8.2
  case dd =>
    clear F' N'
    intro dvs k u h tk hs' F' N'
    k_steps
    exact ret _ _ _ (Fr.keep (by assumption)) ⟨_, _, rfl, News.isList (by assumption) (by k_mem), hs'⟩
end
end Mine
end
section
open PySem PySem.W PySem.Calls PyProof.Rows
set_option maxRecDepth 100000
namespace Mine
section
variable {w : World} {mean : ExcName → Option Value} {mg mb : Str → Option Value}
local macro_rules | `(tactic| walk_at "call ref") => `(tactic| (k_here; (with_reducible show wpAny _ _ (call (Value.ref 42) _) _ _ _); (with_reducible rename Fr _ _ _ _ => F'); (with_reducible rename News _ _ _ _ => N'); k_dflt (first
  | refine use (build_C _) F' (by assumption) N' (by assumption) (News.isTup N' (by k_mem)) ⟨_, _, rfl⟩ ?_
  | refine use (build_ok _ _ _ _ _) F' (by assumption) N' (by assumption) ⟨News.isList N' (by k_mem), by omega⟩ ⟨_, _, rfl⟩ ?_
  | refine use (build_none _ _ _) F' (by assumption) N' (by assumption) (News.isList N' (by k_mem)) ⟨_, _, rfl⟩ ?_); intro r' h' tk' F' N' kp' hp'; obtain ⟨t', hp'⟩ := hp'; subst hp'))
local macro_rules | `(tactic| walk_at "call ref") => `(tactic| (k_here; (with_reducible show wpAny _ _ (call (Value.ref 286) _) _ _ _); (with_reducible rename Fr _ _ _ _ => F'); (with_reducible rename News _ _ _ _ => N'); k_dflt (refine use (escape_okI _ _ _ _ _ rfl) F' (by assumption) N' (by assumption) (by omega) ⟨_, _, rfl⟩ ?_); intro r' h' tk' F' N' kp' hp'; obtain ⟨t', hp'⟩ := hp'; subst hp'))
local macro_rules | `(tactic| walk_at "call ref") => `(tactic| (k_here; (with_reducible show wpAny _ _ (call (Value.ref 293) _) _ _ _); (with_reducible rename Fr _ _ _ _ => F'); (with_reducible rename News _ _ _ _ => N'); k_dflt (refine use (encoding_ok _ _ (by assumption) (by assumption)) F' (by assumption) N' (by assumption) trivial ⟨_, _, rfl⟩ ?_); intro r' h' tk' F' N' kp' hp'; (generalize hEn' : encO (j6 _) = o' at hp'); rcases o' with _ | e'; all_goals (dsimp only [EncR] at hp'; first | subst hp' | (obtain ⟨t', hp'⟩ := hp'; subst hp'; have hel' := encO_len hEn'))))
local macro_rules | `(tactic| walk_at "call ref") => `(tactic| (k_here; (with_reducible show wpAny _ _ (call (Value.ref 300) _) _ _ _); (with_reducible rename Fr _ _ _ _ => F'); (with_reducible rename News _ _ _ _ => N'); k_dflt (refine use (modifier_ok _ _ (by assumption) (by assumption)) F' (by assumption) N' (by assumption) trivial ⟨_, _, rfl⟩ ?_); intro r' h' tk' F' N' kp' hp'; obtain ⟨t', hp'⟩ := hp'; subst hp'))
local macro_rules | `(tactic| walk_at "call ref") => `(tactic| (k_here; (with_reducible show wpAny _ _ (call (Value.ref 35) _) _ _ _); (with_reducible rename Fr _ _ _ _ => F'); (with_reducible rename News _ _ _ _ => N'); k_dflt (first
  | ((rename ToldH _ _ => hH'); refine use (euro_ok _ _ _) F' (by assumption) N' (by assumption) ⟨by omega, (euro_sim (inv_run _ (inv_st0 hH'.hst))).2⟩ ⟨_, _, rfl⟩ ?_)
  | refine use (append_ok _ _ _ _ (modO_ne _)) F' (by assumption) N' (by assumption) (by have := modO_len (j6 (by assumption)); omega) ⟨_, _, rfl⟩ ?_); intro r' h' tk' F' N' kp' hp'; obtain ⟨t', hp'⟩ := hp'; subst hp'))
set_option maxHeartbeats 1000000 in
theorem told_none (l : Addr) (vs : List Value) (xs : List Int) : Cn w mean mg mb 302 7 307 [.none, .ref l] (fun h => h.IsList l vs.toArray ∧ IntsAre vs xs ∧ ToldH [67] xs)
    (fun _ r h' => TextsAt h' r ((outs (st0 [67]) xs).map S)) := by
  refine enter (binds := [(Str.ofString "start", .none), (Str.ofString "deeds", .ref l)]) (by k_is) (by k_is) (by decide) rfl (locs rfl) ?_ rfl rfl rfl (by decide)
  intro fr gd s Q h₀ L m X T pre hm F N ret
  subst hm
  k_fold
  obtain ⟨hl, hi, H⟩ := pre
  repeat' ((fail_if_success (with_reducible show wpAny _ _ (pyIter _) _ _ _)); (first | (k_unfold; (try dsimp only)) | (k_end; wrow_close) | walk1 | (dsimp only; walk1)))
  (rename IntsAre _ _ => hi9)
  (rename Fr _ _ _ _ => F')
  (rename News _ _ _ _ => N')
  with_unfolding_all refine iter_told H (by rfl) (by assumption) hi9 F' N' (by k_mem) (by rfl) (by rfl) ?tt ?dd
  · intro i' x' t' tn' ws' k' u' h' tk' own' hxi' hx0' hx1' hle' hws' hoff' hs' F' N'
    k_steps
    all_goals (
      refine told_end (by assumption) hxi' hs' ?_ (by assumption) (by assumption) (by rfl) (by rfl) (by k_mem) (by (intro p hp; k_ownIn))
      unfold stepT
      (repeat' split)
      all_goals first
        | (exfalso; omega)
        | rfl
        | ((rename (encO _ = some _) => hE); rw [hE]; rfl)
        | ((rename (encO _ = none) => hE); rw [hE]; exact (List.append_nil _).symm))
  · intro ws' k' u' h' tk' hs' F' N'
    k_steps
    exact ret _ _ _ (Fr.keep (by assumption)) ⟨_, _, rfl, News.isList (by assumption) (by k_mem), hs'⟩
end
end Mine
end
section
open PySem PySem.W PySem.Calls PyProof.Rows
set_option maxRecDepth 100000
namespace Mine
theorem lit_C : Str.ofString "C" = S [67] := by decide
section
variable {w : World} {mean : ExcName → Option Value} {mg mb : Str → Option Value}
local macro_rules | `(tactic| walk_at "call builtin:len") => `(tactic| (k_here; (with_reducible rename News _ _ _ _ => N'); k_dflt (refine len_news N' (by k_mem) (ints_len (by assumption)) (by omega) ?_); intro t' tk'))
local macro_rules | `(tactic| walk_at "binaryOp Add str str") => `(tactic| (k_here; k_dflt (refine add_str (hsz := ?hsz) ?_; (case hsz => (simp only [lit_dot, lit_at, app_S, len_S, PySem.sizeLine_eq, List.length_append, List.length_cons, List.length_nil]; omega))); intro t' tk'))
local macro_rules | `(tactic| walk_at "call ref") => `(tactic| (k_here; (with_reducible show wpAny _ _ (call (Value.ref 293) _) _ _ _); (with_reducible rename Fr _ _ _ _ => F'); (with_reducible rename News _ _ _ _ => N'); (rename DSt _ _ => hD'); k_dflt (refine use (encoding_ok _ _ hD'.x0 hD'.x1) F' (by assumption) N' (by assumption) trivial ⟨_, _, rfl⟩ ?_); intro r' h' tk' F' N' kp' hp'; (generalize hEn' : encO (j6 _) = o' at hp'); rcases o' with _ | e'; all_goals (dsimp only [EncR] at hp'; first | subst hp' | (obtain ⟨t', hp'⟩ := hp'; subst hp'; have hel' := encO_len hEn'))))
local macro_rules | `(tactic| walk_at "call ref") => `(tactic| (k_here; (with_reducible show wpAny _ _ (call (Value.ref 293) _) _ _ _); (rename (encO (j6 _) = some _) => hEn0'); (with_reducible rename Fr _ _ _ _ => F'); (with_reducible rename News _ _ _ _ => N'); (rename DSt _ _ => hD'); k_dflt (refine use (encoding_ok _ _ hD'.x0 hD'.x1) F' (by assumption) N' (by assumption) trivial ⟨_, _, rfl⟩ ?_); intro r' h' tk' F' N' kp' hp'; rw [hEn0'] at hp'; dsimp only [EncR] at hp'; obtain ⟨t', hp'⟩ := hp'; subst hp'))
local macro_rules | `(tactic| walk_at "call ref") => `(tactic| (k_here; (with_reducible show wpAny _ _ (call (Value.ref 300) _) _ _ _); (with_reducible rename Fr _ _ _ _ => F'); (with_reducible rename News _ _ _ _ => N'); (rename DSt _ _ => hD'); k_dflt (refine use (modifier_ok _ _ hD'.x0 hD'.x1) F' (by assumption) N' (by assumption) trivial ⟨_, _, rfl⟩ ?_); intro r' h' tk' F' N' kp' hp'; obtain ⟨t', hp'⟩ := hp'; subst hp'; have hml' := modO_len (j6 (by assumption))))
local macro_rules | `(tactic| walk_at "call ref") => `(tactic| (k_here; (with_reducible show wpAny _ _ (call (Value.ref 312) _) _ _ _); (with_reducible rename Fr _ _ _ _ => F'); (with_reducible rename News _ _ _ _ => N'); (rename DSt _ _ => hD'); (rename PIn _ _ _ => hPi'); (rename TurnG _ _ _ _ _ _ => hG'); k_dflt (refine use (peuro_ok _ _ _) F' (by assumption) N' (by assumption) (epre_of hD' N' (by k_mem) (hPi'.mono hG'.sub) (by (intro p hp; k_ownIn))) ⟨_, _, rfl⟩ ?_); intro r' h' tk' F' N' kp' hp'; obtain ⟨t', hp'⟩ := hp'; subst hp'))
local macro_rules | `(tactic| walk_at "ite") => `(tactic| (k_here; first | refine ite_pos (by first | omega | (simp only [decide_eq_true_eq, beq_iff_eq]; omega)) ?_ | refine ite_neg (by first | omega | (simp only [decide_eq_true_eq, beq_iff_eq]; omega)) ?_))
local macro_rules | `(tactic| walk_at "call ref") => `(tactic| (k_here; (with_reducible show wpAny _ _ (call (Value.ref 319) _) _ _ _); (with_reducible rename Fr _ _ _ _ => F'); (with_reducible rename News _ _ _ _ => N'); (rename DSt _ _ => hD'); (rename TurnG _ _ _ _ _ _ => hG'); (rename (PIn _ _ _ ∧ _) => hT'); k_dflt (refine use (written_ok _ _ _ _ _ _) F' (by assumption) N' (by assumption) (wpre_step hD' N' (by k_mem) (by first | rfl | exact List.push_toArray _ _) (by k_mem) (by first | rfl | exact List.push_toArray _ _) (hT'.1.mono (in_add hG' (by first | exact List.forall_mem_nil _ | (intro p hp; rw [List.mem_singleton.mp hp]; k_mem)) (by (intro p hp; k_ownIn)))) hT'.2) ⟨_, _, rfl⟩ ?_); intro r' h' tk' F' N' kp' hp'; obtain ⟨t', hp'⟩ := hp'; subst hp'))
set_option maxHeartbeats 1000000 in
theorem due_none (l : Addr) (vs : List Value) (xs : List Int) : Cn w mean mg mb 302 7 326 [.none, .ref l] (fun h => h.IsList l vs.toArray ∧ IntsAre vs xs ∧ ToldH [67] xs)
    (fun _ r h' => TextsAt h' r ((outs (st0 [67]) xs).map S)) := by
  refine enter (binds := [(Str.ofString "start", .none), (Str.ofString "deeds", .ref l)]) (by k_is) (by k_is) (by decide) rfl (locs rfl) ?_ rfl rfl rfl (by decide)
  intro fr gd s Q h₀ L m X T pre hm F N ret
  subst hm
  k_fold
  obtain ⟨hl, hi, H⟩ := pre
  repeat' ((fail_if_success (with_reducible show wpAny _ _ (pyIter _) _ _ _)); (first | (k_unfold; (try dsimp only)) | (k_end; wrow_close) | walk1 | (dsimp only; walk1)))
  (rename IntsAre _ _ => hi9)
  (rename Fr _ _ _ _ => F')
  (rename News _ _ _ _ => N')
  rw [lit_C] at N'
  with_unfolding_all refine' iter_due1 H ?hh hl hi9 F' N' ?n1 ?n2 ?n3 ?n4 ?ne ?h1 ?h2 ?h3 ?tt ?dd
  case hh => rfl
  case h1 => exact rfl
  case h2 => exact rfl
  case h3 => exact rfl
  case n1 => k_dflt k_mem
  case n2 => k_dflt k_mem
  case n3 => k_dflt k_mem
  case n4 => k_dflt k_mem
  case ne => exact ⟨neN (by omega), neN (by omega), neN (by omega)⟩
  case tt =>
    clear F' N'
    intro i x tx pvs lvs dvs np nl nd u h tk own tl tw hxi D G hoff hpi hli hdi hp7 hl6 hd7 F' N'
    have hle := D.len
    have hls6 := D.ls6
    have hfm := fm5 x
    have h5 : x.fmod 5 = 0 ∨ x.fmod 5 = 1 ∨ x.fmod 5 = 2 ∨ 2 < x.fmod 5 := by omega
    rcases h5 with h5 | h5 | h5 | h5
    all_goals (repeat' ((fail_if_success (with_reducible show wpAny _ _ (call (Value.ref 319) _) _ _ _)); (first | (k_unfold; (try dsimp only)) | (k_end; wrow_close) | walk1 | (dsimp only; walk1))))
    all_goals (with_reducible rename News _ _ _ _ => N9)
    all_goals (rename TurnG _ _ _ _ _ _ => G)
    all_goals (rename PIn _ _ _ => hpi)
    · (rename (encO _ = none) => hE)
      have hT := turn_keep G hpi hli (x := x) (by rw [pc0 _ h5, hE]; rfl) (by omega)
      k_steps
      (rename (PIn _ _ _ ∧ _) => hT8)
      (rename TurnG _ _ _ _ _ _ => G)
      (with_reducible rename News _ _ _ _ => N8)
      (with_reducible rename Fr _ _ _ _ => F8)
      exact due_end [] H hxi G hdi F8 N8 rfl rfl rfl (by k_mem) (by first | rfl | exact List.push_toArray _ _) (by k_mem) (by first | rfl | exact List.push_toArray _ _) (by k_mem) (List.forall_mem_nil _) (by (intro p hp; k_ownIn)) off_nil hT8.1 hT8.2
    · (rename (encO _ = some _) => hE)
      (rename ((_ != _) = true) => hf)
      have hT := turn_add N9 G hpi hli (x := x) (by rw [pc0 _ h5, hE]; rfl) (ey_dot _) hf (by omega)
      k_steps
      (rename (PIn _ _ _ ∧ _) => hT8)
      (rename TurnG _ _ _ _ _ _ => G)
      (with_reducible rename News _ _ _ _ => N8)
      (with_reducible rename Fr _ _ _ _ => F8)
      exact due_end [_] H hxi G hdi F8 N8 rfl rfl rfl (by k_mem) (by first | rfl | exact List.push_toArray _ _) (by k_mem) (by first | rfl | exact List.push_toArray _ _) (by k_mem) (by (intro p hp; rw [List.mem_singleton.mp hp]; k_mem)) (by (intro p hp; k_ownIn)) (off_one G (by assumption)) hT8.1 hT8.2
    · (rename ((_ != _) = false) => hf)
      exact absurd (piece_no hf (ey_dot _)) (by simp)
    · (rename ((_ != _) = true) => hf)
      have hT := turn_add N9 G hpi hli (x := x) (by rw [pc1 _ h5]) (ey_at _) hf (by omega)
      k_steps
      (rename (PIn _ _ _ ∧ _) => hT8)
      (rename TurnG _ _ _ _ _ _ => G)
      (with_reducible rename News _ _ _ _ => N8)
      (with_reducible rename Fr _ _ _ _ => F8)
      exact due_end [_] H hxi G hdi F8 N8 rfl rfl rfl (by k_mem) (by first | rfl | exact List.push_toArray _ _) (by k_mem) (by first | rfl | exact List.push_toArray _ _) (by k_mem) (by (intro p hp; rw [List.mem_singleton.mp hp]; k_mem)) (by (intro p hp; k_ownIn)) (off_one G (by assumption)) hT8.1 hT8.2
    · (rename ((_ != _) = false) => hf)
      exact absurd (piece_no hf (ey_at _)) (by simp)
    · (rename ((_ != _) = true) => hf)
      have hT := turn_add N9 G hpi hli (x := x) (by rw [pc2 _ h5]) rfl hf (by omega)
      k_steps
      (rename (PIn _ _ _ ∧ _) => hT8)
      (rename TurnG _ _ _ _ _ _ => G)
      (with_reducible rename News _ _ _ _ => N8)
      (with_reducible rename Fr _ _ _ _ => F8)
      exact due_end [_] H hxi G hdi F8 N8 rfl rfl rfl (by k_mem) (by first | rfl | exact List.push_toArray _ _) (by k_mem) (by first | rfl | exact List.push_toArray _ _) (by k_mem) (by (intro p hp; rw [List.mem_singleton.mp hp]; k_mem)) (by (intro p hp; k_ownIn)) (off_one G (by assumption)) hT8.1 hT8.2
    · (rename ((_ != _) = false) => hf)
      have hT := turn_keep G hpi hli (x := x) (by rw [pc2 _ h5]; exact piece_no hf rfl) (by omega)
      k_steps
      (rename (PIn _ _ _ ∧ _) => hT8)
      (rename TurnG _ _ _ _ _ _ => G)
      (with_reducible rename News _ _ _ _ => N8)
      (with_reducible rename Fr _ _ _ _ => F8)
      exact due_end [] H hxi G hdi F8 N8 rfl rfl rfl (by k_mem) (by first | rfl | exact List.push_toArray _ _) (by k_mem) (by first | rfl | exact List.push_toArray _ _) (by k_mem) (List.forall_mem_nil _) (by (intro p hp; k_ownIn)) off_nil hT8.1 hT8.2
    · have hT := turn_lay N9 G hpi hli h5
      k_steps
      (rename (PIn _ _ _ ∧ _) => hT8)
      (rename TurnG _ _ _ _ _ _ => G)
      (with_reducible rename News _ _ _ _ => N8)
      (with_reducible rename Fr _ _ _ _ => F8)
      exact due_end [] H hxi G hdi F8 N8 rfl rfl rfl (by k_mem) (by first | rfl | exact List.push_toArray _ _) (by k_mem) (by first | rfl | exact List.push_toArray _ _) (by k_mem) (List.forall_mem_nil _) (by (intro p hp; k_ownIn)) off_nil hT8.1 hT8.2
  case dd =>
    clear F' N'
    intro dvs k u h tk hs' F' N'
    k_steps
    exact ret _ _ _ (Fr.keep (by assumption)) ⟨_, _, rfl, News.isList (by assumption) (by k_mem), hs'⟩
end
end Mine
end
section
open PySem PySem.W PySem.Calls PyProof.Rows
set_option maxRecDepth 100000
set_option linter.unusedVariables false
namespace Mine
/-- no sign above 127 -/
def Ok (l : Cs) : Prop := ∀ c ∈ l, c < 128
theorem Ok.app {a b : Cs} (ha : Ok a) (hb : Ok b) : Ok (a ++ b) := fun c hc => (List.mem_append.mp hc).elim (ha c) (hb c)
theorem Ok.cons {c : Nat} {b : Cs} (hc : c < 128) (hb : Ok b) : Ok (c :: b) := fun d hd => (List.mem_cons.mp hd).elim (fun e => e ▸ hc) (hb d)
theorem ok_dec {l : Cs} (h : (l.all fun c => decide (c < 128)) = true) : Ok l := fun c hc => of_decide_eq_true (List.all_eq_true.mp h c hc)
theorem ok_enc (j : Nat) : Ok (encP (encO j)) := by unfold encO; split <;> exact ok_dec (by decide)
theorem ok_mod (j : Nat) : Ok (modO j) := by unfold modO; split <;> exact ok_dec (by decide)
theorem ok_tab (k : Nat) : ∀ p ∈ tab k, Ok p.2 := by
  have e : (tab k).all (fun p => p.2.all fun c => decide (c < 128)) = true := by unfold tab; split <;> decide
  exact fun p hp => ok_dec (List.all_eq_true.mp e p hp)
theorem ok_look {t : List (Nat × Cs)} (h : ∀ p ∈ t, Ok p.2) {c : Nat} (hc : c < 128) : Ok (look t c) := by
  unfold look
  cases e : t.lookup c with
  | none => exact .cons hc (fun _ h => nomatch h)
  | some z =>
    have key : ∀ {t : List (Nat × Cs)} {z : Cs}, t.lookup c = some z → ∃ p ∈ t, p.2 = z := by
      intro t
      induction t with
      | nil => intro z hz; cases hz
      | cons p r ih =>
        intro z hz
        obtain ⟨q, v⟩ := p
        rw [List.lookup_cons] at hz
        split at hz
        · cases hz; exact ⟨_, List.mem_cons_self .., rfl⟩
        · obtain ⟨p, hp, e⟩ := ih hz; exact ⟨p, List.mem_cons_of_mem _ hp, e⟩
    obtain ⟨p, hp, rfl⟩ := key e
    exact h p hp
theorem ok_spell (k : Nat) {t : Cs} (h : Ok t) : Ok (spell k t) := by
  intro c hc
  obtain ⟨d, hd, hc⟩ := List.mem_flatMap.mp hc
  exact ok_look (ok_tab k) (h d hd) c hc
theorem ok_euro {n : Cs} (h : Ok n) : Ok (euroC n) := by
  unfold euroC
  split
  · split
    · exact h
    · exact h.app (ok_dec (by decide))
  · exact h.app (ok_dec (by decide))
theorem ok_step {n : Cs} (h : Ok n) (x : Int) : Ok (stepT n x) := by
  unfold stepT
  split
  · exact h.app (ok_enc _)
  · split
    · exact h.app (.cons (by decide) (ok_mod _))
    · split
      · exact ok_euro h
      · exact ok_spell _ h
theorem ok_outs : ∀ (xs : List Int) {d : DS}, InvD d → Ok (W d) → ∀ y ∈ outs d xs, Ok y
  | [], _, _, _, _, hy => nomatch hy
  | x :: r, d, I, h, y, hy => by
    obtain ⟨e, I'⟩ := sim I x
    have h' : Ok (W (stepDS d x)) := by rw [e]; exact ok_step h x
    rcases List.mem_cons.mp hy with rfl | hy
    · exact h'
    · exact ok_outs r I' h' y hy
theorem strOk_S {y : Cs} (h : Ok y) : PyData.strOk (S y) = true := by
  show (List.toArray y).all (fun c => decide (c < 0x110000)) = true
  rw [List.all_toArray, List.all_eq_true]
  exact fun c hc => decide_eq_true (Nat.lt_trans (h c hc) (by decide))
theorem lay_strs : ∀ {ys : List Cs}, (∀ y ∈ ys, Ok y) → PyData.canLayAll0 ((ys.map S).map PyData.str) = true
  | [], _ => rfl
  | y :: r, h => by
    simp only [List.map_cons, PyData.canLayAll0, PyData.canLay0, strOk_S (h y (List.mem_cons_self ..)), Bool.true_and]
    exact lay_strs fun z hz => h z (List.mem_cons_of_mem _ hz)
theorem depth_strs : ∀ ss : List Str, PyData.depthAll (ss.map PyData.str) = 0
  | [] => rfl
  | _ :: r => by simp [PyData.depthAll, PyData.depth, depth_strs r]
theorem noMix_strs : ∀ ss : List Str, SeqAt.noMixAll (ss.map PyData.str) (ss.map PyData.str) = true
  | [] => by simp [SeqAt.noMixAll]
  | _ :: r => by simp [SeqAt.noMixAll, SeqAt.noMix, noMix_strs r]
section
variable {prog : Program} {w : World} {A : Around} {E : Value → Shared → Prop} {s : Shared} {a b : Addr} {xs ys : List Value} {zs : List Cs} {Q : Value → Shared → Prop}
theorem eq_texts (ha : s.heap.IsList a (List.toArray xs)) (hb : s.heap.IsList b (List.toArray ys)) (hi : StrsAre xs (zs.map S)) (hj : StrsAre ys (zs.map S)) (ho : ∀ y ∈ zs, Ok y) (hu : A.units + 64 < cLine) (h : Q (.bool true) s) :
    wpAny (model prog w) A (compareOp .Eq (.ref a) (.ref b)) Q E s := by
  have hsh : SeqAt.shaped (.list ((zs.map S).map PyData.str)) = true := by
    simp only [SeqAt.shaped, PyData.canLay0, PyData.depth, lay_strs ho, depth_strs]; decide
  refine eq_dataH_same (reads_newData ha (StrsAre.carried hi)) (reads_newData hb (StrsAre.carried hj)) hsh hsh hu (by simp only [SeqAt.noMix]; exact noMix_strs _) ?_
  rw [PySem.Spec.same_self]
  exact h
end
/-- the starts -/
@[irreducible] def stOf : Value → Cs
  | .str x _ => x.cps.toList
  | _ => [67]
@[irreducible] def SV (v : Value) : Prop := (∃ x t, v = .str x t ∧ 46 ∉ x.cps.toList ∧ x.cps.toList.length ≤ 5 ∧ (x.cps.toList.all fun c => decide (c < 128)) = true) ∨ v = .none
theorem stOf_str (x : Str) (t : Tok) : stOf (.str x t) = x.cps.toList := by unfold stOf; rfl
theorem stOf_none : stOf .none = [67] := by unfold stOf; rfl
theorem sv_none : SV .none := by unfold SV; exact .inr rfl
theorem sv_str {x : Str} {t : Tok} (h1 : 46 ∉ x.cps.toList) (h2 : x.cps.toList.length ≤ 5) (h3 : (x.cps.toList.all fun c => decide (c < 128)) = true) : SV (.str x t) := by unfold SV; exact .inl ⟨x, t, rfl, h1, h2, h3⟩
theorem SV.st {v : Value} (h : SV v) : 46 ∉ stOf v ∧ (stOf v).length ≤ 5 ∧ Ok (stOf v) := by
  unfold SV at h
  rcases h with ⟨x, t, rfl, h1, h2, h3⟩ | rfl
  · rw [stOf_str]; exact ⟨h1, h2, ok_dec h3⟩
  · rw [stOf_none]; exact ⟨by decide, by decide, ok_dec (by decide)⟩
theorem SV.outsOk {v : Value} (h : SV v) (xs : List Int) : ∀ y ∈ outs (st0 (stOf v)) xs, Ok y :=
  ok_outs xs (inv_st0 h.st.1) (by rw [W_st0]; exact h.st.2.2)
theorem tF {v : Value} (h : SV v) : ToldH (stOf v) [6, 3, 10, 28, 2] := ⟨by decide, by decide, h.st.1, h.st.2.1⟩
theorem tC {v : Value} (h : SV v) (n : Nat) (l : List Int) : ToldH (stOf v) (List.map (fun k' => k'.fmod 150) (List.take (min 8 n - 1) l)) := by
  refine ⟨fun x hx => ?_, ?_, h.st.1, h.st.2.1⟩
  · obtain ⟨y, _, rfl⟩ := List.mem_map.mp hx
    rw [PyProof.Rows.fmod_eq y (by decide)]; omega
  · rw [List.length_map, List.length_take]; omega
section
variable {w : World} {mean : ExcName → Option Value} {mg mb : Str → Option Value}
theorem told_any {v : Value} (h : SV v) (l : Addr) (vs : List Value) (xs : List Int) : Cn w mean mg mb 302 7 307 [v, .ref l] (fun h => h.IsList l vs.toArray ∧ IntsAre vs xs ∧ ToldH (stOf v) xs)
    (fun _ r h' => TextsAt h' r ((outs (st0 (stOf v)) xs).map S)) := by
  unfold SV at h
  rcases h with ⟨x, t, rfl, _⟩ | rfl
  · rw [stOf_str]; exact told_ok x.cps.toList t l vs xs
  · rw [stOf_none]; exact told_none l vs xs
theorem due_any {v : Value} (h : SV v) (l : Addr) (vs : List Value) (xs : List Int) : Cn w mean mg mb 302 7 326 [v, .ref l] (fun h => h.IsList l vs.toArray ∧ IntsAre vs xs ∧ ToldH (stOf v) xs)
    (fun _ r h' => TextsAt h' r ((outs (st0 (stOf v)) xs).map S)) := by
  unfold SV at h
  rcases h with ⟨x, t, rfl, _⟩ | rfl
  · rw [stOf_str]; exact due_ok x.cps.toList t l vs xs
  · rw [stOf_none]; exact due_none l vs xs
end
end Mine
end
section
open PySem PySem.W PySem.Calls PyProof.Rows
set_option maxRecDepth 100000
open Mine
set_option maxHeartbeats 8000000 in
theorem PySem.Challenge.cw_ij0175_01_holds : PySem.Challenge.rw_ij0175_01.Holds := by
  exact Mine.pick Mine.hd Mine.zz (by
  k_go0
  all_goals (try k_fold)
  all_goals (repeat' ((fail_if_success (with_reducible show wpAny _ _ (call (Value.ref _) _) _ _ _)); (first | (k_unfold; (try dsimp only)) | (k_end; wrow_close) | walk1 | (dsimp only; walk1))))
  · (with_reducible rename Fr _ _ _ _ => F'); (with_reducible rename News _ _ _ _ => N'); (with_reducible rename Frag.In _ _ => X'); (with_reducible rename Top _ _ _ _ _ _ => T')
    (with_reducible refine use (told_any ?sva0 _ ?vsa0 ?xsa0) F' X' N' T' ?prea0 ?haa0 ?goa0); (case haa0 => exact ⟨_, _, rfl⟩); (case sva0 => (first | exact sv_none | exact sv_str (by decide) (by decide) (by decide))); (case prea0 => (refine ⟨?paa0, ?pba0, ?pca0⟩; (case paa0 => exact News.isList N' (by k_mem)); (case pba0 => exact .cons _ _ (.cons _ _ (.cons _ _ (.cons _ _ (.cons _ _ .nil))))); (case pca0 => (refine tF ?_; (first | exact sv_none | exact sv_str (by decide) (by decide) (by decide))))))
    clear F' N'
    intro r' h' tk' F' N' kp' hp'
    obtain ⟨a1', ws1', hr', hl1, hs1⟩ := hp'; subst hr'
    (repeat' ((fail_if_success (with_reducible show wpAny _ _ (call (Value.ref 326) _) _ _ _)); (first | (k_unfold; (try dsimp only)) | (k_end; wrow_close) | walk1 | (dsimp only; walk1))))
    (with_reducible rename Fr _ _ _ _ => F'); (with_reducible rename News _ _ _ _ => N'); (with_reducible rename Frag.In _ _ => X'); (with_reducible rename Top _ _ _ _ _ _ => T')
    (with_reducible refine use (due_any ?svb0 _ ?vsb0 ?xsb0) F' X' N' T' ?preb0 ?hab0 ?gob0); (case hab0 => exact ⟨_, _, rfl⟩); (case svb0 => (first | exact sv_none | exact sv_str (by decide) (by decide) (by decide))); (case preb0 => (refine ⟨?pab0, ?pbb0, ?pcb0⟩; (case pab0 => exact News.isList N' (by k_mem)); (case pbb0 => exact .cons _ _ (.cons _ _ (.cons _ _ (.cons _ _ (.cons _ _ .nil))))); (case pcb0 => (refine tF ?_; (first | exact sv_none | exact sv_str (by decide) (by decide) (by decide))))))
    clear F' N'
    intro r' h' tk' F' N' kp' hp'
    have hl2 := Heap.IsList.at hl1 fun o e => kp' _ o e
    obtain ⟨a1', ws1', hr', hl3, hs3⟩ := hp'; subst hr'
    (repeat' ((fail_if_success (with_reducible show wpAny _ _ (compareOp _ _ _) _ _ _)); (first | (k_unfold; (try dsimp only)) | (k_end; wrow_close) | walk1 | (dsimp only; walk1))))
    (with_reducible refine eq_texts ?ea0 ?eb0 hs1 hs3 ?eo0 ?eu0 ?_)
    (case ea0 => exact hl2)
    (case eb0 => exact hl3)
    (case eo0 => (refine SV.outsOk ?_ _; (first | exact sv_none | exact sv_str (by decide) (by decide) (by decide))))
    (case eu0 => units_room)
    (repeat' (first | (k_unfold; (try dsimp only)) | (k_end; wrow_close) | walk1 | (dsimp only; walk1)))
  · (with_reducible rename Fr _ _ _ _ => F'); (with_reducible rename News _ _ _ _ => N'); (with_reducible rename Frag.In _ _ => X'); (with_reducible rename Top _ _ _ _ _ _ => T')
    (with_reducible refine use (told_any ?sva1 _ ?vsa1 ?xsa1) F' X' N' T' ?prea1 ?haa1 ?goa1); (case haa1 => exact ⟨_, _, rfl⟩); (case sva1 => (first | exact sv_none | exact sv_str (by decide) (by decide) (by decide))); (case prea1 => (refine ⟨?paa1, ?pba1, ?pca1⟩; (case paa1 => exact News.isList N' (by k_mem)); (rename (IntsAre _ (List.map _ _)) => hI8); (case pba1 => exact hI8); (case pca1 => (refine tC ?_ _ _; (first | exact sv_none | exact sv_str (by decide) (by decide) (by decide))))))
    clear F' N'
    intro r' h' tk' F' N' kp' hp'
    obtain ⟨a1', ws1', hr', hl1, hs1⟩ := hp'; subst hr'
    (repeat' ((fail_if_success (with_reducible show wpAny _ _ (call (Value.ref 326) _) _ _ _)); (first | (k_unfold; (try dsimp only)) | (k_end; wrow_close) | walk1 | (dsimp only; walk1))))
    (with_reducible rename Fr _ _ _ _ => F'); (with_reducible rename News _ _ _ _ => N'); (with_reducible rename Frag.In _ _ => X'); (with_reducible rename Top _ _ _ _ _ _ => T')
    (with_reducible refine use (due_any ?svb1 _ ?vsb1 ?xsb1) F' X' N' T' ?preb1 ?hab1 ?gob1); (case hab1 => exact ⟨_, _, rfl⟩); (case svb1 => (first | exact sv_none | exact sv_str (by decide) (by decide) (by decide))); (case preb1 => (refine ⟨?pab1, ?pbb1, ?pcb1⟩; (case pab1 => exact News.isList N' (by k_mem)); (rename (IntsAre _ (List.map _ _)) => hI8); (case pbb1 => exact hI8); (case pcb1 => (refine tC ?_ _ _; (first | exact sv_none | exact sv_str (by decide) (by decide) (by decide))))))
    clear F' N'
    intro r' h' tk' F' N' kp' hp'
    have hl2 := Heap.IsList.at hl1 fun o e => kp' _ o e
    obtain ⟨a1', ws1', hr', hl3, hs3⟩ := hp'; subst hr'
    (repeat' ((fail_if_success (with_reducible show wpAny _ _ (compareOp _ _ _) _ _ _)); (first | (k_unfold; (try dsimp only)) | (k_end; wrow_close) | walk1 | (dsimp only; walk1))))
    (with_reducible refine eq_texts ?ea1 ?eb1 hs1 hs3 ?eo1 ?eu1 ?_)
    (case ea1 => exact hl2)
    (case eb1 => exact hl3)
    (case eo1 => (refine SV.outsOk ?_ _; (first | exact sv_none | exact sv_str (by decide) (by decide) (by decide))))
    (case eu1 => units_room)
    (repeat' (first | (k_unfold; (try dsimp only)) | (k_end; wrow_close) | walk1 | (dsimp only; walk1)))
  · (with_reducible rename Fr _ _ _ _ => F'); (with_reducible rename News _ _ _ _ => N'); (with_reducible rename Frag.In _ _ => X'); (with_reducible rename Top _ _ _ _ _ _ => T')
    (with_reducible refine use (told_any ?sva2 _ ?vsa2 ?xsa2) F' X' N' T' ?prea2 ?haa2 ?goa2); (case haa2 => exact ⟨_, _, rfl⟩); (case sva2 => (first | exact sv_none | exact sv_str (by decide) (by decide) (by decide))); (case prea2 => (refine ⟨?paa2, ?pba2, ?pca2⟩; (case paa2 => exact News.isList N' (by k_mem)); (case pba2 => exact .cons _ _ (.cons _ _ (.cons _ _ (.cons _ _ (.cons _ _ .nil))))); (case pca2 => (refine tF ?_; (first | exact sv_none | exact sv_str (by decide) (by decide) (by decide))))))
    clear F' N'
    intro r' h' tk' F' N' kp' hp'
    obtain ⟨a1', ws1', hr', hl1, hs1⟩ := hp'; subst hr'
    (repeat' ((fail_if_success (with_reducible show wpAny _ _ (call (Value.ref 326) _) _ _ _)); (first | (k_unfold; (try dsimp only)) | (k_end; wrow_close) | walk1 | (dsimp only; walk1))))
    (with_reducible rename Fr _ _ _ _ => F'); (with_reducible rename News _ _ _ _ => N'); (with_reducible rename Frag.In _ _ => X'); (with_reducible rename Top _ _ _ _ _ _ => T')
    (with_reducible refine use (due_any ?svb2 _ ?vsb2 ?xsb2) F' X' N' T' ?preb2 ?hab2 ?gob2); (case hab2 => exact ⟨_, _, rfl⟩); (case svb2 => (first | exact sv_none | exact sv_str (by decide) (by decide) (by decide))); (case preb2 => (refine ⟨?pab2, ?pbb2, ?pcb2⟩; (case pab2 => exact News.isList N' (by k_mem)); (case pbb2 => exact .cons _ _ (.cons _ _ (.cons _ _ (.cons _ _ (.cons _ _ .nil))))); (case pcb2 => (refine tF ?_; (first | exact sv_none | exact sv_str (by decide) (by decide) (by decide))))))
    clear F' N'
    intro r' h' tk' F' N' kp' hp'
    have hl2 := Heap.IsList.at hl1 fun o e => kp' _ o e
    obtain ⟨a1', ws1', hr', hl3, hs3⟩ := hp'; subst hr'
    (repeat' ((fail_if_success (with_reducible show wpAny _ _ (compareOp _ _ _) _ _ _)); (first | (k_unfold; (try dsimp only)) | (k_end; wrow_close) | walk1 | (dsimp only; walk1))))
    (with_reducible refine eq_texts ?ea2 ?eb2 hs1 hs3 ?eo2 ?eu2 ?_)
    (case ea2 => exact hl2)
    (case eb2 => exact hl3)
    (case eo2 => (refine SV.outsOk ?_ _; (first | exact sv_none | exact sv_str (by decide) (by decide) (by decide))))
    (case eu2 => units_room)
    (repeat' (first | (k_unfold; (try dsimp only)) | (k_end; wrow_close) | walk1 | (dsimp only; walk1)))
  · (with_reducible rename Fr _ _ _ _ => F'); (with_reducible rename News _ _ _ _ => N'); (with_reducible rename Frag.In _ _ => X'); (with_reducible rename Top _ _ _ _ _ _ => T')
    (with_reducible refine use (told_any ?sva3 _ ?vsa3 ?xsa3) F' X' N' T' ?prea3 ?haa3 ?goa3); (case haa3 => exact ⟨_, _, rfl⟩); (case sva3 => (first | exact sv_none | exact sv_str (by decide) (by decide) (by decide))); (case prea3 => (refine ⟨?paa3, ?pba3, ?pca3⟩; (case paa3 => exact News.isList N' (by k_mem)); (rename (IntsAre _ (List.map _ _)) => hI8); (case pba3 => exact hI8); (case pca3 => (refine tC ?_ _ _; (first | exact sv_none | exact sv_str (by decide) (by decide) (by decide))))))
    clear F' N'
    intro r' h' tk' F' N' kp' hp'
    obtain ⟨a1', ws1', hr', hl1, hs1⟩ := hp'; subst hr'
    (repeat' ((fail_if_success (with_reducible show wpAny _ _ (call (Value.ref 326) _) _ _ _)); (first | (k_unfold; (try dsimp only)) | (k_end; wrow_close) | walk1 | (dsimp only; walk1))))
    (with_reducible rename Fr _ _ _ _ => F'); (with_reducible rename News _ _ _ _ => N'); (with_reducible rename Frag.In _ _ => X'); (with_reducible rename Top _ _ _ _ _ _ => T')
    (with_reducible refine use (due_any ?svb3 _ ?vsb3 ?xsb3) F' X' N' T' ?preb3 ?hab3 ?gob3); (case hab3 => exact ⟨_, _, rfl⟩); (case svb3 => (first | exact sv_none | exact sv_str (by decide) (by decide) (by decide))); (case preb3 => (refine ⟨?pab3, ?pbb3, ?pcb3⟩; (case pab3 => exact News.isList N' (by k_mem)); (rename (IntsAre _ (List.map _ _)) => hI8); (case pbb3 => exact hI8); (case pcb3 => (refine tC ?_ _ _; (first | exact sv_none | exact sv_str (by decide) (by decide) (by decide))))))
    clear F' N'
    intro r' h' tk' F' N' kp' hp'
    have hl2 := Heap.IsList.at hl1 fun o e => kp' _ o e
    obtain ⟨a1', ws1', hr', hl3, hs3⟩ := hp'; subst hr'
    (repeat' ((fail_if_success (with_reducible show wpAny _ _ (compareOp _ _ _) _ _ _)); (first | (k_unfold; (try dsimp only)) | (k_end; wrow_close) | walk1 | (dsimp only; walk1))))
    (with_reducible refine eq_texts ?ea3 ?eb3 hs1 hs3 ?eo3 ?eu3 ?_)
    (case ea3 => exact hl2)
    (case eb3 => exact hl3)
    (case eo3 => (refine SV.outsOk ?_ _; (first | exact sv_none | exact sv_str (by decide) (by decide) (by decide))))
    (case eu3 => units_room)
    (repeat' (first | (k_unfold; (try dsimp only)) | (k_end; wrow_close) | walk1 | (dsimp only; walk1)))
  · (with_reducible rename Fr _ _ _ _ => F'); (with_reducible rename News _ _ _ _ => N'); (with_reducible rename Frag.In _ _ => X'); (with_reducible rename Top _ _ _ _ _ _ => T')
    (with_reducible refine use (told_any ?sva4 _ ?vsa4 ?xsa4) F' X' N' T' ?prea4 ?haa4 ?goa4); (case haa4 => exact ⟨_, _, rfl⟩); (case sva4 => (first | exact sv_none | exact sv_str (by decide) (by decide) (by decide))); (case prea4 => (refine ⟨?paa4, ?pba4, ?pca4⟩; (case paa4 => exact News.isList N' (by k_mem)); (case pba4 => exact .cons _ _ (.cons _ _ (.cons _ _ (.cons _ _ (.cons _ _ .nil))))); (case pca4 => (refine tF ?_; (first | exact sv_none | exact sv_str (by decide) (by decide) (by decide))))))
    clear F' N'
    intro r' h' tk' F' N' kp' hp'
    obtain ⟨a1', ws1', hr', hl1, hs1⟩ := hp'; subst hr'
    (repeat' ((fail_if_success (with_reducible show wpAny _ _ (call (Value.ref 326) _) _ _ _)); (first | (k_unfold; (try dsimp only)) | (k_end; wrow_close) | walk1 | (dsimp only; walk1))))
    (with_reducible rename Fr _ _ _ _ => F'); (with_reducible rename News _ _ _ _ => N'); (with_reducible rename Frag.In _ _ => X'); (with_reducible rename Top _ _ _ _ _ _ => T')
    (with_reducible refine use (due_any ?svb4 _ ?vsb4 ?xsb4) F' X' N' T' ?preb4 ?hab4 ?gob4); (case hab4 => exact ⟨_, _, rfl⟩); (case svb4 => (first | exact sv_none | exact sv_str (by decide) (by decide) (by decide))); (case preb4 => (refine ⟨?pab4, ?pbb4, ?pcb4⟩; (case pab4 => exact News.isList N' (by k_mem)); (case pbb4 => exact .cons _ _ (.cons _ _ (.cons _ _ (.cons _ _ (.cons _ _ .nil))))); (case pcb4 => (refine tF ?_; (first | exact sv_none | exact sv_str (by decide) (by decide) (by decide))))))
    clear F' N'
    intro r' h' tk' F' N' kp' hp'
    have hl2 := Heap.IsList.at hl1 fun o e => kp' _ o e
    obtain ⟨a1', ws1', hr', hl3, hs3⟩ := hp'; subst hr'
    (repeat' ((fail_if_success (with_reducible show wpAny _ _ (compareOp _ _ _) _ _ _)); (first | (k_unfold; (try dsimp only)) | (k_end; wrow_close) | walk1 | (dsimp only; walk1))))
    (with_reducible refine eq_texts ?ea4 ?eb4 hs1 hs3 ?eo4 ?eu4 ?_)
    (case ea4 => exact hl2)
    (case eb4 => exact hl3)
    (case eo4 => (refine SV.outsOk ?_ _; (first | exact sv_none | exact sv_str (by decide) (by decide) (by decide))))
    (case eu4 => units_room)
    (repeat' (first | (k_unfold; (try dsimp only)) | (k_end; wrow_close) | walk1 | (dsimp only; walk1)))
  · (with_reducible rename Fr _ _ _ _ => F'); (with_reducible rename News _ _ _ _ => N'); (with_reducible rename Frag.In _ _ => X'); (with_reducible rename Top _ _ _ _ _ _ => T')
    (with_reducible refine use (told_any ?sva5 _ ?vsa5 ?xsa5) F' X' N' T' ?prea5 ?haa5 ?goa5); (case haa5 => exact ⟨_, _, rfl⟩); (case sva5 => (first | exact sv_none | exact sv_str (by decide) (by decide) (by decide))); (case prea5 => (refine ⟨?paa5, ?pba5, ?pca5⟩; (case paa5 => exact News.isList N' (by k_mem)); (rename (IntsAre _ (List.map _ _)) => hI8); (case pba5 => exact hI8); (case pca5 => (refine tC ?_ _ _; (first | exact sv_none | exact sv_str (by decide) (by decide) (by decide))))))
    clear F' N'
    intro r' h' tk' F' N' kp' hp'
    obtain ⟨a1', ws1', hr', hl1, hs1⟩ := hp'; subst hr'
    (repeat' ((fail_if_success (with_reducible show wpAny _ _ (call (Value.ref 326) _) _ _ _)); (first | (k_unfold; (try dsimp only)) | (k_end; wrow_close) | walk1 | (dsimp only; walk1))))
    (with_reducible rename Fr _ _ _ _ => F'); (with_reducible rename News _ _ _ _ => N'); (with_reducible rename Frag.In _ _ => X'); (with_reducible rename Top _ _ _ _ _ _ => T')
    (with_reducible refine use (due_any ?svb5 _ ?vsb5 ?xsb5) F' X' N' T' ?preb5 ?hab5 ?gob5); (case hab5 => exact ⟨_, _, rfl⟩); (case svb5 => (first | exact sv_none | exact sv_str (by decide) (by decide) (by decide))); (case preb5 => (refine ⟨?pab5, ?pbb5, ?pcb5⟩; (case pab5 => exact News.isList N' (by k_mem)); (rename (IntsAre _ (List.map _ _)) => hI8); (case pbb5 => exact hI8); (case pcb5 => (refine tC ?_ _ _; (first | exact sv_none | exact sv_str (by decide) (by decide) (by decide))))))
    clear F' N'
    intro r' h' tk' F' N' kp' hp'
    have hl2 := Heap.IsList.at hl1 fun o e => kp' _ o e
    obtain ⟨a1', ws1', hr', hl3, hs3⟩ := hp'; subst hr'
    (repeat' ((fail_if_success (with_reducible show wpAny _ _ (compareOp _ _ _) _ _ _)); (first | (k_unfold; (try dsimp only)) | (k_end; wrow_close) | walk1 | (dsimp only; walk1))))
    (with_reducible refine eq_texts ?ea5 ?eb5 hs1 hs3 ?eo5 ?eu5 ?_)
    (case ea5 => exact hl2)
    (case eb5 => exact hl3)
    (case eo5 => (refine SV.outsOk ?_ _; (first | exact sv_none | exact sv_str (by decide) (by decide) (by decide))))
    (case eu5 => units_room)
    (repeat' (first | (k_unfold; (try dsimp only)) | (k_end; wrow_close) | walk1 | (dsimp only; walk1)))
  · (with_reducible rename Fr _ _ _ _ => F'); (with_reducible rename News _ _ _ _ => N'); (with_reducible rename Frag.In _ _ => X'); (with_reducible rename Top _ _ _ _ _ _ => T')
    (with_reducible refine use (told_any ?sva6 _ ?vsa6 ?xsa6) F' X' N' T' ?prea6 ?haa6 ?goa6); (case haa6 => exact ⟨_, _, rfl⟩); (case sva6 => (first | exact sv_none | exact sv_str (by decide) (by decide) (by decide))); (case prea6 => (refine ⟨?paa6, ?pba6, ?pca6⟩; (case paa6 => exact News.isList N' (by k_mem)); (case pba6 => exact .cons _ _ (.cons _ _ (.cons _ _ (.cons _ _ (.cons _ _ .nil))))); (case pca6 => (refine tF ?_; (first | exact sv_none | exact sv_str (by decide) (by decide) (by decide))))))
    clear F' N'
    intro r' h' tk' F' N' kp' hp'
    obtain ⟨a1', ws1', hr', hl1, hs1⟩ := hp'; subst hr'
    (repeat' ((fail_if_success (with_reducible show wpAny _ _ (call (Value.ref 326) _) _ _ _)); (first | (k_unfold; (try dsimp only)) | (k_end; wrow_close) | walk1 | (dsimp only; walk1))))
    (with_reducible rename Fr _ _ _ _ => F'); (with_reducible rename News _ _ _ _ => N'); (with_reducible rename Frag.In _ _ => X'); (with_reducible rename Top _ _ _ _ _ _ => T')
    (with_reducible refine use (due_any ?svb6 _ ?vsb6 ?xsb6) F' X' N' T' ?preb6 ?hab6 ?gob6); (case hab6 => exact ⟨_, _, rfl⟩); (case svb6 => (first | exact sv_none | exact sv_str (by decide) (by decide) (by decide))); (case preb6 => (refine ⟨?pab6, ?pbb6, ?pcb6⟩; (case pab6 => exact News.isList N' (by k_mem)); (case pbb6 => exact .cons _ _ (.cons _ _ (.cons _ _ (.cons _ _ (.cons _ _ .nil))))); (case pcb6 => (refine tF ?_; (first | exact sv_none | exact sv_str (by decide) (by decide) (by decide))))))
    clear F' N'
    intro r' h' tk' F' N' kp' hp'
    have hl2 := Heap.IsList.at hl1 fun o e => kp' _ o e
    obtain ⟨a1', ws1', hr', hl3, hs3⟩ := hp'; subst hr'
    (repeat' ((fail_if_success (with_reducible show wpAny _ _ (compareOp _ _ _) _ _ _)); (first | (k_unfold; (try dsimp only)) | (k_end; wrow_close) | walk1 | (dsimp only; walk1))))
    (with_reducible refine eq_texts ?ea6 ?eb6 hs1 hs3 ?eo6 ?eu6 ?_)
    (case ea6 => exact hl2)
    (case eb6 => exact hl3)
    (case eo6 => (refine SV.outsOk ?_ _; (first | exact sv_none | exact sv_str (by decide) (by decide) (by decide))))
    (case eu6 => units_room)
    (repeat' (first | (k_unfold; (try dsimp only)) | (k_end; wrow_close) | walk1 | (dsimp only; walk1)))
  · (with_reducible rename Fr _ _ _ _ => F'); (with_reducible rename News _ _ _ _ => N'); (with_reducible rename Frag.In _ _ => X'); (with_reducible rename Top _ _ _ _ _ _ => T')
    (with_reducible refine use (told_any ?sva7 _ ?vsa7 ?xsa7) F' X' N' T' ?prea7 ?haa7 ?goa7); (case haa7 => exact ⟨_, _, rfl⟩); (case sva7 => (first | exact sv_none | exact sv_str (by decide) (by decide) (by decide))); (case prea7 => (refine ⟨?paa7, ?pba7, ?pca7⟩; (case paa7 => exact News.isList N' (by k_mem)); (rename (IntsAre _ (List.map _ _)) => hI8); (case pba7 => exact hI8); (case pca7 => (refine tC ?_ _ _; (first | exact sv_none | exact sv_str (by decide) (by decide) (by decide))))))
    clear F' N'
    intro r' h' tk' F' N' kp' hp'
    obtain ⟨a1', ws1', hr', hl1, hs1⟩ := hp'; subst hr'
    (repeat' ((fail_if_success (with_reducible show wpAny _ _ (call (Value.ref 326) _) _ _ _)); (first | (k_unfold; (try dsimp only)) | (k_end; wrow_close) | walk1 | (dsimp only; walk1))))
    (with_reducible rename Fr _ _ _ _ => F'); (with_reducible rename News _ _ _ _ => N'); (with_reducible rename Frag.In _ _ => X'); (with_reducible rename Top _ _ _ _ _ _ => T')
    (with_reducible refine use (due_any ?svb7 _ ?vsb7 ?xsb7) F' X' N' T' ?preb7 ?hab7 ?gob7); (case hab7 => exact ⟨_, _, rfl⟩); (case svb7 => (first | exact sv_none | exact sv_str (by decide) (by decide) (by decide))); (case preb7 => (refine ⟨?pab7, ?pbb7, ?pcb7⟩; (case pab7 => exact News.isList N' (by k_mem)); (rename (IntsAre _ (List.map _ _)) => hI8); (case pbb7 => exact hI8); (case pcb7 => (refine tC ?_ _ _; (first | exact sv_none | exact sv_str (by decide) (by decide) (by decide))))))
    clear F' N'
    intro r' h' tk' F' N' kp' hp'
    have hl2 := Heap.IsList.at hl1 fun o e => kp' _ o e
    obtain ⟨a1', ws1', hr', hl3, hs3⟩ := hp'; subst hr'
    (repeat' ((fail_if_success (with_reducible show wpAny _ _ (compareOp _ _ _) _ _ _)); (first | (k_unfold; (try dsimp only)) | (k_end; wrow_close) | walk1 | (dsimp only; walk1))))
    (with_reducible refine eq_texts ?ea7 ?eb7 hs1 hs3 ?eo7 ?eu7 ?_)
    (case ea7 => exact hl2)
    (case eb7 => exact hl3)
    (case eo7 => (refine SV.outsOk ?_ _; (first | exact sv_none | exact sv_str (by decide) (by decide) (by decide))))
    (case eu7 => units_room)
    (repeat' (first | (k_unfold; (try dsimp only)) | (k_end; wrow_close) | walk1 | (dsimp only; walk1)))
  · (with_reducible rename Fr _ _ _ _ => F'); (with_reducible rename News _ _ _ _ => N'); (with_reducible rename Frag.In _ _ => X'); (with_reducible rename Top _ _ _ _ _ _ => T')
    (with_reducible refine use (told_any ?sva8 _ ?vsa8 ?xsa8) F' X' N' T' ?prea8 ?haa8 ?goa8); (case haa8 => exact ⟨_, _, rfl⟩); (case sva8 => (first | exact sv_none | exact sv_str (by decide) (by decide) (by decide))); (case prea8 => (refine ⟨?paa8, ?pba8, ?pca8⟩; (case paa8 => exact News.isList N' (by k_mem)); (case pba8 => exact .cons _ _ (.cons _ _ (.cons _ _ (.cons _ _ (.cons _ _ .nil))))); (case pca8 => (refine tF ?_; (first | exact sv_none | exact sv_str (by decide) (by decide) (by decide))))))
    clear F' N'
    intro r' h' tk' F' N' kp' hp'
    obtain ⟨a1', ws1', hr', hl1, hs1⟩ := hp'; subst hr'
    (repeat' ((fail_if_success (with_reducible show wpAny _ _ (call (Value.ref 326) _) _ _ _)); (first | (k_unfold; (try dsimp only)) | (k_end; wrow_close) | walk1 | (dsimp only; walk1))))
    (with_reducible rename Fr _ _ _ _ => F'); (with_reducible rename News _ _ _ _ => N'); (with_reducible rename Frag.In _ _ => X'); (with_reducible rename Top _ _ _ _ _ _ => T')
    (with_reducible refine use (due_any ?svb8 _ ?vsb8 ?xsb8) F' X' N' T' ?preb8 ?hab8 ?gob8); (case hab8 => exact ⟨_, _, rfl⟩); (case svb8 => (first | exact sv_none | exact sv_str (by decide) (by decide) (by decide))); (case preb8 => (refine ⟨?pab8, ?pbb8, ?pcb8⟩; (case pab8 => exact News.isList N' (by k_mem)); (case pbb8 => exact .cons _ _ (.cons _ _ (.cons _ _ (.cons _ _ (.cons _ _ .nil))))); (case pcb8 => (refine tF ?_; (first | exact sv_none | exact sv_str (by decide) (by decide) (by decide))))))
    clear F' N'
    intro r' h' tk' F' N' kp' hp'
    have hl2 := Heap.IsList.at hl1 fun o e => kp' _ o e
    obtain ⟨a1', ws1', hr', hl3, hs3⟩ := hp'; subst hr'
    (repeat' ((fail_if_success (with_reducible show wpAny _ _ (compareOp _ _ _) _ _ _)); (first | (k_unfold; (try dsimp only)) | (k_end; wrow_close) | walk1 | (dsimp only; walk1))))
    (with_reducible refine eq_texts ?ea8 ?eb8 hs1 hs3 ?eo8 ?eu8 ?_)
    (case ea8 => exact hl2)
    (case eb8 => exact hl3)
    (case eo8 => (refine SV.outsOk ?_ _; (first | exact sv_none | exact sv_str (by decide) (by decide) (by decide))))
    (case eu8 => units_room)
    (repeat' (first | (k_unfold; (try dsimp only)) | (k_end; wrow_close) | walk1 | (dsimp only; walk1)))
  · (with_reducible rename Fr _ _ _ _ => F'); (with_reducible rename News _ _ _ _ => N'); (with_reducible rename Frag.In _ _ => X'); (with_reducible rename Top _ _ _ _ _ _ => T')
    (with_reducible refine use (told_any ?sva9 _ ?vsa9 ?xsa9) F' X' N' T' ?prea9 ?haa9 ?goa9); (case haa9 => exact ⟨_, _, rfl⟩); (case sva9 => (first | exact sv_none | exact sv_str (by decide) (by decide) (by decide))); (case prea9 => (refine ⟨?paa9, ?pba9, ?pca9⟩; (case paa9 => exact News.isList N' (by k_mem)); (rename (IntsAre _ (List.map _ _)) => hI8); (case pba9 => exact hI8); (case pca9 => (refine tC ?_ _ _; (first | exact sv_none | exact sv_str (by decide) (by decide) (by decide))))))
    clear F' N'
    intro r' h' tk' F' N' kp' hp'
    obtain ⟨a1', ws1', hr', hl1, hs1⟩ := hp'; subst hr'
    (repeat' ((fail_if_success (with_reducible show wpAny _ _ (call (Value.ref 326) _) _ _ _)); (first | (k_unfold; (try dsimp only)) | (k_end; wrow_close) | walk1 | (dsimp only; walk1))))
    (with_reducible rename Fr _ _ _ _ => F'); (with_reducible rename News _ _ _ _ => N'); (with_reducible rename Frag.In _ _ => X'); (with_reducible rename Top _ _ _ _ _ _ => T')
    (with_reducible refine use (due_any ?svb9 _ ?vsb9 ?xsb9) F' X' N' T' ?preb9 ?hab9 ?gob9); (case hab9 => exact ⟨_, _, rfl⟩); (case svb9 => (first | exact sv_none | exact sv_str (by decide) (by decide) (by decide))); (case preb9 => (refine ⟨?pab9, ?pbb9, ?pcb9⟩; (case pab9 => exact News.isList N' (by k_mem)); (rename (IntsAre _ (List.map _ _)) => hI8); (case pbb9 => exact hI8); (case pcb9 => (refine tC ?_ _ _; (first | exact sv_none | exact sv_str (by decide) (by decide) (by decide))))))
    clear F' N'
    intro r' h' tk' F' N' kp' hp'
    have hl2 := Heap.IsList.at hl1 fun o e => kp' _ o e
    obtain ⟨a1', ws1', hr', hl3, hs3⟩ := hp'; subst hr'
    (repeat' ((fail_if_success (with_reducible show wpAny _ _ (compareOp _ _ _) _ _ _)); (first | (k_unfold; (try dsimp only)) | (k_end; wrow_close) | walk1 | (dsimp only; walk1))))
    (with_reducible refine eq_texts ?ea9 ?eb9 hs1 hs3 ?eo9 ?eu9 ?_)
    (case ea9 => exact hl2)
    (case eb9 => exact hl3)
    (case eo9 => (refine SV.outsOk ?_ _; (first | exact sv_none | exact sv_str (by decide) (by decide) (by decide))))
    (case eu9 => units_room)
    (repeat' (first | (k_unfold; (try dsimp only)) | (k_end; wrow_close) | walk1 | (dsimp only; walk1))))
end
