import PyProof.Rows.All
import Wide.All
import OpenK.AllK
import Wide.FinOn
import Lean
import PySem.Challenge.RW_wk0016_01
set_option Elab.async false
section
set_option maxRecDepth 100000
namespace Mine
open PySem PySem.Spec PySem.Calls PyProof.Rows PySem.W PySem.W.X

/-- the objects at hand, by number: address and object -/
inductive LT where
  | nil
  | node (a : Nat) (o : Obj) (l r : LT)
/-- a list of seven, item by item -/
theorem len7 {α : Type} (l : List α) (h : l.length = 7) : ∃ a b c d e f g, l = [a, b, c, d, e, f, g] := by
  match l, h with
  | [a, b, c, d, e, f, g], _ => exact ⟨a, b, c, d, e, f, g, rfl⟩
namespace LT
noncomputable def get : LT → Nat → Option (Nat × Obj)
  | .nil, _ => none
  | .node a v l r, i => match Nat.beq i 0 with
    | true => some (a, v)
    | false => match Nat.beq (i % 2) 1 with
      | true => l.get (i / 2)
      | false => r.get (i / 2 - 1)
noncomputable def set : LT → Nat → (Obj → Obj) → LT
  | .nil, _, _ => .nil
  | .node a v l r, i, f => match Nat.beq i 0 with
    | true => .node a (f v) l r
    | false => match Nat.beq (i % 2) 1 with
      | true => .node a v (l.set (i / 2) f) r
      | false => .node a v l (r.set (i / 2 - 1) f)
noncomputable def ins : LT → Nat → Nat → Obj → LT
  | .nil, _, a, o => .node a o .nil .nil
  | .node b v l r, i, a, o => match Nat.beq i 0 with
    | true => .node a o l r
    | false => match Nat.beq (i % 2) 1 with
      | true => .node b v (l.ins (i / 2) a o) r
      | false => .node b v l (r.ins (i / 2 - 1) a o)
theorem get_node (a : Nat) (v : Obj) (l r : LT) (i : Nat) : (node a v l r).get i = if i = 0 then some (a, v) else if i % 2 = 1 then l.get (i / 2) else r.get (i / 2 - 1) := by
  show (match Nat.beq i 0 with | true => some (a, v) | false => match Nat.beq (i % 2) 1 with | true => l.get (i / 2) | false => r.get (i / 2 - 1)) = _
  rw [BT.beq_eq, BT.beq_eq]
  by_cases h : i = 0
  · simp [h]
  · by_cases q : i % 2 = 1 <;> simp [h, q]
theorem set_node (a : Nat) (v : Obj) (l r : LT) (i : Nat) (f : Obj → Obj) : (node a v l r).set i f = if i = 0 then node a (f v) l r else if i % 2 = 1 then node a v (l.set (i / 2) f) r else node a v l (r.set (i / 2 - 1) f) := by
  show (match Nat.beq i 0 with | true => node a (f v) l r | false => match Nat.beq (i % 2) 1 with | true => node a v (l.set (i / 2) f) r | false => node a v l (r.set (i / 2 - 1) f)) = _
  rw [BT.beq_eq, BT.beq_eq]
  by_cases h : i = 0
  · simp [h]
  · by_cases q : i % 2 = 1 <;> simp [h, q]
theorem ins_node (b : Nat) (v : Obj) (l r : LT) (i a : Nat) (o : Obj) : (node b v l r).ins i a o = if i = 0 then node a o l r else if i % 2 = 1 then node b v (l.ins (i / 2) a o) r else node b v l (r.ins (i / 2 - 1) a o) := by
  show (match Nat.beq i 0 with | true => node a o l r | false => match Nat.beq (i % 2) 1 with | true => node b v (l.ins (i / 2) a o) r | false => node b v l (r.ins (i / 2 - 1) a o)) = _
  rw [BT.beq_eq, BT.beq_eq]
  by_cases h : i = 0
  · simp [h]
  · by_cases q : i % 2 = 1 <;> simp [h, q]
theorem md_div {n j r : Nat} (hn : 0 < n) (h : r < n) : (n * j + r) / n = j := by rw [Nat.mul_add_div hn, Nat.div_eq_of_lt h, Nat.add_zero]
theorem md_mod {n j r : Nat} (h : r < n) : (n * j + r) % n = r := by rw [Nat.mul_add_mod, Nat.mod_eq_of_lt h]
theorem md_lt {n j r N : Nat} (h : r < n) (hj : j < N) : n * j + r < n * N := Nat.lt_of_lt_of_le (Nat.add_lt_add_left h _) (by rw [← Nat.mul_succ]; exact Nat.mul_le_mul_left n hj)
theorem half1 {i j : Nat} (hi : i % 2 = 1) (hj : j % 2 = 1) : i / 2 = j / 2 ↔ i = j :=
  ⟨fun e => by rw [← Nat.div_add_mod i 2, ← Nat.div_add_mod j 2, e, hi, hj], fun e => by rw [e]⟩
theorem half_pos {i : Nat} (h0 : i ≠ 0) (hi : i % 2 = 0) : 0 < i / 2 := Nat.pos_of_ne_zero fun z => h0 (by rw [← Nat.div_add_mod i 2, z, hi])
theorem half0 {i j : Nat} (h0 : i ≠ 0) (k0 : j ≠ 0) (hi : ¬ i % 2 = 1) (hj : ¬ j % 2 = 1) : i / 2 - 1 = j / 2 - 1 ↔ i = j := by
  have hi' : i % 2 = 0 := (Nat.mod_two_eq_zero_or_one i).resolve_right hi
  have hj' : j % 2 = 0 := (Nat.mod_two_eq_zero_or_one j).resolve_right hj
  refine ⟨fun e => ?_, fun e => by rw [e]⟩
  have e2 : i / 2 = j / 2 := by rw [← Nat.succ_pred_eq_of_pos (half_pos h0 hi'), ← Nat.succ_pred_eq_of_pos (half_pos k0 hj')]; exact congrArg Nat.succ e
  rw [← Nat.div_add_mod i 2, ← Nat.div_add_mod j 2, e2, hi', hj']
theorem get_set (f : Obj → Obj) : ∀ (t : LT) (j i : Nat), (t.set j f).get i = if i = j then (t.get j).map (fun q => (q.1, f q.2)) else t.get i
  | .nil, j, i => by
    show (LT.nil.get i) = _
    simp [get]
  | .node a v l r, j, i => by
    rw [set_node]
    by_cases hj : j = 0
    · subst hj
      rw [if_pos rfl, get_node, get_node, get_node]
      by_cases hi : i = 0
      · simp [hi]
      · simp [hi]
    · rw [if_neg hj]
      by_cases pj : j % 2 = 1
      · rw [if_pos pj, get_node, get_node, get_node, get_set f l]
        by_cases hi : i = 0
        · subst hi
          have : ¬ (0 = j) := fun e => hj e.symm
          simp [this]
        · by_cases pi : i % 2 = 1
          · have : (i / 2 = j / 2) ↔ i = j := half1 pi pj
            simp [hi, hj, pi, pj, this]
          · have : ¬ i = j := fun e => pi (e ▸ pj)
            simp [hi, pi, this]
      · rw [if_neg pj, get_node, get_node, get_node, get_set f r]
        by_cases hi : i = 0
        · subst hi
          have : ¬ (0 = j) := fun e => hj e.symm
          simp [this]
        · by_cases pi : i % 2 = 1
          · have : ¬ i = j := fun e => pj (e ▸ pi)
            simp [hi, pi, this]
          · have : (i / 2 - 1 = j / 2 - 1) ↔ i = j := half0 hi hj pi pj
            simp [hi, hj, pi, pj, this]
theorem get_ins (a : Nat) (o : Obj) : ∀ (t : LT) (j : Nat), ((t.ins j a o).get j).isSome = true → ∀ i, (t.ins j a o).get i = if i = j then some (a, o) else t.get i
  | .nil, j => by
    have e : LT.nil.ins j a o = node a o nil nil := rfl
    rw [e]
    intro hg i
    rw [get_node] at hg ⊢
    by_cases hj : j = 0
    · subst hj
      by_cases hi : i = 0
      · simp [hi]
      · simp [hi, get]
    · rw [if_neg hj] at hg
      by_cases pj : j % 2 = 1 <;> simp [pj, get] at hg
  | .node b v l r, j => by
    intro hg i
    rw [ins_node] at hg ⊢
    by_cases hj : j = 0
    · subst hj
      rw [if_pos rfl, get_node, get_node]
      by_cases hi : i = 0
      · simp [hi]
      · simp [hi]
    · rw [if_neg hj] at hg ⊢
      by_cases pj : j % 2 = 1
      · rw [if_pos pj] at hg ⊢
        rw [get_node, if_neg hj, if_pos pj] at hg
        rw [get_node, get_node, get_ins a o l (j / 2) hg]
        by_cases hi : i = 0
        · subst hi
          have : ¬ (0 = j) := fun e => hj e.symm
          simp [this]
        · by_cases pi : i % 2 = 1
          · have : (i / 2 = j / 2) ↔ i = j := half1 pi pj
            simp [hi, pi, this]
          · have : ¬ i = j := fun e => pi (e ▸ pj)
            simp [hi, pi, this]
      · rw [if_neg pj] at hg ⊢
        rw [get_node, if_neg hj, if_neg pj] at hg
        rw [get_node, get_node, get_ins a o r (j / 2 - 1) hg]
        by_cases hi : i = 0
        · subst hi
          have : ¬ (0 = j) := fun e => hj e.symm
          simp [this]
        · by_cases pi : i % 2 = 1
          · have : ¬ i = j := fun e => pj (e ▸ pi)
            simp [hi, pi, this]
          · have : (i / 2 - 1 = j / 2 - 1) ↔ i = j := half0 hi hj pi pj
            simp [hi, pi, this]
end LT

/-- what stands when a piece ends -/
structure St where
  T : LT
  m : Nat
  n : Nat
  tk : Nat
  gl : List GenState
  ob : List (Nat × Nat)
  tb : List (Sem Fin × Sem Fin)
/-- what a call that is not walked gives back -/
structure SO where
  r : Result
  T : LT
  m : Nat
  n : Nat
  tk : Nat
  gl : List GenState
inductive Out where
  | stop (a b : Nat)
  | word (w : String)
  | ret (r : Result) (st : St)
  | next (c : Code) (st : St)
  | spec (c' : Code) (κ : Kont) (st : St) (k : SO → (Nat → Pos) → (Nat → List (Code × Pos)) → Out)
/-- what waits for a tree's value -/
inductive Cx : Type → Type 1 where
  | fin : Cx Fin
  | bind {α β : Type} (f : α → Sem β) (c : Cx β) : Cx α
  | keep {α : Type} (vs : List Value) (c : Cx α) : Cx α
  | onRaise {α : Type} (h : Value → Sem Unit) (c : Cx α) : Cx α
noncomputable def Cx.app : {α : Type} → Cx α → Sem α → Sem Fin
  | _, .fin, m => m
  | _, .bind f c, m => c.app (R.bindR m f)
  | _, .keep vs c, m => c.app (R.keepR vs m)
  | _, .onRaise h c, m => c.app (R.onRaiseR m h)
noncomputable def Cx.binds : {α : Type} → Cx α → Bool
  | _, .fin => true
  | _, .bind _ c => c.binds
  | _, .keep _ _ => false
  | _, .onRaise _ _ => false
/-- a look of a flying exception's trace that finds its own frame: exception and trace by number, what waits -/
structure Nt where
  e : Nat
  ie : Nat
  it : Nat
  cx : Code → Env → Cx Unit
/-- a look of a flying exception's trace that adds a frame: exception, its trace so far, by number; the numbers of the frames on the stack -/
structure Lk where
  e : Nat
  ie : Nat
  it : Option Nat
  fi : List Nat
  cx : Code → Env → Cx Unit
/-- what a piece may be told: a look that finds its own frame, an equal tree, a look that adds a frame, an equal tree behind a load of entry i -/
inductive Nx where
  | note (g : Nt)
  | rw (l r : Sem Fin)
  | look (g : Lk)
  | ldk (i : Nat) (l r : Sem Fin)
/-- two trees that must be equal -/
noncomputable def Nx.pr : Nx → Option (Sem Fin × Sem Fin)
  | .rw l r => some (l, r)
  | .ldk _ l r => some (l, r)
  | _ => none
noncomputable def fieldAt (o : Obj) (i : Nat) : Option Value := match o.data with
  | .fields vs => vs[i]?
  | _ => none
structure Cfg where
  den : Code → Sem Fin
  S : Setting
  kt : KT
  sp : Code → Bool
  cx : List (LT → CmpOp × Nat × Nat × Cx Value)
  gb : Nat
  nx : List (LT → Nx)
  fr : Option (List Env)

noncomputable abbrev RestI := List Nat → (Nat → Pos) → (Nat → List (Code × Pos)) → LT → Nat → Nat → Nat → List GenState → List (Nat × Nat) → List (Sem Fin × Sem Fin) → Out
noncomputable abbrev SimTyI := Code → Option (List Frame) → Kont → Sem Fin → RestI
noncomputable def nayI (n : Nat) : RestI := fun _ _ _ _ _ _ _ _ _ _ => .stop n 0
noncomputable def wakeI (gb : Nat) (ih : SimTyI) (e : End) : Kont → RestI
  | .gen g c k κ => fun oc P B T m n tk gl ob tb => match oc with
    | [] => .stop 43 g
    | i :: oc => ih c none κ (k e.result) oc P B T m n tk (gl.set i e.genState) ((g, gb + i) :: ob) tb
  | .genS g c fs k κ => fun oc P B T m n tk gl ob tb => match oc with
    | [] => .stop 43 g
    | i :: oc => ih c (some fs) κ (k e.result) oc P B T m n tk (gl.set i e.genState) ((g, gb + i) :: ob) tb
  | .base => nayI 20
  | .ret .. => nayI 20
noncomputable def retI (gb : Nat) (ih : SimTyI) (r : Result) (md : Option (List Frame)) (κ : Kont) : RestI := match md with
  | none => match κ with
    | .base => fun _ _ _ T m n tk gl ob tb => .ret r ⟨T, m, n, tk, gl, ob, tb⟩
    | .ret c _ k κ => ih c none κ (k r)
    | .gen .. => nayI 21
    | .genS .. => nayI 21
  | some fs => match fs with
    | [] => wakeI gb ih (.ret r) κ
    | f :: fs => match f with
      | .ret k _ _ _ c₁ _ _ => ih c₁ (some fs) κ (k r)
      | .gen .. => nayI 22
noncomputable def cw : Code → Nat
  | .builtin id _ => match S.strDecS id "claim.caller" with
    | .isTrue _ => 1000
    | .isFalse _ => 5
  | .call .. => 1
  | .handlers .. => 0
  | .starHandlers .. => 0
  | .block .. => 0
  | .forLoop .. => 0
  | .whileLoop .. => 0
  | .asyncForLoop .. => 0
  | .func .. => 1
  | .expr .. => 1
  | .body .. => 1
  | .compStart .. => 1
  | .compLoop .. => 1
noncomputable def kdep : Kont → Nat
  | .base => 0
  | .ret c _ _ κ => kdep κ + cw c
  | .gen .. => 0
  | .genS .. => 0
noncomputable def hOf : Kont → Option Value
  | .base => none
  | .ret _ hd _ κ => match hd with
    | some v => some v
    | none => hOf κ
  | .gen .. => none
  | .genS .. => none
noncomputable def enterT : Sem Unit := PySem.W.Fast.tw15066281185411960212 0
noncomputable def rcT (op : CmpOp) (a b : Nat) : Sem Value := PySem.W.Fast.tw9423741818375054981 op (.ref a) (.ref b)
noncomputable def isOld (a : Nat) : Bool := match Nat.blt a 178 with
  | true => !(Nat.beq a 121)
  | false => false
noncomputable def shP (P : Nat → Pos) : Nat → Pos := fun n => P (n + 1)
noncomputable def shB (B : Nat → List (Code × Pos)) : Nat → List (Code × Pos) := fun n => B (n + 1)

noncomputable def frK (l : List Env) : Bool → Kont → List Env
  | true, .base => l
  | true, .ret c _ _ κ => c.envs ++ frK l true κ
  | true, .gen .. => l
  | true, .genS .. => l
  | false, .gen _ c _ κ => c.envs ++ frK l true κ
  | false, .genS _ c fs _ κ => c.envs ++ (envsOf (fs.map Frame.where_) ++ frK l false κ)
  | false, .base => l
  | false, .ret .. => l
/-- the frames on the stack -/
noncomputable def framesI (l : List Env) (c : Code) (md : Option (List Frame)) (κ : Kont) : List Env := match md with
  | none => c.envs ++ frK l true κ
  | some fs => c.envs ++ (envsOf (fs.map Frame.where_) ++ frK l false κ)
noncomputable def notMod (e : Env) : Bool := match e.scope.kind with
  | .module => false
  | _ => true
noncomputable def notFields (o : Obj) : Bool := match o.data with
  | .fields _ => false
  | _ => true
noncomputable def readyOk : List Env → List Nat → LT → Option (List (Nat × Nat))
  | [], [], _ => some []
  | [], _ :: _, _ => none
  | _ :: _, [], _ => none
  | env :: l, i :: is, T => match env.frame with
    | some f => match notMod env with
      | true => match T.get i with
        | some q => match notFields q.2 with
          | true => match readyOk l is T with
            | some r => some ((f, q.1) :: r)
            | none => none
          | false => none
        | none => none
      | false => none
    | none => none
noncomputable def dv (b : List (Code × Pos)) : List (Option Value) := b.map fun p => match p.1 with
  | .builtin _ a => a.pos.head?
  | _ => none
noncomputable def setSl (sl : Array (Option Value)) (o : Obj) : Obj := { o with slots := sl }
noncomputable def readyF (sl : Nat → Array (Option Value)) : List Nat → LT → LT
  | [], T => T
  | i :: is, T => readyF sl is (T.set i (setSl (sl i)))
noncomputable def cellI (b : List (Code × Pos)) (i : Nat) : Value := ((dv b).getD i none).getD .none
noncomputable def traceO (head : Value) (f : Nat) (c : Nat → Value) : Obj := { cls := .type "traceback", dict := none, data := .fields #[head, .ref f, .none, .int (.ofNat f) 0, .none, c 0, c 1, c 2, c 3, c 4, c 5] }
/-- the trace made so far: none, or an entry whose frame has let it go -/
noncomputable def headI (T : LT) (oe : Obj) (ie : Nat) : Option Nat → Option (Value × LT × List (Nat × Nat))
  | none => match fieldAt oe 1 with
    | some .none => some (.none, T, [])
    | _ => none
  | some it => match Nat.beq it ie with
    | true => none
    | false => match fieldAt oe 1 with
      | some (.ref b) => match T.get it with
        | some qt => match fieldAt qt.2 3 with
          | some .none => some (.ref b, T.set it (Obj.mapFields (·.setIfInBounds 3 .none)), [(b, qt.1)])
          | _ => none
        | none => none
      | _ => none
/-- the entries when a frame was added -/
noncomputable def lookT (T1 : LT) (fi : List Nat) (m n : Nat) (hv : Value) (f : Nat) (B : Nat → List (Code × Pos)) : LT :=
  LT.ins (readyF (fun i => (dv (B (2 * i + 2))).toArray) fi T1) m n (traceO hv f (cellI (B 0)))
noncomputable def lookI (X : Cfg) (ih : SimTyI) (c : Code) (md : Option (List Frame)) (κ : Kont) (t : Sem Fin) (g : Lk) : RestI := fun oc P B T m n tk gl ob tb => match X.fr with
  | none => .stop 60 0
  | some l => match framesI l c md κ with
    | [] => .stop 61 0
    | env' :: outer => match env'.frame with
      | none => .stop 62 0
      | some f => match T.get g.ie with
        | none => .stop 64 0
        | some qe => match headI T qe.2 g.ie g.it with
          | none => .stop 65 0
          | some r => match readyOk (env' :: outer) g.fi r.2.1 with
            | none => .stop 66 0
            | some ro => match md.isNone || (g.cx c env').binds with
              | false => .stop 68 0
              | true => match (lookT r.2.1 g.fi m n r.1 f B).get m with
                | none => .stop 67 m
                | some _ => match (lookT r.2.1 g.fi m n r.1 f B).get g.ie with
                  | none => .stop 69 0
                  | some q3 => match (Obj.mapFields (·.setIfInBounds 1 (.ref n)) q3.2).isFreed with
                    | true => .stop 70 0
                    | false => ih c md κ ((g.cx c env').app (.pure ())) oc P (fun j => B (2 * j + 1))
                      ((lookT r.2.1 g.fi m n r.1 f B).set g.ie (Obj.mapFields (·.setIfInBounds 1 (.ref n))))
                      (m + 1) (n + 1) tk gl ((q3.1, g.e) :: (g.e, qe.1) :: (r.2.2 ++ (ro ++ ob))) ((t, (g.cx c env').app (PySem.W.Fast.tw17872113653443481271 (.ref g.e) env')) :: tb)
noncomputable def noteI (X : Cfg) (ih : SimTyI) (c : Code) (md : Option (List Frame)) (κ : Kont) (t : Sem Fin) (j : Nat) : RestI := fun oc P B T m n tk gl ob tb => match X.nx[j]? with
  | none => .stop 50 j
  | some gf => match gf T with
    | .rw l r => ih c md κ r oc P B T m n tk gl ob ((t, l) :: tb)
    | .ldk i l r => match t with
      | .load a _ k => match T.get i with
        | some p => ih c md κ r oc P B T m n tk gl ((a, p.1) :: ob) ((k p.2, l) :: tb)
        | none => .stop 58 j
      | _ => .stop 59 j
    | .look g => lookI X ih c md κ t g oc P B T m n tk gl ob tb
    | .note g => match framesI [] c md κ with
      | [] => .stop 57 j
      | env' :: _ => match T.get g.ie with
        | none => .stop 51 j
        | some qe => match T.get g.it with
          | none => .stop 52 j
          | some qt => match fieldAt qe.2 1 with
            | some (.ref b) => match fieldAt qt.2 3 with
              | some (.int (.ofNat f) 0) => match env'.frame with
                | some f2 => match md.isNone || (g.cx c env').binds with
                  | false => .stop 53 j
                  | true => ih c md κ ((g.cx c env').app (.pure ())) oc P B T m n tk gl ((g.e, qe.1) :: (b, qt.1) :: (f, f2) :: ob) ((t, (g.cx c env').app (PySem.W.Fast.tw17872113653443481271 (.ref g.e) env')) :: tb)
                | none => .stop 54 j
              | _ => .stop 55 j
            | _ => .stop 56 j
noncomputable def simStepI (X : Cfg) (ih : SimTyI) (c : Code) (md : Option (List Frame)) (κ : Kont) (t : Sem Fin) : RestI := match t with
  | .pure fin => match fin with
    | .done f => retI X.gb ih (.ok f) md κ
    | .again c' => match c'.quiet with
      | true => match md with
        | none => match κ with
          | .base => match X.sp c' with
            | true => fun _ _ _ T m n tk gl ob tb => .next c' ⟨T, m, n, tk, gl, ob, tb⟩
            | false => ih c' none .base (X.den c')
          | .ret c₁ hd k₁ κ₁ => match X.sp c' with
            | true => fun oc _ _ T m n tk gl ob tb => .spec c' (.ret c₁ hd k₁ κ₁) ⟨T, m, n, tk, gl, ob, tb⟩ (fun so P B => ih c₁ none κ₁ (k₁ so.r) oc P B so.T so.m so.n so.tk so.gl [] [])
            | false => ih c' none (.ret c₁ hd k₁ κ₁) (X.den c')
          | .gen .. => nayI 41
          | .genS .. => nayI 42
        | some fs => ih c' (some fs) κ (X.den c')
      | false => nayI 5
  | .raise e => retI X.gb ih (.error e) md κ
  | .rule _ k => ih c md κ (k ())
  | .at _ k => ih c md κ (k ())
  | .point _ k => ih c md κ (k ())
  | .ask k => ih c md κ (k X.S)
  | .load a q k => fun oc P B T m n tk gl ob tb => match oc with
    | [] => .stop 1 a
    | x :: oc => match x with
      | 0 => match isOld a with
        | true => match X.kt.get a with
          | some o => ih c md κ (k o) oc P B T m n tk gl ob tb
          | none => .stop 2 a
        | false => .stop 3 a
      | i + 1 => match T.get i with
        | some p => ih c md κ (k p.2) oc P B T m n tk gl ((a, p.1) :: ob) tb
        | none => noteI X ih c md κ (.load a q k) (i - 4000) oc P B T m n tk gl ob tb
  | .loadIfAlive a k => fun oc P B T m n tk gl ob tb => match oc with
    | [] => .stop 1 a
    | x :: oc => match x with
      | 0 => match isOld a with
        | true => match X.kt.get a with
          | some o => ih c md κ (k (some o)) oc P B T m n tk gl ob tb
          | none => .stop 2 a
        | false => .stop 3 a
      | i + 1 => match T.get i with
        | some q => ih c md κ (k (some q.2)) oc P B T m n tk gl ((a, q.1) :: ob) tb
        | none => .stop 4 i
  | .alloc o k => fun oc P B T m n tk gl ob tb => match o.isFreed with
    | true => .stop 6 0
    | false => match (T.ins m n o).get m with
      | some _ => ih c md κ (k n) oc P B (T.ins m n o) (m + 1) (n + 1) tk gl ob tb
      | none => .stop 7 m
  | .update a _ f k => fun oc P B T m n tk gl ob tb => match oc with
    | [] => .stop 1 a
    | x :: oc => match x with
      | 0 => .stop 8 a
      | i + 1 => match T.get i with
        | some q => match (f q.2).isFreed with
          | false => ih c md κ (k ()) oc P B (T.set i f) m n tk gl ((a, q.1) :: ob) tb
          | true => .stop 9 i
        | none => .stop 4 i
  | .fresh k => fun oc P B T m n tk gl ob tb => ih c md κ (k tk) oc P B T m n (tk + 1) gl ob tb
  | .handled own k => match own with
    | false => match md with
      | none => ih c none κ (k (hOf κ))
      | some fs => match κ with
        | .gen _ _ _ κ' => ih c (some fs) κ (k (marksOver fs (hOf κ', hOf κ')).1)
        | _ => nayI 10
    | true => nayI 11
  | .stack k => match md with
    | none => fun oc P B T m n tk gl ob tb => match oc with
      | [] => .stop 12 0
      | x :: oc => match x with
        | 0 => ih c none κ (k ((c, P 0) :: B 0)) oc (shP P) (shB B) T m n tk gl ob tb
        | 1 => match Nat.blt (kdep κ + cw c) 100 with
          | true => match k [] with
            | .load a _ k2 => match X.kt.get a with
              | some o => ih c none κ (k2 o) oc P B T m n tk gl ob ((.stack k, R.bindR enterT (fun _ => k2 o)) :: tb)
              | none => .stop 13 a
            | _ => .stop 14 0
          | false => .stop 15 0
        | 2 => match Nat.blt (kdep κ + cw c) 100 with
          | true => match k [] with
            | .load a _ k2 => match X.kt.get a with
              | some o => ih c none κ (k2 o) oc P B T m n tk gl ob ((.stack k, Sem.bind roomToWake (fun _ => k2 o)) :: tb)
              | none => .stop 13 a
            | _ => .stop 14 1
          | false => .stop 15 1
        | 3 => match oc with
          | [] => .stop 17 0
          | i :: oc => match X.cx[i]? with
            | some q => match Nat.blt (kdep κ + cw c) 100 with
              | true => match rcT (q T).1 (q T).2.1 (q T).2.2.1 with
                | .stack kr => ih c none κ ((q T).2.2.2.app (kr [])) oc P B T m n tk gl ob ((.stack k, (q T).2.2.2.app (rcT (q T).1 (q T).2.1 (q T).2.2.1)) :: tb)
                | _ => .stop 14 2
              | false => .stop 15 2
            | none => .stop 17 i
        | 4 => match oc with
          | [] => .stop 17 1
          | j :: oc => noteI X ih c none κ (.stack k) j oc P B T m n tk gl ob tb
        | _ => .stop 16 0
    | some fs => fun oc P B T m n tk gl ob tb => match oc with
      | [] => .stop 12 1
      | x :: oc => match x with
        | 0 => ih c (some fs) κ (k ((c, P 0) :: B 0)) oc (shP P) (shB B) T m n tk gl ob tb
        | _ => .stop 16 1
  | .call c' hd g l k => match md with
    | none => match okMark hd with
      | true => match X.sp c' with
        | true => fun oc _ _ T m n tk gl ob tb => .spec c' (.ret c hd k κ) ⟨T, m, n, tk, gl, ob, tb⟩ (fun so P B => ih c none κ (k so.r) oc P B so.T so.m so.n so.tk so.gl [] [])
        | false => ih c' none (.ret c hd k κ) (X.den c')
      | false => nayI 18
    | some fs => fun oc P B T m n tk gl ob tb => ih c' (some (.ret k hd g l c (P 0) [] :: fs)) κ (X.den c') oc (shP P) B T m n tk gl ob tb
  | .newGen c' k => fun oc P B T m n tk gl ob tb => ih c md κ (k (X.gb + gl.length)) oc P B T m n tk (gl ++ [.fresh c']) ob tb
  | .genState g k => fun oc P B T m n tk gl ob tb => match oc with
    | [] => .stop 44 g
    | i :: oc => match gl[i]? with
      | some gs => ih c md κ (k gs.seen) oc P B T m n tk gl ((g, X.gb + i) :: ob) tb
      | none => .stop 19 g
  | .resume g r _ k => fun oc P B T m n tk gl ob tb => match oc with
    | [] => .stop 45 g
    | i :: oc => match gl[i]? with
      | some gs => match gs with
        | .fresh c₀ => match r with
          | .send v => match v with
            | .none => ih c₀ (some []) (match md with | none => .gen g c k κ | some fs => .genS g c fs k κ) (X.den c₀) oc P B T m n tk (gl.set i .running) ((g, X.gb + i) :: ob) tb
            | _ => .stop 23 g
          | .throw _ => .stop 23 g
        | .suspended k₀ _ c₀ _ fs₀ _ => ih c₀ (some fs₀) (match md with | none => .gen g c k κ | some fs => .genS g c fs k κ) (k₀ r) oc P B T m n tk (gl.set i .running) ((g, X.gb + i) :: ob) tb
        | .running => .stop 24 g
        | .finished => .stop 25 g
      | none => .stop 19 g
  | .yield v gd l k => match md with
    | none => nayI 26
    | some fs => match gd with
      | true => nayI 27
      | false => match splitAtGen fs with
        | some _ => nayI 28
        | none => match fs.any Frame.guarded with
          | true => nayI 27
          | false => fun oc P B T m n tk gl ob tb => wakeI X.gb ih (.susp v false l k c (P 0) fs) κ oc (shP P) B T m n tk gl ob tb
  | .unsupported w => fun _ _ _ _ _ _ _ _ _ _ => .word w
  | .finish _ => nayI 30
  | .register .. => nayI 31
  | .choose .. => nayI 32
  | .os .. => nayI 33
  | .fork .. => nayI 34
  | .thread _ => nayI 35
  | .await .. => nayI 36
noncomputable def simI (X : Cfg) : Nat → SimTyI
  | 0 => fun _ _ _ _ => nayI 40
  | f + 1 => simStepI X (simI X f)
end Mine
end
section
set_option genInjectivity false
set_option maxRecDepth 100000
namespace Mine
open PySem PySem.Spec PySem.Calls PyProof.Rows PySem.W PySem.W.X

/-- heap h bears the objects at hand; all else of hI but A0 is as it was -/
structure Rp (hI : Heap) (A0 : List Nat) (h : Heap) (T : LT) (n : Nat) : Prop where
  size : h.objs.size = n
  own : ∀ i a o, T.get i = some (a, o) → h.get? a = some o ∧ (a ∈ A0 ∨ hI.objs.size ≤ a)
  inj : ∀ i j a o o', T.get i = some (a, o) → T.get j = some (a, o') → i = j
  keep : ∀ b o, hI.get? b = some o → b ∉ A0 → h.get? b = some o
  grow : hI.objs.size ≤ n
theorem Rp.alloc {hI : Heap} {A0 : List Nat} {h : Heap} {T : LT} {m n : Nat} (D : Rp hI A0 h T n) {o : Obj} (hf : o.isFreed = false) (hg : ((T.ins m n o).get m).isSome = true) : Rp hI A0 (h.push o) (T.ins m n o) (n + 1) := by
  have fresh : ∀ i a o', T.get i = some (a, o') → a ≠ n := fun i a o' e q => by
    have z := Heap.lt_size (D.own i a o' e).1
    rw [D.size, q] at z
    exact Nat.lt_irrefl _ z
  refine ⟨by rw [Heap.size_push, D.size], fun i a o' e => ?_, fun i j a o1 o2 e1 e2 => ?_, fun b o' e q => Heap.get?_push_of_some _ (D.keep b o' e q), Nat.le_succ_of_le D.grow⟩
  · rw [LT.get_ins n o T m hg] at e
    by_cases hi : i = m
    · rw [if_pos hi] at e
      cases e
      refine ⟨?_, .inr D.grow⟩
      rw [← D.size]; exact Heap.get?_push_size _ hf
    · rw [if_neg hi] at e
      exact ⟨Heap.get?_push_of_some _ (D.own i a o' e).1, (D.own i a o' e).2⟩
  · rw [LT.get_ins n o T m hg] at e1 e2
    by_cases hi : i = m
    · by_cases hj : j = m
      · rw [hi, hj]
      · rw [if_pos hi] at e1
        rw [if_neg hj] at e2
        cases e1
        exact absurd rfl (fresh _ _ _ e2)
    · rw [if_neg hi] at e1
      by_cases hj : j = m
      · rw [if_pos hj] at e2
        cases e2
        exact absurd rfl (fresh _ _ _ e1)
      · rw [if_neg hj] at e2
        exact D.inj i j a o1 o2 e1 e2
theorem Rp.update {hI : Heap} {A0 : List Nat} {h : Heap} {T : LT} {n : Nat} (D : Rp hI A0 h T n) {i : Nat} {a : Nat} {o : Obj} {f : Obj → Obj} (e : T.get i = some (a, o)) (hf : (f o).isFreed = false) : Rp hI A0 (h.update a f) (T.set i f) n := by
  have z := D.own i a o e
  have hs : Heap.SameBut a h (h.update a f) := Heap.SameBut.update ..
  have gs : ∀ j b o', (T.set i f).get j = some (b, o') → (j = i ∧ b = a ∧ o' = f o) ∨ (j ≠ i ∧ T.get j = some (b, o')) := fun j b o' e' => by
    rw [LT.get_set] at e'
    by_cases hj : j = i
    · rw [if_pos hj, e] at e'
      cases e'
      exact .inl ⟨hj, rfl, rfl⟩
    · rw [if_neg hj] at e'
      exact .inr ⟨hj, e'⟩
  refine ⟨by rw [hs.1, D.size], fun j b o' e' => ?_, fun j k b o1 o2 e1 e2 => ?_, fun b o' e' q => ?_, D.grow⟩
  · rcases gs j b o' e' with ⟨_, rfl, rfl⟩ | ⟨hj, e'⟩
    · exact ⟨Heap.get?_update_self f z.1 hf, z.2⟩
    · have y := D.own j b o' e'
      refine ⟨(hs.2 b fun q => hj ?_).trans y.1, y.2⟩
      subst q
      exact D.inj j i b o' o e' e
  · rcases gs j b o1 e1 with ⟨h1, h2, _⟩ | ⟨h1, h2⟩
    · rcases gs k b o2 e2 with ⟨h3, _, _⟩ | ⟨h3, h4⟩
      · rw [h1, h3]
      · subst h2
        exact absurd (D.inj k i _ _ _ h4 e) h3
    · rcases gs k b o2 e2 with ⟨h3, h4, _⟩ | ⟨h3, h4⟩
      · subst h4
        exact absurd (D.inj j i _ _ _ h2 e) h1
      · exact D.inj j k b o1 o2 h2 h4
  · refine (hs.2 b fun q => ?_).trans (D.keep b o' e' q)
    subst q
    rcases z.2 with y | y
    · exact q y
    · exact absurd (Heap.lt_size e') (Nat.not_lt.mpr y)

section
variable (V : XV) (hI : Heap) (A0 : List Nat) (bs : List GenState) (d : Drawn) (os : OsState)
noncomputable def Obl (st : St) : Prop := (∀ p ∈ st.ob, p.1 = p.2) ∧ (∀ p ∈ st.tb, p.1 = p.2)
noncomputable def Sat : Out → Prop
  | .stop .. => False
  | .word .. => False
  | .ret r st => Obl st ∧ ∀ h, Rp hI A0 h st.T st.n → V.R₀ r ⟨h, ⟨bs ++ st.gl⟩, d, st.tk, os⟩
  | .next c st => Obl st ∧ ∀ h, Rp hI A0 h st.T st.n → codeAny (model V.prog V.w) V.A₀ c V.R₀ ⟨h, ⟨bs ++ st.gl⟩, d, st.tk, os⟩
  | .spec c κ st k => Obl st ∧ ∀ h, Rp hI A0 h st.T st.n → codeAny (model V.prog V.w) (aroundOf V true κ) c (fun r s' => ∃ so h', s' = ⟨h', ⟨bs ++ so.gl⟩, d, so.tk, os⟩ ∧ so.r = r ∧ Rp hI A0 h' so.T so.n ∧ ∀ P B, Sat (k so P B)) ⟨h, ⟨bs ++ st.gl⟩, d, st.tk, os⟩
noncomputable def OblL (ob : List (Nat × Nat)) (tb : List (Sem Fin × Sem Fin)) : Prop := (∀ p ∈ ob, p.1 = p.2) ∧ (∀ p ∈ tb, p.1 = p.2)
/-- a way that is sat has met what was asked on its road -/
noncomputable def Asks (r : RestI) : Prop := ∀ oc P B T m n tk gl ob tb, Sat V hI A0 bs d os (r oc P B T m n tk gl ob tb) → OblL ob tb
theorem asks_nay (n : Nat) : Asks V hI A0 bs d os (nayI n) := fun _ _ _ _ _ _ _ _ _ _ h => h.elim
variable (X : Cfg) (ih : SimTyI) (IH : ∀ c md κ t, Asks V hI A0 bs d os (ih c md κ t))
include IH
theorem asks_wake (gb : Nat) (e : End) (κ : Kont) : Asks V hI A0 bs d os (wakeI gb ih e κ) := by
  have tl : ∀ {α : Type} {x : α} {p : α → Prop} {l : List α}, (∀ q ∈ x :: l, p q) → ∀ q ∈ l, p q := fun h q hq => h q (.tail _ hq)
  cases κ with
  | base => exact asks_nay V hI A0 bs d os 20
  | ret => exact asks_nay V hI A0 bs d os 20
  | gen g c k κ =>
    intro oc P B T m n tk gl ob tb h
    cases oc with
    | nil => exact h.elim
    | cons i oc =>
      have z := IH _ _ _ _ oc P B T m n tk _ _ tb h
      exact ⟨tl z.1, z.2⟩
  | genS g c fs k κ =>
    intro oc P B T m n tk gl ob tb h
    cases oc with
    | nil => exact h.elim
    | cons i oc =>
      have z := IH _ _ _ _ oc P B T m n tk _ _ tb h
      exact ⟨tl z.1, z.2⟩
theorem asks_ret (gb : Nat) (r : Result) (md : Option (List Frame)) (κ : Kont) : Asks V hI A0 bs d os (retI gb ih r md κ) := by
  cases md with
  | none =>
    cases κ with
    | base => exact fun oc P B T m n tk gl ob tb h => h.1
    | ret c hd k κ => exact IH _ _ _ _
    | gen => exact asks_nay V hI A0 bs d os 21
    | genS => exact asks_nay V hI A0 bs d os 21
  | some fs =>
    cases fs with
    | nil => exact asks_wake V hI A0 bs d os ih IH _ _ _
    | cons f fs =>
      cases f with
      | ret k hd g l c₁ p₁ kp => exact IH _ _ _ _
      | gen => exact asks_nay V hI A0 bs d os 22
theorem asks_look (c : Code) (md : Option (List Frame)) (κ : Kont) (t : Sem Fin) (g : Lk) : Asks V hI A0 bs d os (lookI X ih c md κ t g) := by
  intro oc P B T m n tk gl ob tb H
  have tl : ∀ {α : Type} {x : α} {p : α → Prop} {l : List α}, (∀ q ∈ x :: l, p q) → ∀ q ∈ l, p q := fun h q hq => h q (.tail _ hq)
  have ta : ∀ {α : Type} {a l : List α} {p : α → Prop}, (∀ q ∈ a ++ l, p q) → ∀ q ∈ l, p q := fun h q hq => h q (List.mem_append_right _ hq)
  unfold lookI at H
  repeat' split at H
  all_goals first
    | exact H.elim
    | (have z := IH _ _ _ _ _ P _ _ _ _ tk gl _ _ H; exact ⟨ta (ta (tl (tl z.1))), tl z.2⟩)
theorem asks_note (c : Code) (md : Option (List Frame)) (κ : Kont) (t : Sem Fin) (j : Nat) : Asks V hI A0 bs d os (noteI X ih c md κ t j) := by
  intro oc P B T m n tk gl ob tb H
  have tl : ∀ {α : Type} {x : α} {p : α → Prop} {l : List α}, (∀ q ∈ x :: l, p q) → ∀ q ∈ l, p q := fun h q hq => h q (.tail _ hq)
  unfold noteI at H
  repeat' split at H
  all_goals first
    | exact H.elim
    | exact asks_look V hI A0 bs d os X ih IH _ _ _ _ _ _ P B T m n tk gl ob tb H
    | (have z := IH _ _ _ _ _ P B T m n tk gl _ _ H; exact ⟨tl (tl (tl z.1)), tl z.2⟩)
    | (have z := IH _ _ _ _ _ P B T m n tk gl _ _ H; exact ⟨z.1, tl z.2⟩)
    | (have z := IH _ _ _ _ _ P B T m n tk gl _ _ H; exact ⟨tl z.1, tl z.2⟩)
theorem asks_step (c : Code) (md : Option (List Frame)) (κ : Kont) (t : Sem Fin) : Asks V hI A0 bs d os (simStepI X ih c md κ t) := by
  intro oc P B T m n tk gl ob tb H
  have tl : ∀ {α : Type} {x : α} {p : α → Prop} {l : List α}, (∀ q ∈ x :: l, p q) → ∀ q ∈ l, p q := fun h q hq => h q (.tail _ hq)
  cases t with
  | pure fin =>
    cases fin with
    | done f => exact asks_ret V hI A0 bs d os ih IH _ _ _ _ oc P B T m n tk gl ob tb H
    | again c' =>
      cases q : c'.quiet with
      | false => simp only [simStepI, q] at H; exact H.elim
      | true =>
        simp only [simStepI, q] at H
        cases md with
        | none =>
          cases κ with
          | base =>
            cases q2 : X.sp c' with
            | true => simp only [q2] at H; exact H.1
            | false => simp only [q2] at H; exact IH _ _ _ _ oc P B T m n tk gl ob tb H
          | ret c1 hd k1 κ1 =>
            cases q2 : X.sp c' with
            | true => simp only [q2] at H; exact H.1
            | false => simp only [q2] at H; exact IH _ _ _ _ oc P B T m n tk gl ob tb H
          | gen => exact H.elim
          | genS => exact H.elim
        | some fs => exact IH _ _ _ _ oc P B T m n tk gl ob tb H
  | raise e => exact asks_ret V hI A0 bs d os ih IH _ _ _ _ oc P B T m n tk gl ob tb H
  | rule tag k => exact IH _ _ _ _ oc P B T m n tk gl ob tb H
  | «at» q k => exact IH _ _ _ _ oc P B T m n tk gl ob tb H
  | point l k => exact IH _ _ _ _ oc P B T m n tk gl ob tb H
  | ask k => exact IH _ _ _ _ oc P B T m n tk gl ob tb H
  | load a q k =>
    simp only [simStepI] at H
    repeat' split at H
    all_goals first
      | exact H.elim
      | exact asks_note V hI A0 bs d os X ih IH _ _ _ _ _ _ P B T m n tk gl ob tb H
      | exact IH _ _ _ _ _ P B T m n tk gl ob tb H
      | (have z := IH _ _ _ _ _ P B T m n tk gl _ tb H; exact ⟨tl z.1, z.2⟩)
  | loadIfAlive a k =>
    simp only [simStepI] at H
    repeat' split at H
    all_goals first
      | exact H.elim
      | exact IH _ _ _ _ _ P B T m n tk gl ob tb H
      | (have z := IH _ _ _ _ _ P B T m n tk gl _ tb H; exact ⟨tl z.1, z.2⟩)
  | alloc o k =>
    simp only [simStepI] at H
    repeat' split at H
    all_goals first
      | exact H.elim
      | exact IH _ _ _ _ _ P B _ _ _ tk gl ob tb H
  | update a q f k =>
    simp only [simStepI] at H
    repeat' split at H
    all_goals first
      | exact H.elim
      | (have z := IH _ _ _ _ _ P B _ m n tk gl _ tb H; exact ⟨tl z.1, z.2⟩)
  | fresh k => exact IH _ _ _ _ oc P B T m n _ gl ob tb H
  | handled own k =>
    cases own with
    | true => exact H.elim
    | false =>
      cases md with
      | none => exact IH _ _ _ _ oc P B T m n tk gl ob tb H
      | some fs =>
        cases κ with
        | gen => exact IH _ _ _ _ oc P B T m n tk gl ob tb H
        | _ => exact H.elim
  | stack k =>
    cases md with
    | some fs =>
      simp only [simStepI] at H
      repeat' split at H
      all_goals first
        | exact H.elim
        | exact IH _ _ _ _ _ _ _ T m n tk gl ob tb H
    | none =>
      simp only [simStepI] at H
      repeat' split at H
      all_goals first
        | exact H.elim
        | exact asks_note V hI A0 bs d os X ih IH _ _ _ _ _ _ P B T m n tk gl ob tb H
        | exact IH _ _ _ _ _ _ _ T m n tk gl ob tb H
        | (have z := IH _ _ _ _ _ P B T m n tk gl ob _ H; exact ⟨z.1, tl z.2⟩)
  | call c' hd g l k =>
    cases md with
    | none =>
      cases q : okMark hd with
      | false => simp only [simStepI, q] at H; exact H.elim
      | true =>
        simp only [simStepI, q] at H
        cases q2 : X.sp c' with
        | true => simp only [q2] at H; exact H.1
        | false => simp only [q2] at H; exact IH _ _ _ _ oc P B T m n tk gl ob tb H
    | some fs => exact IH _ _ _ _ oc _ B T m n tk gl ob tb H
  | newGen c' k => exact IH _ _ _ _ oc P B T m n tk _ ob tb H
  | genState g k =>
    simp only [simStepI] at H
    repeat' split at H
    all_goals first
      | exact H.elim
      | (have z := IH _ _ _ _ _ P B T m n tk gl _ tb H; exact ⟨tl z.1, z.2⟩)
  | resume g r l k =>
    simp only [simStepI] at H
    repeat' split at H
    all_goals first
      | exact H.elim
      | (have z := IH _ _ _ _ _ P B T m n tk _ _ tb H; exact ⟨tl z.1, z.2⟩)
  | yield v gd l k =>
    cases md with
    | none => exact H.elim
    | some fs =>
      cases gd with
      | true => exact H.elim
      | false =>
        cases hfs : splitAtGen fs with
        | some _ => simp only [simStepI, hfs] at H; exact H.elim
        | none =>
          cases hfg : fs.any Frame.guarded with
          | true => simp only [simStepI, hfs, hfg] at H; exact H.elim
          | false =>
            simp only [simStepI, hfs, hfg] at H
            exact asks_wake V hI A0 bs d os ih IH _ _ _ oc _ B T m n tk gl ob tb H
  | unsupported => exact H.elim
  | finish => exact H.elim
  | register => exact H.elim
  | choose => exact H.elim
  | os => exact H.elim
  | fork => exact H.elim
  | thread => exact H.elim
  | await => exact H.elim
omit IH
theorem asks_sim : ∀ f c md κ t, Asks V hI A0 bs d os (simI X f c md κ t)
  | 0, _, _, _, _ => fun _ _ _ _ _ _ _ _ _ _ h => h.elim
  | f + 1, c, md, κ, t => asks_step V hI A0 bs d os X (simI X f) (asks_sim f) c md κ t
end
end Mine
end
section
set_option genInjectivity false
set_option maxRecDepth 100000
namespace Mine
open PySem PySem.Spec PySem.Calls PyProof.Rows PySem.W PySem.W.X

theorem weight_le (c : Code) : c.weight ≤ cw c := by
  have crea : ∀ c : Code, (if c.isCreation then 1 else 0 : Nat) ≤ 1 := fun c => by split <;> omega
  have guar : ∀ c : Code, (if c.isGuard then 1 else 0 : Nat) ≤ 1 := fun c => by split <;> omega
  cases c with
  | builtin id args =>
    unfold cw
    dsimp only
    split
    · rename_i h q
      unfold Code.weight
      have h1 := crea (.builtin id args)
      have h2 := guar (.builtin id args)
      have h3 : (Code.builtin id args).frames ≤ 3 := by
        unfold Code.frames
        split <;> first | omega | (split <;> omega)
      have h4 : (if (Code.builtin id args).isCaller then claimMargin else 0 : Nat) ≤ 300 := by split <;> simp [claimMargin]
      omega
    · rename_i h q
      unfold Code.weight
      have h1 := crea (.builtin id args)
      have h2 := guar (.builtin id args)
      have h3 : (Code.builtin id args).frames ≤ 3 := by
        unfold Code.frames
        split <;> first | omega | (split <;> omega)
      have h4 : (Code.builtin id args).isCaller = false := by
        cases hc : (Code.builtin id args).isCaller with
        | false => rfl
        | true =>
          unfold Code.isCaller at hc
          split at hc
          · rename_i e; injection e with e1 e2; exact absurd e1 h
          · cases hc
      rw [h4]
      simp only [Bool.false_eq_true, if_false]
      omega
  | call f args => exact Nat.zero_le _
  | body stmts env => exact Nat.le_of_eq rfl
  | block stmts env => exact Nat.le_of_eq rfl
  | handlers e hs env => exact Nat.le_of_eq rfl
  | starHandlers a b c hs env => exact Nat.le_of_eq rfl
  | func b env => exact Nat.le_of_eq rfl
  | expr e env => exact Nat.le_of_eq rfl
  | whileLoop a b c env => exact Nat.le_of_eq rfl
  | forLoop a b c e env => exact Nat.le_of_eq rfl
  | asyncForLoop a b c e env => exact Nat.le_of_eq rfl
  | compStart e dd it acc env =>
    show Code.weight _ ≤ 1
    unfold Code.weight Code.frames
    have h1 : (Code.compStart e dd it acc env).isCreation = false := rfl
    have h2 : (Code.compStart e dd it acc env).isGuard = false := rfl
    have h3 : (Code.compStart e dd it acc env).isCaller = false := rfl
    rw [h1, h2, h3]
    dsimp only
    split <;> simp
  | compLoop e dd it acc env =>
    show Code.weight _ ≤ 1
    unfold Code.weight Code.frames
    have h1 : (Code.compLoop e dd it acc env).isCreation = false := rfl
    have h2 : (Code.compLoop e dd it acc env).isGuard = false := rfl
    have h3 : (Code.compLoop e dd it acc env).isCaller = false := rfl
    rw [h1, h2, h3]
    dsimp only
    split <;> simp
theorem dep_le (V : XV) : ∀ κ, (aroundOf V true κ).depth ≤ V.A₀.depth + kdep κ
  | .base => Nat.le_refl _
  | .ret c hd k κ => by
    show ((aroundOf V true κ).depth + c.weight) ≤ V.A₀.depth + (kdep κ + cw c)
    have h1 := dep_le V κ
    have h2 := weight_le c
    omega
  | .gen .. => Nat.le_add_right _ _
  | .genS .. => Nat.le_add_right _ _
theorem units_le_cw (c : Code) : c.cUnits ≤ 4 * cw c := by
  cases c with
  | builtin id args =>
    have h3 : (Code.builtin id args).frames ≤ 3 := by
      unfold Code.frames
      split <;> first | omega | (split <;> omega)
    have h5 : 5 ≤ cw (.builtin id args) := by
      unfold cw
      dsimp only
      split <;> omega
    have h6 : (Code.builtin id args).cUnits = 1 + 3 * (Code.builtin id args).frames := rfl
    omega
  | call f args => show 1 ≤ 4 * 1; omega
  | body stmts env => show 3 * 1 ≤ 4 * 1; omega
  | block stmts env => exact Nat.zero_le _
  | handlers e hs env => exact Nat.zero_le _
  | starHandlers a b c hs env => exact Nat.zero_le _
  | func b env => show 3 * 1 ≤ 4 * 1; omega
  | expr e env => show 3 * 1 ≤ 4 * 1; omega
  | whileLoop a b c env => exact Nat.zero_le _
  | forLoop a b c e env => exact Nat.zero_le _
  | asyncForLoop a b c e env => exact Nat.zero_le _
  | compStart e dd it acc env =>
    have h : (Code.compStart e dd it acc env).frames ≤ 1 := by
      show (if (Code.compStart e dd it acc env).isFrame = true then 1 else 0) ≤ 1
      split <;> omega
    show 3 * (Code.compStart e dd it acc env).frames ≤ 4 * 1
    omega
  | compLoop e dd it acc env =>
    have h : (Code.compLoop e dd it acc env).frames ≤ 1 := by
      show (if (Code.compLoop e dd it acc env).isFrame = true then 1 else 0) ≤ 1
      split <;> omega
    show 3 * (Code.compLoop e dd it acc env).frames ≤ 4 * 1
    omega
theorem units_le (V : XV) : ∀ κ, (aroundOf V true κ).units ≤ V.A₀.units + 4 * kdep κ
  | .base => Nat.le_refl _
  | .ret c hd k κ => by
    show ((aroundOf V true κ).units + c.cUnits) ≤ V.A₀.units + 4 * (kdep κ + cw c)
    have h1 := units_le V κ
    have h2 := units_le_cw c
    omega
  | .gen .. => Nat.le_add_right _ _
  | .genS .. => Nat.le_add_right _ _
/-- room for a claim's calls: python frames, C frames -/
noncomputable def Room (A : Around) (D : Nat) : Prop := A.depth + D < recursionLimit ∧ A.units + 4 * D < cLine
theorem Room.le {A : Around} {D D' : Nat} (h : Room A D) (le : D' ≤ D) : Room A D' :=
  ⟨Nat.lt_of_le_of_lt (Nat.add_le_add_left le _) h.1, Nat.lt_of_le_of_lt (Nat.add_le_add_left (Nat.mul_le_mul_left 4 le) _) h.2⟩
theorem rcT_is (op : CmpOp) (a b : Nat) : rcT op a b = richCompare op (.ref a) (.ref b) := by
  show PySem.W.Fast.tw9423741818375054981 op (.ref a) (.ref b) = _
  rw [← PySem.W.Fast.te9423741818375054981]
theorem room_bind {α : Type} (w : String) (f : Unit → Sem α) (vs : List Value) : ∃ kr, ((cRoom w >>= f).keep vs) = .stack kr ∧ ∀ l, (l.map (·.1.cUnits)).sum < cLine → kr l = kr [] := by
  refine ⟨fun l => Sem.keep vs (Sem.bind (if (l.map (·.1.cUnits)).sum ≥ cLine then unsupported s!"recursion.c-limit:near:{w}" else pure ()) f), rfl, fun l h => ?_⟩
  dsimp only
  rw [if_neg (Nat.not_le.mpr h), if_neg (show ¬ (([] : List (Code × Pos)).map (·.1.cUnits)).sum ≥ cLine from by decide)]
theorem rc_stack (op : CmpOp) (a b : Nat) : ∃ kr, richCompare op (.ref a) (.ref b) = .stack kr ∧ ∀ l, (l.map (·.1.cUnits)).sum < cLine → kr l = kr [] := by
  unfold richCompare
  exact room_bind "comparison" _ [.ref a, .ref b]
theorem Cx.le {M : Model} {Γ : PySem.Ctx} : ∀ {α : Type} (cx : Cx α) (m m' : Sem α), (∀ Q E p s, Sem.wp M Γ m' Q E p s → Sem.wp M Γ m Q E p s) → ∀ Q E p s, Sem.wp M Γ (cx.app m') Q E p s → Sem.wp M Γ (cx.app m) Q E p s
  | _, .fin, _, _, h => h
  | _, .bind f c, m, m', h => Cx.le c (R.bindR m f) (R.bindR m' f) fun Q E p s x => by
    rw [← R.bindR_eq] at x ⊢
    rw [Sem.wp_bind] at x ⊢
    exact h _ _ _ _ x
  | _, .keep vs c, m, m', h => Cx.le c (R.keepR vs m) (R.keepR vs m') fun Q E p s x => by
    rw [← R.keepR_eq] at x ⊢
    rw [Sem.wp_keep] at x ⊢
    exact h _ _ _ _ x
  | _, .onRaise g c, m, m', h => Cx.le c (R.onRaiseR m g) (R.onRaiseR m' g) fun Q E p s x => by
    rw [← R.onRaiseR_eq] at x ⊢
    rw [Sem.wp_onRaise] at x ⊢
    exact h _ _ _ _ x
/-- a comparison's look at the stack is passed -/
theorem room_pass {prog : Program} {w : World} {A : Around} {c : Code} {op : CmpOp} {a b : Nat} {kr : List (Code × Pos) → Sem Value} (e : rcT op a b = .stack kr) (hu : A.units + c.cUnits < cLine) (cx : Cx Value) {Q : Fin → Shared → Prop} {E : Value → Shared → Prop} {s : Shared}
    (z : wpOwn (model prog w) A c (cx.app (kr [])) Q E s) : wpOwn (model prog w) A c (cx.app (rcT op a b)) Q E s := fun Γ p hc hΓ => by
  refine Cx.le cx (rcT op a b) (kr []) (fun Q E p s x => ?_) _ _ _ _ (z Γ p hc hΓ)
  obtain ⟨kr', e', h'⟩ := rc_stack op a b
  rw [rcT_is, e'] at e
  have ek : kr' = kr := by injection e
  rw [rcT_is, e', Sem.wp_stack, h', ek]
  · exact x
  · show (((Γ.code, p) :: Γ.below).map (·.1.cUnits)).sum < cLine
    have h1 : (((Γ.code, p) :: Γ.below).map (·.1.cUnits)).sum = Γ.units := unitsOf_cons _ _ _
    rw [h1]
    have h2 := hΓ.2.2.2.2
    show Γ.code.cUnits + unitsOf Γ.below < cLine
    rw [hc]
    omega
theorem Cx.leAt {M : Model} {Γ : PySem.Ctx} {s : Shared} : ∀ {α : Type} (cx : Cx α) (m m' : Sem α), (∀ Q E, (∀ p, Sem.wp M Γ m' Q E p s) → ∀ p, Sem.wp M Γ m Q E p s) → ∀ Q E, (∀ p, Sem.wp M Γ (cx.app m') Q E p s) → ∀ p, Sem.wp M Γ (cx.app m) Q E p s
  | _, .fin, _, _, h => h
  | _, .bind f c, m, m', h => Cx.leAt c (R.bindR m f) (R.bindR m' f) fun Q E x p => by
    rw [← R.bindR_eq] at x ⊢
    rw [Sem.wp_bind]
    exact h _ _ (fun p' => by have y := x p'; rw [Sem.wp_bind] at y; exact y) p
  | _, .keep vs c, m, m', h => Cx.leAt c (R.keepR vs m) (R.keepR vs m') fun Q E x p => by
    rw [← R.keepR_eq] at x ⊢
    rw [Sem.wp_keep]
    exact h _ _ (fun p' => by have y := x p'; rw [Sem.wp_keep] at y; exact y) p
  | _, .onRaise g c, m, m', h => Cx.leAt c (R.onRaiseR m g) (R.onRaiseR m' g) fun Q E x p => by
    rw [← R.onRaiseR_eq] at x ⊢
    rw [Sem.wp_onRaise]
    exact h _ _ (fun p' => by have y := x p'; rw [Sem.wp_onRaise] at y; exact y) p
noncomputable def Cx.flat : {α : Type} → Cx α → α → Sem Fin
  | _, .fin => Sem.pure
  | _, .bind f c => fun a => c.app (f a)
  | _, .keep vs c => fun a => c.app (R.keepR vs (Sem.pure a))
  | _, .onRaise h c => fun a => c.app (R.onRaiseR (Sem.pure a) h)
theorem Cx.flat_is : ∀ {α : Type} (cx : Cx α), cx.binds = true → ∀ m : Sem α, cx.app m = Sem.bind m cx.flat
  | _, .fin, _, m => (bind_pure m).symm
  | _, .bind f c, h, m => by
    show c.app (R.bindR m f) = Sem.bind m fun a => c.app (f a)
    rw [← R.bindR_eq, Cx.flat_is c h]
    have e : (fun a => c.app (f a)) = fun a => Sem.bind (f a) c.flat := funext fun a => Cx.flat_is c h (f a)
    rw [e]
    exact bind_assoc m f c.flat
  | _, .keep _ _, h, _ => nomatch h
  | _, .onRaise _ _, h, _ => nomatch h
theorem fieldAt_is {o : Obj} {i : Nat} {v : Value} (h : fieldAt o i = some v) : ∃ vs, o.data = .fields vs ∧ vs[i]? = some v := by
  unfold fieldAt at h
  split at h
  · rename_i vs e
    exact ⟨vs, e, h⟩
  · cases h
/-- the look at its own trace changes nothing -/
theorem note_wp {M : Model} {A : Around} {h : Heap} {g : Array GenState} {d : Drawn} {tk : Nat} {os : OsState} {e tb f : Nat} {env : Env} {oe ot : Obj} (hf : env.frame = some f) (he : h.get? e = some oe) (h1 : fieldAt oe 1 = some (.ref tb)) (ht : h.get? tb = some ot) (h3 : fieldAt ot 3 = some (.int (.ofNat f) 0))
    {Q : Unit → Shared → Prop} {E : Value → Shared → Prop} (z : Q () ⟨h, g, d, tk, os⟩) : wpAny M A (PySem.W.Fast.tw17872113653443481271 (.ref e) env) Q E ⟨h, g, d, tk, os⟩ := by
  obtain ⟨vs, a1, a2⟩ := fieldAt_is h1
  obtain ⟨ws, b1, b2⟩ := fieldAt_is h3
  rw [← PySem.W.Fast.te17872113653443481271]
  exact wpAny_noteFrame_inFlight hf he a1 a2 ht b1 b2 z
theorem fr_is (V : XV) (l : List Env) (h : V.A₀.frames = some l) : ∀ b κ, (aroundOf V b κ).frames = some (frK l b κ)
  | true, .base => h
  | true, .ret c hd k κ => by
    show pushEnvs c.envs (aroundOf V true κ).frames = _
    rw [fr_is V l h true κ, pushEnvs_eq]; rfl
  | true, .gen .. => h
  | true, .genS .. => h
  | false, .gen _ c _ κ => by
    show pushEnvs c.envs (aroundOf V true κ).frames = _
    rw [fr_is V l h true κ, pushEnvs_eq]; rfl
  | false, .genS _ c fs _ κ => by
    show pushEnvs c.envs (pushEnvs (envsOf (fs.map Frame.where_)) (aroundOf V false κ).frames) = _
    rw [fr_is V l h false κ, pushEnvs_eq, pushEnvs_eq]; rfl
  | false, .base => h
  | false, .ret .. => h
theorem frames_none (V : XV) (l : List Env) (h : V.A₀.frames = some l) (c : Code) (κ : Kont) : ((aroundOf V true κ).under c).frames = some (framesI l c none κ) := by
  show pushEnvs c.envs (aroundOf V true κ).frames = _
  rw [fr_is V l h true κ, pushEnvs_eq]; rfl
theorem frames_some (V : XV) (l : List Env) (h : V.A₀.frames = some l) (c : Code) (fs : List Frame) (κ : Kont) : ((aroundOf V false κ).over c fs).frames = some (framesI l c (some fs) κ) := by
  show pushEnvs c.envs (pushEnvs (envsOf (fs.map Frame.where_)) (aroundOf V false κ).frames) = _
  rw [fr_is V l h false κ, pushEnvs_eq, pushEnvs_eq]; rfl
theorem notMod_is {e : Env} (h : notMod e = true) : e.scope.kind ≠ .module := fun q => by
  unfold notMod at h
  rw [q] at h
  cases h
theorem notFields_is {o : Obj} (h : notFields o = true) : ∀ vs, o.data ≠ .fields vs := fun vs q => by
  unfold notFields at h
  rw [q] at h
  cases h
noncomputable def hNil : Heap := ⟨#[], {}⟩
theorem nil_get (a : Nat) : hNil.get? a = none := by
  cases h : hNil.get? a with
  | none => rfl
  | some o => exact absurd (Heap.lt_size h) (Nat.not_lt_zero _)
theorem readyOk_fun {hI h : Heap} {A0 : List Nat} {T : LT} {n : Nat} (D : Rp hI A0 h T n) : ∀ {l : List Env} {is : List Nat} {r : List (Nat × Nat)}, readyOk l is T = some r → (∀ p ∈ r, p.1 = p.2) → h.FunFrames hNil l ∧ (∀ b ∈ l.filterMap (·.frame), ∃ i ∈ is, ∃ o, T.get i = some (b, o)) ∧ (∀ i ∈ is, ∃ b o, T.get i = some (b, o) ∧ notFields o = true)
  | [], [], r, e, _ => ⟨trivial, fun b hb => by simp at hb, fun i hi => nomatch hi⟩
  | [], _ :: _, r, e, _ => by unfold readyOk at e; cases e
  | _ :: _, [], r, e, _ => by unfold readyOk at e; cases e
  | env :: l, i :: is, r, e, hr => by
    unfold readyOk at e
    split at e
    · rename_i f hf
      split at e
      · rename_i hm
        split at e
        · rename_i q hq
          split at e
          · rename_i hn
            split at e
            · rename_i r' hr'
              cases e
              obtain ⟨x1, x2, x3⟩ := readyOk_fun D hr' fun p hp => hr p (.tail _ hp)
              have e0 := hr (f, q.1) (.head _)
              dsimp only at e0
              have ho := (D.own i q.1 q.2 hq).1
              refine ⟨⟨notMod_is hm, ⟨f, q.2, hf, nil_get f, by rw [e0]; exact ho, notFields_is hn⟩, x1⟩, fun b hb => ?_, fun j hj => ?_⟩
              · rw [List.filterMap_cons, hf] at hb
                rcases List.mem_cons.mp hb with rfl | hb
                · exact ⟨i, .head _, q.2, by rw [e0]; exact hq⟩
                · obtain ⟨k, hk, o, ho⟩ := x2 b hb
                  exact ⟨k, .tail _ hk, o, ho⟩
              · rcases List.mem_cons.mp hj with rfl | hj
                · exact ⟨q.1, q.2, hq, hn⟩
                · exact x3 j hj
            · cases e
          · cases e
        · cases e
      · cases e
    · cases e
theorem readyF_get (sl : Nat → Array (Option Value)) : ∀ (is : List Nat) (T : LT) (k : Nat), (readyF sl is T).get k = if k ∈ is then (T.get k).map (fun q => (q.1, setSl (sl k) q.2)) else T.get k
  | [], T, k => by unfold readyF; rw [if_neg (fun h => nomatch h)]
  | i :: is, T, k => by
    unfold readyF
    rw [readyF_get sl is, LT.get_set]
    by_cases hk : k = i
    · subst hk
      rw [if_pos rfl, if_pos (List.mem_cons_self)]
      split
      · cases T.get k <;> rfl
      · rfl
    · rw [if_neg hk]
      by_cases hm : k ∈ is
      · rw [if_pos hm, if_pos (List.mem_cons_of_mem _ hm)]
      · rw [if_neg hm, if_neg (fun h => (List.mem_cons.mp h).elim hk hm)]
theorem Rp.slots {hI h h' : Heap} {A0 : List Nat} {T : LT} {n : Nat} (D : Rp hI A0 h T n) {A : List Addr} (x : Heap.SlotsOnly A h h') {is : List Nat} (hA : ∀ b ∈ A, ∃ i ∈ is, ∃ o, T.get i = some (b, o)) (hi : ∀ i ∈ is, ∃ b o, T.get i = some (b, o) ∧ notFields o = true) :
    ∃ sl, Rp hI A0 h' (readyF sl is T) n := by
  refine ⟨fun i => match T.get i with | some q => (match h'.get? q.1 with | some o => o.slots | none => #[]) | none => #[], ?_⟩
  have all : ∀ i a o, (readyF (fun i => match T.get i with | some q => (match h'.get? q.1 with | some o => o.slots | none => #[]) | none => #[]) is T).get i = some (a, o) → h'.get? a = some o ∧ ∃ o₀, T.get i = some (a, o₀) := fun i a o e => by
    rw [readyF_get] at e
    by_cases hm : i ∈ is
    · rw [if_pos hm] at e
      cases q : T.get i with
      | none => rw [q] at e; cases e
      | some p =>
        rw [q] at e
        cases e
        obtain ⟨s2, e2⟩ := x.2.2 _ _ (D.own i p.1 p.2 q).1
        refine ⟨?_, p.2, rfl⟩
        have e3 : (match h'.get? p.1 with | some o => o.slots | none => #[]) = s2 := by rw [e2]
        show _ = some (setSl (match h'.get? p.1 with | some o => o.slots | none => #[]) p.2)
        rw [e3, e2]
        rfl
    · rw [if_neg hm] at e
      refine ⟨?_, o, e⟩
      rw [x.2.1 a fun ha => ?_]
      · exact (D.own i a o e).1
      · obtain ⟨j, hj, o', ej⟩ := hA a ha
        exact hm (D.inj i j a o o' e ej ▸ hj)
  refine ⟨x.1.trans D.size, fun i a o e => ?_, fun i j a o o' e1 e2 => ?_, fun b o eb hb => ?_, D.grow⟩
  · obtain ⟨y1, o₀, y2⟩ := all i a o e
    exact ⟨y1, (D.own i a o₀ y2).2⟩
  · obtain ⟨_, o1, y1⟩ := all i a o e1
    obtain ⟨_, o2, y2⟩ := all j a o' e2
    exact D.inj i j a o1 o2 y1 y2
  · have y := D.keep b o eb hb
    rw [x.2.1 b fun ha => ?_]
    · exact y
    · obtain ⟨j, hj, o', ej⟩ := hA b ha
      rcases (D.own j b o' ej).2 with z | z
      · exact hb z
      · exact absurd (Heap.lt_size eb) (Nat.not_lt.mpr z)
theorem place_cells {pl : List Value} (h : IsPlace pl) (a b c d e : Value) : ∃ cc : Nat → Value, ([a, b, c, d, e] ++ (if pl.isEmpty then List.replicate 6 Value.none else pl)).toArray = #[a, b, c, d, e, cc 0, cc 1, cc 2, cc 3, cc 4, cc 5] := by
  rcases h with rfl | ⟨w, x, y, z, c9, b10, _, rfl⟩
  · exact ⟨fun _ => .none, rfl⟩
  · exact ⟨fun i => [rawInt w, rawInt x, rawInt y, rawInt z, c9, .bool b10].getD i .none, rfl⟩
/-- a frame is added to the trace -/
theorem look_wp {M : Model} {A : Around} {h : Heap} {g : Array GenState} {d : Drawn} {tk : Nat} {os : OsState} {e f : Nat} {env env' : Env} {outer : List Env} {oe : Obj} {hv : Value} {h1 : Heap}
    (hfr : A.frames = some (env' :: outer)) (hf' : env'.frame = some f) (hf : env.frame = some f) (he : h.get? e = some oe) (hh : fieldAt oe 1 = some hv)
    (hc : (hv = .none ∧ h1 = h) ∨ ∃ tb ot, hv = .ref tb ∧ h.get? tb = some ot ∧ fieldAt ot 3 = some .none ∧ tb ≠ e ∧ h1 = h.update tb (Obj.mapFields (·.setIfInBounds 3 .none)))
    (fun_ : h1.FunFrames hNil (env' :: outer))
    {Q : Unit → Shared → Prop} {E : Value → Shared → Prop}
    (z : ∀ h2 cc, Heap.SlotsOnly ((env' :: outer).filterMap (·.frame)) h1 h2 → Q () ⟨(h2.push (traceO hv f cc)).update e (Obj.mapFields (·.setIfInBounds 1 (.ref h2.objs.size))), g, d, tk, os⟩) :
    wpAny M A (PySem.W.Fast.tw17872113653443481271 (.ref e) env) Q E ⟨h, g, d, tk, os⟩ := by
  obtain ⟨vs, a1, a2⟩ := fieldAt_is hh
  rw [← PySem.W.Fast.te17872113653443481271]
  have hsz : 1 < vs.size := (Array.getElem?_eq_some_iff.mp a2).1
  have h1e : h1.get? e = some oe := by
    rcases hc with ⟨_, rfl⟩ | ⟨tb, ot, _, _, _, ne, rfl⟩
    · exact he
    · rw [Heap.get?_update_other _ _ ne]; exact he
  have tail : wpAny M A (do setField (.ref e) 1 (← EntryCells.newEntry hv (← PySem.frameOf env) .none (rawInt f) .none (← entryPlaceOf f (hv != .none)))) Q E ⟨h1, g, d, tk, os⟩ := by
    unfold PySem.frameOf
    refine wpAny_bind (wpAny_bind (wpAny_frameEnvs hfr ?_))
    have hdw : ((env' :: outer).dropWhile fun x => x.frame != env.frame) = env' :: outer := by
      rw [List.dropWhile_cons]
      rw [if_neg (by rw [hf, hf']; simp)]
    rw [hdw]
    unfold frameObject
    refine wpAny_bind (wpAny_bind (wpAny_readyFrames_fun fun_ fun h2 hs => wpAny_pure ?_))
    rw [hf']
    refine wpAny_pure ?_
    refine wpAny_bind (wpAny_entryPlaceOf fun pl hpl => ?_)
    unfold EntryCells.newEntry newFields
    refine wpAny_bind (wpAny_newObj_type ?_ (hpl.sizeOk5 _ _ _ _ _))
    obtain ⟨cc, ec⟩ := place_cells hpl hv (.ref f) .none (rawInt f) .none
    rw [ec]
    have he2 : h2.get? e = some oe := by
      rw [hs.2.1 e fun hm => ?_]
      · exact h1e
      · obtain ⟨_, o, ho, hd⟩ := fun_.mem hm
        rw [h1e] at ho
        cases ho
        exact hd vs a1
    exact wpAny_setField (Heap.get?_push_of_some _ he2) a1 hsz (z h2 cc hs)
  unfold noteFrame
  simp only [hf]
  refine wpAny_bind (wpAny_field he a1 a2 ?_)
  rcases hc with ⟨rfl, rfl⟩ | ⟨tb, ot, rfl, b1, b2, ne, rfl⟩
  · rw [if_neg (by decide)]
    exact tail
  · obtain ⟨ws, c1, c2⟩ := fieldAt_is b2
    rw [if_pos (show (Value.ref tb != Value.none) = true from by simp)]
    refine wpAny_bind (wpAny_field b1 c1 c2 ?_)
    rw [if_neg (show ¬ (Value.none == rawInt f) = true from by simp [rawInt])]
    refine wpAny_bind (wpAny_setField b1 c1 (Array.getElem?_eq_some_iff.mp c2).1 ?_)
    exact tail
noncomputable def encL (l : List (Option Value)) : List (Code × Pos) := l.map fun o => (.builtin "" ⟨o.toList, []⟩, default)
theorem dv_enc (l : List (Option Value)) : dv (encL l) = l := by
  unfold dv encL
  rw [List.map_map]
  conv => rhs; rw [← List.map_id l]
  refine List.map_congr_left fun o _ => ?_
  cases o <;> rfl
theorem Cx.leOn {M : Model} {Γ : PySem.Ctx} {s : Shared} {S : Shared → Prop} : ∀ {α : Type} (cx : Cx α) (m m' : Sem α), (∀ Q E, (∀ s', S s' → ∀ p, Sem.wp M Γ m' Q E p s') → ∀ p, Sem.wp M Γ m Q E p s) → ∀ Q E, (∀ s', S s' → ∀ p, Sem.wp M Γ (cx.app m') Q E p s') → ∀ p, Sem.wp M Γ (cx.app m) Q E p s
  | _, .fin, _, _, h => h
  | _, .bind f c, m, m', h => Cx.leOn c (R.bindR m f) (R.bindR m' f) fun Q E x p => by
    rw [← R.bindR_eq] at x ⊢
    rw [Sem.wp_bind]
    exact h _ _ (fun s' hs p' => by have y := x s' hs p'; rw [Sem.wp_bind] at y; exact y) p
  | _, .keep vs c, m, m', h => Cx.leOn c (R.keepR vs m) (R.keepR vs m') fun Q E x p => by
    rw [← R.keepR_eq] at x ⊢
    rw [Sem.wp_keep]
    exact h _ _ (fun s' hs p' => by have y := x s' hs p'; rw [Sem.wp_keep] at y; exact y) p
  | _, .onRaise g c, m, m', h => Cx.leOn c (R.onRaiseR m g) (R.onRaiseR m' g) fun Q E x p => by
    rw [← R.onRaiseR_eq] at x ⊢
    rw [Sem.wp_onRaise]
    exact h _ _ (fun s' hs p' => by have y := x s' hs p'; rw [Sem.wp_onRaise] at y; exact y) p
theorem look_ctx {M : Model} {A : Around} {Γ : PySem.Ctx} {h : Heap} {g : Array GenState} {d : Drawn} {tk : Nat} {os : OsState} {e f : Nat} {env env' : Env} {outer : List Env} {oe : Obj} {hv : Value} {h1 : Heap} (cx : Cx Unit)
    (hfr : A.frames = some (env' :: outer)) (hf' : env'.frame = some f) (hf : env.frame = some f) (he : h.get? e = some oe) (hh : fieldAt oe 1 = some hv)
    (hc : (hv = .none ∧ h1 = h) ∨ ∃ tb ot, hv = .ref tb ∧ h.get? tb = some ot ∧ fieldAt ot 3 = some .none ∧ tb ≠ e ∧ h1 = h.update tb (Obj.mapFields (·.setIfInBounds 3 .none)))
    (fun_ : h1.FunFrames hNil (env' :: outer))
    {Q : Fin → Shared → Prop} {E : Value → Shared → Prop}
    (z : ∀ h2 cc, Heap.SlotsOnly ((env' :: outer).filterMap (·.frame)) h1 h2 → ∀ p, Sem.wp M Γ (cx.app (.pure ())) (fun a _ s' => Q a s') (fun e _ s' => E e s') p ⟨(h2.push (traceO hv f cc)).update e (Obj.mapFields (·.setIfInBounds 1 (.ref h2.objs.size))), g, d, tk, os⟩)
    (hΓ : Γ.In A) (p : Pos) : Sem.wp M Γ (cx.app (PySem.W.Fast.tw17872113653443481271 (.ref e) env)) (fun a _ s' => Q a s') (fun e _ s' => E e s') p ⟨h, g, d, tk, os⟩ := by
  refine Cx.leOn (S := fun s' => ∃ h2 cc, Heap.SlotsOnly ((env' :: outer).filterMap (·.frame)) h1 h2 ∧ s' = ⟨(h2.push (traceO hv f cc)).update e (Obj.mapFields (·.setIfInBounds 1 (.ref h2.objs.size))), g, d, tk, os⟩) cx _ (.pure ()) (fun Q E x p => ?_) _ _ ?_ p
  · refine Sem.wp_mono M Γ _ (fun _ p' _ y => y p') (fun _ p' _ y => y p') p _ (look_wp (A := A) (Q := fun u s' => ∀ p', Q u p' s') (E := fun e s' => ∀ p', E e p' s') hfr hf' hf he hh hc fun_ (fun h2 cc hs p' => ?_) Γ p hΓ)
    have y := x _ ⟨h2, cc, hs, rfl⟩ p'
    rw [Sem.wp_pure] at y
    exact y
  · rintro s' ⟨h2, cc, hs, rfl⟩ p'
    exact z h2 cc hs p'
theorem handled_is (V : XV) (hh : V.A₀.handled = none) : ∀ κ, (aroundOf V true κ).handled = hOf κ
  | .base => hh
  | .ret c hd k κ => by
    show hd.or (aroundOf V true κ).handled = _
    rw [handled_is V hh κ]
    cases hd <;> rfl
  | .gen .. => hh
  | .genS .. => hh
theorem noLimit_of {hI h : Heap} (k : ∀ o, hI.get? cStatics = some o → h.get? cStatics = some o) (x : hI.NoLimit) : h.NoLimit := by
  obtain ⟨mc, ⟨o, es, ep, e, r⟩, q⟩ := x
  exact ⟨mc, ⟨o, es, ep, k o e, r⟩, q⟩
theorem enterT_is (f : Unit → Sem Fin) : R.bindR enterT f = (enterFrame >>= f) := by
  show R.bindR (PySem.W.Fast.tw15066281185411960212 0) f = Sem.bind (enterFrame 0) f
  rw [← R.bindR_eq, ← PySem.W.Fast.te15066281185411960212]
section
variable (V : XV) (hI : Heap) (A0 : List Nat) (X : Cfg)
structure Sure : Prop where
  den : X.den = denote table
  S : X.S = ⟨V.prog, V.w.params⟩
  kt : ∀ a o, isOld a = true → X.kt.get a = some o → hI.get? a = some o
  A0 : ∀ a ∈ A0, 178 ≤ a ∨ a = 121
  lim : hI.NoLimit
  dep : V.A₀.depth + 100 < recursionLimit
  uni : V.A₀.units + 400 < cLine
  hh : V.A₀.handled = none
  rw : ∀ g ∈ X.nx, ∀ T p, (g T).pr = some p → p.1 = p.2
  fr : ∀ l, X.fr = some l → V.A₀.frames = some l
/-- a table of generators with a prefix -/
theorem set_pre (bs gl : List GenState) (i : Nat) (x : GenState) : (bs ++ gl).set (bs.length + i) x = bs ++ gl.set i x := by
  rw [List.set_append_right _ _ (Nat.le_add_right _ _), Nat.add_sub_cancel_left]
theorem get_pre (bs gl : List GenState) (i : Nat) : (bs ++ gl)[bs.length + i]? = gl[i]? := by
  rw [List.getElem?_append_right (Nat.le_add_right _ _), Nat.add_sub_cancel_left]
variable (bs : List GenState) (d : Drawn) (os : OsState)
variable (Y : Sure V hI A0 X)
include Y
theorem old_at {h : Heap} {T : LT} {n : Nat} (D : Rp hI A0 h T n) {a : Nat} {o : Obj} (q : isOld a = true) (e : X.kt.get a = some o) : h.get? a = some o := by
  refine D.keep a o (Y.kt a o q e) fun hm => ?_
  unfold isOld at q
  cases w : Nat.blt a 178 with
  | false => rw [w] at q; cases q
  | true =>
    rw [w] at q
    rcases Y.A0 a hm with h1 | h1
    · exact absurd (blt_true w) (Nat.not_lt.mpr h1)
    · subst h1; cases q
theorem lim_at {h : Heap} {T : LT} {n : Nat} (D : Rp hI A0 h T n) : h.NoLimit := by
  refine noLimit_of (fun o e => D.keep cStatics o e fun hm => ?_) Y.lim
  rcases Y.A0 _ hm with h1 | h1
  · exact absurd h1 (by decide)
  · exact absurd h1 (by decide)
variable (ih : SimTyI)
  (IA : ∀ c md κ t, Asks V hI A0 bs d os (ih c md κ t))
  (IH : ∀ c md κ t oc T m n tk gl ob tb h, (∀ P B, Sat V hI A0 bs d os (ih c md κ t oc P B T m n tk gl ob tb)) → Rp hI A0 h T n → Means V c md κ t ⟨h, ⟨bs ++ gl⟩, d, tk, os⟩)
include IA IH
omit Y in
theorem wakeI_sound {gb : Nat} (hg : gb = bs.length) {e : End} {κ : Kont} {oc : List Nat} {T : LT} {m n tk : Nat} {gl : List GenState} {ob tb} {h : Heap} (H : ∀ P B, Sat V hI A0 bs d os (wakeI gb ih e κ oc P B T m n tk gl ob tb)) (D : Rp hI A0 h T n) : wakeOf V κ e ⟨h, ⟨bs ++ gl⟩, d, tk, os⟩ := by
  have nay := H (fun _ => default) (fun _ => [])
  cases κ with
  | base => exact nay.elim
  | ret => exact nay.elim
  | gen g c k κ =>
    cases oc with
    | nil => exact nay.elim
    | cons i oc =>
      have q := (IA _ _ _ _ _ _ _ _ _ _ _ _ _ _ nay).1 _ (.head _)
      dsimp only at q
      have z := IH _ _ _ _ _ _ _ _ _ _ _ _ h H D
      have e := set_gens h (bs ++ gl) d tk os g e.genState
      rw [q, hg, set_pre] at e
      show wpOwn _ _ _ _ _ _ _
      rw [q, hg, e]
      exact z
  | genS g c fs k κ =>
    cases oc with
    | nil => exact nay.elim
    | cons i oc =>
      have q := (IA _ _ _ _ _ _ _ _ _ _ _ _ _ _ nay).1 _ (.head _)
      dsimp only at q
      have z := IH _ _ _ _ _ _ _ _ _ _ _ _ h H D
      have e := set_gens h (bs ++ gl) d tk os g e.genState
      rw [q, hg, set_pre] at e
      show SegX _ _ _ _ _ _ _
      rw [q, hg, e]
      exact z
theorem lookI_sound {c : Code} {md : Option (List Frame)} {κ : Kont} {t : Sem Fin} {g : Lk} {oc : List Nat} {T : LT} {m n tk : Nat} {gl : List GenState} {ob tb} {h : Heap}
    (H : ∀ P B, Sat V hI A0 bs d os (lookI X ih c md κ t g oc P B T m n tk gl ob tb)) (D : Rp hI A0 h T n) : Means V c md κ t ⟨h, ⟨bs ++ gl⟩, d, tk, os⟩ := by
  have nay := H (fun _ => default) (fun _ => [])
  unfold lookI at H nay
  split at nay
  · exact nay.elim
  rename_i l el
  simp only [el] at H
  split at nay
  · exact nay.elim
  rename_i env' outer efr
  simp only [efr] at H
  split at nay
  · exact nay.elim
  rename_i f ef'
  simp only [ef'] at H
  split at nay
  · exact nay.elim
  rename_i qe ee
  simp only [ee] at H
  split at nay
  · exact nay.elim
  rename_i r er
  simp only [er] at H
  split at nay
  · exact nay.elim
  rename_i ro ero
  simp only [ero] at H
  split at nay
  · exact nay.elim
  rename_i eb
  simp only [eb] at H
  -- what was asked
  have asked : OblL ((g.e, qe.1) :: (r.2.2 ++ (ro ++ ob))) ((t, (g.cx c env').app (PySem.W.Fast.tw17872113653443481271 (.ref g.e) env')) :: tb) := by
    split at nay
    · exact nay.elim
    split at nay
    · exact nay.elim
    split at nay
    · exact nay.elim
    have q := IA _ _ _ _ _ _ _ _ _ _ _ _ _ _ nay
    exact ⟨fun p hp => q.1 p (.tail _ hp), q.2⟩
  have o2 := asked.1 _ (.head _)
  have o3 : ∀ p ∈ r.2.2, p.1 = p.2 := fun p hp => asked.1 p (.tail _ (List.mem_append_left _ hp))
  have o4 : ∀ p ∈ ro, p.1 = p.2 := fun p hp => asked.1 p (.tail _ (List.mem_append_right _ (List.mem_append_left _ hp)))
  have o5 := asked.2 _ (.head _)
  dsimp only at o2 o5
  have he := (D.own _ qe.1 qe.2 ee).1
  -- the trace so far
  obtain ⟨h1, D1, hh, hc⟩ : ∃ h1, Rp hI A0 h1 r.2.1 n ∧ fieldAt qe.2 1 = some r.1 ∧ ((r.1 = .none ∧ h1 = h) ∨ ∃ tb ot, r.1 = .ref tb ∧ h.get? tb = some ot ∧ fieldAt ot 3 = some .none ∧ tb ≠ g.e ∧ h1 = h.update tb (Obj.mapFields (·.setIfInBounds 3 .none))) := by
    unfold headI at er
    split at er
    · split at er
      · rename_i e1
        cases er
        exact ⟨h, D, e1, .inl ⟨rfl, rfl⟩⟩
      · cases er
    · rename_i it eit
      split at er
      · cases er
      · rename_i ne
        split at er
        · rename_i b e1
          split at er
          · rename_i qt et
            split at er
            · rename_i e3
              cases er
              have ob := o3 (b, qt.1) (.head _)
              dsimp only at ob
              subst ob
              have ht := (D.own _ qt.1 qt.2 et).1
              obtain ⟨ws, c1, c2⟩ := fieldAt_is e3
              have hf3 : (Obj.mapFields (·.setIfInBounds 3 .none) qt.2).isFreed = false := Obj.isFreed_of_fields (Obj.data_mapFields c1 _)
              refine ⟨_, D.update (f := Obj.mapFields (·.setIfInBounds 3 .none)) et hf3, e1, .inr ⟨qt.1, qt.2, rfl, ht, e3, fun q => ?_, rfl⟩⟩
              rw [o2] at q
              have := D.inj it g.ie qt.1 qt.2 qe.2 et (q ▸ ee)
              exact Nat.ne_of_beq_eq_false ne this
            · cases er
          · cases er
        · cases er
  obtain ⟨fun_, fm, fi_⟩ := readyOk_fun D1 ero o4
  -- the end of the look
  have fin : ∀ h2 cc, Heap.SlotsOnly ((env' :: outer).filterMap (·.frame)) h1 h2 → Means V c md κ ((g.cx c env').app (.pure ())) ⟨(h2.push (traceO r.1 f cc)).update g.e (Obj.mapFields (·.setIfInBounds 1 (.ref h2.objs.size))), ⟨bs ++ gl⟩, d, tk, os⟩ := fun h2 cc hs => by
    obtain ⟨sl, D2⟩ := D1.slots hs fm fi_
    have en : h2.objs.size = n := D2.size
    let eB : (Nat → List (Code × Pos)) → Nat → List (Code × Pos) := fun B j => if j = 0 then encL [some (cc 0), some (cc 1), some (cc 2), some (cc 3), some (cc 4), some (cc 5)] else if j % 2 = 1 then B (j / 2) else encL (sl (j / 2 - 1)).toList
    have eT : ∀ B, lookT r.2.1 g.fi m n r.1 f (eB B) = LT.ins (readyF sl g.fi r.2.1) m n (traceO r.1 f cc) := fun B => by
      have y1 : (fun i => (dv (eB B (2 * i + 2))).toArray) = sl := funext fun i => by
        show (dv (if 2 * i + 2 = 0 then _ else if (2 * i + 2) % 2 = 1 then _ else encL (sl ((2 * i + 2) / 2 - 1)).toList)).toArray = _
        rw [if_neg (by omega), if_neg (by omega), dv_enc]
        have : (2 * i + 2) / 2 - 1 = i := by omega
        rw [this]
      have y2 : traceO r.1 f (cellI (eB B 0)) = traceO r.1 f cc := by
        have : dv (eB B 0) = [some (cc 0), some (cc 1), some (cc 2), some (cc 3), some (cc 4), some (cc 5)] := dv_enc _
        unfold traceO cellI
        rw [this]
        rfl
      unfold lookT
      rw [y1, y2]
    have eN : ∀ B : Nat → List (Code × Pos), (fun j => eB B (2 * j + 1)) = B := fun B => funext fun j => by
      show (if 2 * j + 1 = 0 then _ else if (2 * j + 1) % 2 = 1 then B ((2 * j + 1) / 2) else _) = _
      rw [if_neg (by omega), if_pos (by omega)]
      have : (2 * j + 1) / 2 = j := by omega
      rw [this]
    have H' : ∀ P B, Sat V hI A0 bs d os (match (LT.ins (readyF sl g.fi r.2.1) m n (traceO r.1 f cc)).get m with
                  | none => .stop 67 m
                  | some _ => match (LT.ins (readyF sl g.fi r.2.1) m n (traceO r.1 f cc)).get g.ie with
                    | none => .stop 69 0
                    | some q3 => match (Obj.mapFields (·.setIfInBounds 1 (.ref n)) q3.2).isFreed with
                      | true => .stop 70 0
                      | false => ih c md κ ((g.cx c env').app (.pure ())) oc P B
                        ((LT.ins (readyF sl g.fi r.2.1) m n (traceO r.1 f cc)).set g.ie (Obj.mapFields (·.setIfInBounds 1 (.ref n))))
                        (m + 1) (n + 1) tk gl ((q3.1, g.e) :: (g.e, qe.1) :: (r.2.2 ++ (ro ++ ob))) ((t, (g.cx c env').app (PySem.W.Fast.tw17872113653443481271 (.ref g.e) env')) :: tb)) := fun P B => by
      have x := H P (eB B)
      rw [eT B, eN B] at x
      exact x
    have nay' := H' (fun _ => default) (fun _ => [])
    split at nay'
    · exact nay'.elim
    rename_i qm em
    simp only [em] at H'
    split at nay'
    · exact nay'.elim
    rename_i q3 e3
    simp only [e3] at H'
    split at nay'
    · exact nay'.elim
    rename_i ef3
    simp only [ef3] at H'
    have q := (IA _ _ _ _ _ _ _ _ _ _ _ _ _ _ nay').1 _ (.head _)
    dsimp only at q
    have D3 := D2.alloc (m := m) (o := traceO r.1 f cc) rfl (by rw [em]; rfl)
    have D4 := D3.update (f := Obj.mapFields (·.setIfInBounds 1 (.ref n))) (a := q3.1) (o := q3.2) e3 ef3
    rw [q] at D4
    rw [en]
    exact IH _ _ _ _ _ _ _ _ _ _ _ _ _ H' D4
  rw [o5]
  cases md with
  | none =>
    have hfr := frames_none V l (Y.fr l el) c κ
    rw [efr] at hfr
    show wpOwn _ _ _ _ _ _ _
    have z' : ∀ h2 cc, Heap.SlotsOnly ((env' :: outer).filterMap (·.frame)) h1 h2 → wpOwn _ _ _ _ _ _ _ := fin
    exact fun Γ p hc' hΓ => look_ctx (g.cx c env') hfr ef' ef' (by rw [o2]; exact he) hh hc fun_ (fun h2 cc hs p' => z' h2 cc hs Γ p' hc' hΓ) (hc' ▸ hΓ.in) p
  | some fs =>
    have hfr := frames_some V l (Y.fr l el) c fs κ
    rw [efr] at hfr
    rw [Cx.flat_is _ (by simpa using eb), Sem.bind_eq_wrap]
    refine s_cmd _ _ _ _ _ _ (m := PySem.W.Fast.tw17872113653443481271 (.ref g.e) env') (k := (g.cx c env').flat) (look_wp hfr ef' ef' (by rw [o2]; exact he) hh hc fun_ fun h2 cc hs => ?_)
    have z := fin h2 cc hs
    rw [Cx.flat_is _ (by simpa using eb)] at z
    exact z
theorem noteI_sound {c : Code} {md : Option (List Frame)} {κ : Kont} {t : Sem Fin} {j : Nat} {oc : List Nat} {T : LT} {m n tk : Nat} {gl : List GenState} {ob tb} {h : Heap}
    (H : ∀ P B, Sat V hI A0 bs d os (noteI X ih c md κ t j oc P B T m n tk gl ob tb)) (D : Rp hI A0 h T n) : Means V c md κ t ⟨h, ⟨bs ++ gl⟩, d, tk, os⟩ := by
  have nay := H (fun _ => default) (fun _ => [])
  unfold noteI at H nay
  split at nay
  · exact nay.elim
  rename_i gf eg
  simp only [eg] at H
  split at nay
  · rename_i l r er
    simp only [er] at H
    have q := (IA _ _ _ _ _ _ _ _ _ _ _ _ _ _ nay).2 _ (.head _)
    dsimp only at q
    have e := Y.rw gf (List.mem_of_getElem? eg) T (l, r) (by rw [er]; rfl)
    dsimp only at e
    rw [q, e]
    exact IH _ _ _ _ _ _ _ _ _ _ _ _ h H D
  · rename_i i l r er
    simp only [er] at H
    have eq := Y.rw gf (List.mem_of_getElem? eg) T (l, r) (by rw [er]; rfl)
    dsimp only at eq
    split at nay
    · rename_i a x k
      split at nay
      · rename_i p ep
        simp only [ep] at H
        have o := IA _ _ _ _ _ _ _ _ _ _ _ _ _ _ nay
        have e1 := o.1 _ (.head _)
        have e2 := o.2 _ (.head _)
        dsimp only at e1 e2
        have ho : h.get? a = some p.2 := by rw [e1]; exact (D.own i p.1 p.2 ep).1
        have z := IH _ _ _ _ _ _ _ _ _ _ _ _ h H D
        rw [← eq, ← e2] at z
        cases md with
        | none => exact y_load _ _ _ _ _ _ _ _ _ _ _ _ _ _ _ _ ho z
        | some fs => exact s_load _ _ _ _ _ _ _ _ _ _ _ _ _ _ _ ho z
      · exact nay.elim
    · exact nay.elim
  · rename_i g er
    simp only [er] at H
    exact lookI_sound V hI A0 X bs d os Y ih IA IH H D
  rename_i g er
  simp only [er] at H
  split at nay
  · exact nay.elim
  rename_i env' outer efr
  simp only [efr] at H
  split at nay
  · exact nay.elim
  rename_i qe ee
  simp only [ee] at H
  split at nay
  · exact nay.elim
  rename_i qt et
  simp only [et] at H
  split at nay
  · rename_i b e1
    simp only [e1] at H
    split at nay
    · rename_i f e3
      simp only [e3] at H
      split at nay
      · rename_i f2 ef
        simp only [ef] at H
        split at nay
        · exact nay.elim
        rename_i eb
        simp only [eb] at H
        have he := (D.own _ qe.1 qe.2 ee).1
        have ht := (D.own _ qt.1 qt.2 et).1
        have q := IA _ _ _ _ _ _ _ _ _ _ _ _ _ _ nay
        have o1 := q.1 _ (.head _)
        have o2 := q.1 _ (.tail _ (.head _))
        have o3 := q.1 _ (.tail _ (.tail _ (.head _)))
        have o4 := q.2 _ (.head _)
        dsimp only at o1 o2 o3 o4
        have z := IH _ _ _ _ _ _ _ _ _ _ _ _ h H D
        subst o3
        rw [← o1] at he
        rw [← o2] at ht
        rw [o4]
        cases md with
        | none =>
          show wpOwn _ _ _ _ _ _ _
          have z' : wpOwn _ _ _ _ _ _ _ := z
          exact fun Γ p hc hΓ => Cx.leAt (g.cx c env') _ _ (fun Q E x p => Sem.wp_mono _ Γ _ (fun _ p' _ y => y p') (fun _ p' _ y => y p') p _ (note_wp (A := (aroundOf V true κ).under c) (Q := fun u s' => ∀ p', Q u p' s') (E := fun e s' => ∀ p', E e p' s') ef he e1 ht e3 (fun p' => by have y := x p'; rw [Sem.wp_pure] at y; exact y) Γ p (hc ▸ hΓ.in))) _ _ (fun p' => z' Γ p' hc hΓ) p
        | some fs =>
          rw [Cx.flat_is _ (by simpa using eb), Sem.bind_eq_wrap]
          rw [Cx.flat_is _ (by simpa using eb)] at z
          exact s_cmd _ _ _ _ _ _ (m := PySem.W.Fast.tw17872113653443481271 (.ref g.e) env') (k := (g.cx c env').flat) (note_wp ef he e1 ht e3 z)
      · exact nay.elim
    · exact nay.elim
  · exact nay.elim
omit Y in
theorem retI_sound {gb : Nat} (hg : gb = bs.length) {r : Result} {c : Code} {md : Option (List Frame)} {κ : Kont} {t : Sem Fin} (ht : t = leafOf r) {oc : List Nat} {T : LT} {m n tk : Nat} {gl : List GenState} {ob tb} {h : Heap}
    (H : ∀ P B, Sat V hI A0 bs d os (retI gb ih r md κ oc P B T m n tk gl ob tb)) (D : Rp hI A0 h T n) : Means V c md κ t ⟨h, ⟨bs ++ gl⟩, d, tk, os⟩ := by
  have nay := H (fun _ => default) (fun _ => [])
  cases md with
  | none =>
    have key : endOf V κ r ⟨h, ⟨bs ++ gl⟩, d, tk, os⟩ := by
      cases κ with
      | base => exact nay.2 h D
      | ret c₁ hd k κ => exact IH _ _ _ _ _ _ _ _ _ _ _ _ h H D
      | gen => exact nay.elim
      | genS => exact nay.elim
    cases r with
    | ok f => subst ht; exact y_pure _ _ _ _ _ _ _ _ _ (y_done _ _ _ _ _ _ key)
    | error e => subst ht; exact y_raise _ _ _ _ _ _ _ _ _ (y_err _ _ _ key)
  | some fs =>
    cases fs with
    | nil => exact s_end _ _ _ _ _ _ r t ht (wakeI_sound V hI A0 bs d os ih IA IH hg H D)
    | cons f fs =>
      cases f with
      | ret k hd g l c₁ p₁ kp => exact s_pop _ _ _ _ _ _ _ r t ht k hd g l c₁ p₁ kp (IH _ _ _ _ _ _ _ _ _ _ _ _ h H D)
      | gen => exact nay.elim
end
end Mine
end
section
set_option maxRecDepth 100000
namespace Mine
open PySem PySem.Spec PySem.Calls PyProof.Rows PySem.W PySem.W.X
section
variable (V : XV) (hI : Heap) (A0 : List Nat) (X : Cfg) (bs : List GenState) (d : Drawn) (os : OsState) (Y : Sure V hI A0 X) (hgb : X.gb = bs.length) (ih : SimTyI)
  (IA : ∀ c md κ t, Asks V hI A0 bs d os (ih c md κ t))
  (IH : ∀ c md κ t oc T m n tk gl ob tb h, (∀ P B, Sat V hI A0 bs d os (ih c md κ t oc P B T m n tk gl ob tb)) → Rp hI A0 h T n → Means V c md κ t ⟨h, ⟨bs ++ gl⟩, d, tk, os⟩)
noncomputable def P₀ : Nat → Pos := fun _ => default
noncomputable def B₀ : Nat → List (Code × Pos) := fun _ => []
noncomputable def putP (p : Pos) (P : Nat → Pos) : Nat → Pos := fun n => match n with | 0 => p | n + 1 => P n
noncomputable def putB (b : List (Code × Pos)) (B : Nat → List (Code × Pos)) : Nat → List (Code × Pos) := fun n => match n with | 0 => b | n + 1 => B n
include Y hgb IA IH
theorem stepI_sound : ∀ c md κ t oc T m n tk gl ob tb h, (∀ P B, Sat V hI A0 bs d os (simStepI X ih c md κ t oc P B T m n tk gl ob tb)) → Rp hI A0 h T n → Means V c md κ t ⟨h, ⟨bs ++ gl⟩, d, tk, os⟩ := by
  intro c md κ t oc T m n tk gl ob tb h H D
  cases t with
  | pure fin =>
    cases fin with
    | done f => exact retI_sound V hI A0 bs d os ih IA IH hgb rfl H D
    | again c' =>
      cases q : c'.quiet with
      | false => simp only [simStepI, q] at H; exact (H P₀ B₀).elim
      | true =>
        simp only [simStepI, q] at H
        cases md with
        | some fs =>
          have z := IH _ _ _ _ _ _ _ _ _ _ _ _ h H D
          rw [Y.den] at z
          exact s_again _ _ _ _ _ _ _ _ q z
        | none =>
          have on : (∀ P B, Sat V hI A0 bs d os (ih c' none κ (X.den c') oc P B T m n tk gl ob tb)) → Means V c none κ (.pure (.again c')) ⟨h, ⟨bs ++ gl⟩, d, tk, os⟩ := fun H => by
            have z := IH _ _ _ _ _ _ _ _ _ _ _ _ h H D
            rw [Y.den] at z
            exact y_pure _ _ _ _ _ _ _ _ _ (y_again _ _ _ _ _ _ q (y_code _ _ _ _ _ _ z))
          cases κ with
          | base =>
            cases q2 : X.sp c' with
            | true =>
              simp only [q2] at H
              exact y_pure _ _ _ _ _ _ _ _ _ (y_again _ _ _ _ _ _ q ((H P₀ B₀).2 h D))
            | false => simp only [q2] at H; exact on H
          | ret c1 hd k1 κ1 =>
            cases q2 : X.sp c' with
            | true =>
              simp only [q2] at H
              refine y_pure _ _ _ _ _ _ _ _ _ (y_again _ _ _ _ _ _ q (codeAny_mono ((H P₀ B₀).2 h D) ?_))
              rintro r s' ⟨so, h', rfl, rfl, D', H'⟩
              exact IH _ _ _ _ _ _ _ _ _ _ _ _ h' H' D'
            | false => simp only [q2] at H; exact on H
          | gen => exact (H P₀ B₀).elim
          | genS => exact (H P₀ B₀).elim
  | raise e => exact retI_sound V hI A0 bs d os ih IA IH hgb rfl H D
  | rule tag k =>
    have z := IH _ _ _ _ _ _ _ _ _ _ _ _ h H D
    cases md with
    | none => exact y_skim _ _ _ _ _ _ _ _ _ 1 z
    | some fs => exact s_skim _ _ _ _ _ _ _ _ 1 z
  | «at» q k =>
    have z := IH _ _ _ _ _ _ _ _ _ _ _ _ h H D
    cases md with
    | none => exact y_skim _ _ _ _ _ _ _ _ _ 1 z
    | some fs => exact s_skim _ _ _ _ _ _ _ _ 1 z
  | point l k =>
    have z := IH _ _ _ _ _ _ _ _ _ _ _ _ h H D
    cases md with
    | none => exact y_skim _ _ _ _ _ _ _ _ _ 1 z
    | some fs => exact s_skim _ _ _ _ _ _ _ _ 1 z
  | ask k =>
    have z := IH _ _ _ _ _ _ _ _ _ _ _ _ h H D
    rw [Y.S] at z
    cases md with
    | none => exact y_skim _ _ _ _ _ _ _ _ _ 1 z
    | some fs => exact s_skim _ _ _ _ _ _ _ _ 1 z
  | load a q k =>
    have fin : ∀ o, h.get? a = some o → Means V c md κ (k o) ⟨h, ⟨bs ++ gl⟩, d, tk, os⟩ → Means V c md κ (.load a q k) ⟨h, ⟨bs ++ gl⟩, d, tk, os⟩ := fun o ho z => by
      cases md with
      | none => exact y_load _ _ _ _ _ _ _ _ _ _ _ _ _ _ _ _ ho z
      | some fs => exact s_load _ _ _ _ _ _ _ _ _ _ _ _ _ _ _ ho z
    dsimp only [simStepI] at H
    cases oc with
    | nil => exact (H P₀ B₀).elim
    | cons x oc =>
      cases x with
      | zero =>
        cases q1 : isOld a with
        | false => simp only [q1] at H; exact (H P₀ B₀).elim
        | true =>
          cases q2 : X.kt.get a with
          | none => simp only [q1, q2] at H; exact (H P₀ B₀).elim
          | some o =>
            simp only [q1, q2] at H
            exact fin o (old_at V hI A0 X Y D q1 q2) (IH _ _ _ _ _ _ _ _ _ _ _ _ h H D)
      | succ i =>
        dsimp only at H
        cases q1 : T.get i with
        | none => simp only [q1] at H; exact noteI_sound V hI A0 X bs d os Y ih IA IH H D
        | some p =>
          simp only [q1] at H
          have e := (IA _ _ _ _ _ _ _ _ _ _ _ _ _ _ (H P₀ B₀)).1 (a, p.1) (.head _)
          dsimp only at e
          refine fin p.2 ?_ (IH _ _ _ _ _ _ _ _ _ _ _ _ h H D)
          rw [e]
          exact (D.own i p.1 p.2 q1).1
  | loadIfAlive a k =>
    have fin : ∀ o, h.get? a = some o → Means V c md κ (k (some o)) ⟨h, ⟨bs ++ gl⟩, d, tk, os⟩ → Means V c md κ (.loadIfAlive a k) ⟨h, ⟨bs ++ gl⟩, d, tk, os⟩ := fun o ho z => by
      cases md with
      | none => exact y_alive _ _ _ _ _ _ _ _ _ _ _ _ _ _ _ ho z
      | some fs => exact s_alive _ _ _ _ _ _ _ _ _ _ _ _ _ _ ho z
    dsimp only [simStepI] at H
    cases oc with
    | nil => exact (H P₀ B₀).elim
    | cons x oc =>
      cases x with
      | zero =>
        cases q1 : isOld a with
        | false => simp only [q1] at H; exact (H P₀ B₀).elim
        | true =>
          cases q2 : X.kt.get a with
          | none => simp only [q1, q2] at H; exact (H P₀ B₀).elim
          | some o =>
            simp only [q1, q2] at H
            exact fin o (old_at V hI A0 X Y D q1 q2) (IH _ _ _ _ _ _ _ _ _ _ _ _ h H D)
      | succ i =>
        dsimp only at H
        cases q1 : T.get i with
        | none => simp only [q1] at H; exact (H P₀ B₀).elim
        | some p =>
          simp only [q1] at H
          have e := (IA _ _ _ _ _ _ _ _ _ _ _ _ _ _ (H P₀ B₀)).1 (a, p.1) (.head _)
          dsimp only at e
          refine fin p.2 ?_ (IH _ _ _ _ _ _ _ _ _ _ _ _ h H D)
          rw [e]
          exact (D.own i p.1 p.2 q1).1
  | alloc o k =>
    dsimp only [simStepI] at H
    cases hf : o.isFreed with
    | true => simp only [hf] at H; exact (H P₀ B₀).elim
    | false =>
      cases hg : (T.ins m n o).get m with
      | none => simp only [hf, hg] at H; exact (H P₀ B₀).elim
      | some p =>
        simp only [hf, hg] at H
        have D' := D.alloc (m := m) hf (by rw [hg]; rfl)
        have z := IH _ _ _ _ _ _ _ _ _ _ _ _ (h.push o) H D'
        have ea : h.objs.size = n := D.size
        cases md with
        | none => exact wpOwn_bind (m := alloc o) (f := k) (wpOwn_of_wpAny (wpAny_alloc (by rw [ea]; exact z)))
        | some fs => exact s_cmd _ _ _ _ _ _ (m := PySem.alloc o) (k := k) (wpAny_alloc (by rw [ea]; exact z))
  | update a q f k =>
    dsimp only [simStepI] at H
    cases oc with
    | nil => exact (H P₀ B₀).elim
    | cons x oc =>
      cases x with
      | zero => exact (H P₀ B₀).elim
      | succ i =>
        dsimp only at H
        cases q1 : T.get i with
        | none => simp only [q1] at H; exact (H P₀ B₀).elim
        | some p =>
          cases hf : (f p.2).isFreed with
          | true => simp only [q1, hf] at H; exact (H P₀ B₀).elim
          | false =>
            simp only [q1, hf] at H
            have e := (IA _ _ _ _ _ _ _ _ _ _ _ _ _ _ (H P₀ B₀)).1 (a, p.1) (.head _)
            dsimp only at e
            have D' := D.update (f := f) (o := p.2) (a := p.1) q1 hf
            have ho := (D.own i p.1 p.2 q1).1
            rw [← e] at ho D'
            have z := IH _ _ _ _ _ _ _ _ _ _ _ _ _ H D'
            cases md with
            | none => exact wpOwn_bind (m := updatePart a q f) (f := k) (wpOwn_of_wpAny (wpAny_updatePart ho z))
            | some fs => exact s_cmd _ _ _ _ _ _ (m := updatePart a q f) (k := k) (wpAny_updatePart ho z)
  | fresh k =>
    have z := IH _ _ _ _ _ _ _ _ _ _ _ _ h H D
    cases md with
    | none => exact y_fresh _ _ _ _ _ _ _ _ _ _ _ _ _ z
    | some fs => exact s_fresh _ _ _ _ _ _ _ _ _ _ _ _ z
  | handled own k =>
    cases own with
    | true => exact (H P₀ B₀).elim
    | false =>
      cases md with
      | some fs =>
        cases κ with
        | gen g c1 k1 κ1 =>
          have z := IH _ _ _ _ _ _ _ _ _ _ _ _ h H D
          refine s_handled _ _ _ _ _ _ _ _ ?_
          have e : ((aroundOf V false (.gen g c1 k1 κ1)).over c fs).handled = (marksOver fs (hOf κ1, hOf κ1)).1 := by
            show (marksOver fs ((aroundOf V true κ1).handled, (aroundOf V true κ1).handled)).1 = _
            rw [handled_is V Y.hh κ1]
          rw [e]
          exact z
        | _ => exact (H P₀ B₀).elim
      | none =>
        have z := IH _ _ _ _ _ _ _ _ _ _ _ _ h H D
        rw [← handled_is V Y.hh κ] at z
        exact y_handled _ _ _ _ _ _ _ _ _ z
  | stack k =>
    cases md with
    | some fs =>
      dsimp only [simStepI] at H
      cases oc with
      | nil => exact (H P₀ B₀).elim
      | cons x oc =>
        match x, H with
        | 0, H =>
          exact s_stack _ _ _ _ _ _ _ _ fun p below _ => IH c (some fs) κ (k ((c, p) :: below)) oc T m n tk gl ob tb h (fun P B => H (putP p P) (putB below B)) D
        | _ + 1, H => exact (H P₀ B₀).elim
    | none =>
      dsimp only [simStepI] at H
      cases oc with
      | nil => exact (H P₀ B₀).elim
      | cons x oc =>
        have deep : Nat.blt (kdep κ + cw c) 100 = true → ((aroundOf V true κ).under c).depth < recursionLimit := fun q => by
          have h1 := dep_le V κ
          have h2 := weight_le c
          have h3 := blt_true q
          have h4 := Y.dep
          show (aroundOf V true κ).depth + c.weight < recursionLimit
          omega
        match x, H with
        | 0, H =>
          exact y_stack _ _ _ _ _ _ _ _ _ fun p below _ => IH c none κ (k ((c, p) :: below)) oc T m n tk gl ob tb h (fun P B => H (putP p P) (putB below B)) D
        | 1, H =>
          dsimp only at H
          cases q1 : Nat.blt (kdep κ + cw c) 100 with
          | false => simp only [q1] at H; exact (H P₀ B₀).elim
          | true =>
            simp only [q1] at H
            have nay := H P₀ B₀
            split at nay
            · rename_i a qq k2 ek
              simp only [ek] at H
              have nay := H P₀ B₀
              split at nay
              · rename_i o eo
                simp only [eo] at H
                have e := (IA _ _ _ _ _ _ _ _ _ _ _ _ _ _ (H P₀ B₀)).2 _ (.head _)
                dsimp only at e
                rw [e, enterT_is]
                have z := IH _ _ _ _ _ _ _ _ _ _ _ _ h H D
                exact wpOwn_bind (wpOwn_of_wpAny (wpAny_enterFrame (lim_at V hI A0 X Y D) (deep q1) z))
              · exact nay.elim
            · exact nay.elim
        | 2, H =>
          dsimp only at H
          cases q1 : Nat.blt (kdep κ + cw c) 100 with
          | false => simp only [q1] at H; exact (H P₀ B₀).elim
          | true =>
            simp only [q1] at H
            have nay := H P₀ B₀
            split at nay
            · rename_i a qq k2 ek
              simp only [ek] at H
              have nay := H P₀ B₀
              split at nay
              · rename_i o eo
                simp only [eo] at H
                have e := (IA _ _ _ _ _ _ _ _ _ _ _ _ _ _ (H P₀ B₀)).2 _ (.head _)
                dsimp only at e
                rw [e]
                have z := IH _ _ _ _ _ _ _ _ _ _ _ _ h H D
                exact wpOwn_bind (m := roomToWake) (wpOwn_of_wpAny (wpAny_roomToWake (lim_at V hI A0 X Y D) (deep q1) z))
              · exact nay.elim
            · exact nay.elim
        | 3, H =>
          dsimp only at H
          cases oc with
          | nil => exact (H P₀ B₀).elim
          | cons i oc =>
            dsimp only at H
            cases q0 : X.cx[i]? with
            | none => simp only [q0] at H; exact (H P₀ B₀).elim
            | some q =>
              simp only [q0] at H
              cases q1 : Nat.blt (kdep κ + cw c) 100 with
              | false => simp only [q1] at H; exact (H P₀ B₀).elim
              | true =>
                simp only [q1] at H
                have nay := H P₀ B₀
                split at nay
                · rename_i kr ek
                  simp only [ek] at H
                  have e := (IA _ _ _ _ _ _ _ _ _ _ _ _ _ _ nay).2 _ (.head _)
                  dsimp only at e
                  have z := IH _ _ _ _ _ _ _ _ _ _ _ _ h H D
                  rw [e]
                  refine room_pass ek ?_ (q T).2.2.2 z
                  have h1 := units_le V κ
                  have h2 := units_le_cw c
                  have h3 := blt_true q1
                  have h4 := Y.uni
                  omega
                · exact nay.elim
        | 4, H =>
          dsimp only at H
          cases oc with
          | nil => exact (H P₀ B₀).elim
          | cons j oc => exact noteI_sound V hI A0 X bs d os Y ih IA IH H D
        | _ + 5, H => exact (H P₀ B₀).elim
  | call c' hd g l k =>
    cases md with
    | none =>
      cases q : okMark hd with
      | false => simp only [simStepI, q] at H; exact (H P₀ B₀).elim
      | true =>
        have hnb : hd ≠ some byPass := by
          intro e
          subst e
          simp [okMark] at q
        simp only [simStepI, q] at H
        cases q2 : X.sp c' with
        | true =>
          simp only [q2] at H
          refine y_call _ _ _ _ _ _ _ _ _ _ _ _ _ hnb (codeAny_mono ((H P₀ B₀).2 h D) ?_)
          rintro r s' ⟨so, h', rfl, rfl, D', H'⟩
          exact IH _ _ _ _ _ _ _ _ _ _ _ _ h' H' D'
        | false =>
          simp only [q2] at H
          have z := IH _ _ _ _ _ _ _ _ _ _ _ _ h H D
          rw [Y.den] at z
          exact y_call _ _ _ _ _ _ _ _ _ _ _ _ _ hnb (y_code _ _ _ _ _ _ z)
    | some fs =>
      refine s_call _ _ _ _ _ _ _ _ _ _ _ _ fun p => ?_
      have z := IH c' (some (.ret k hd g l c p [] :: fs)) κ (X.den c') oc T m n tk gl ob tb h (fun P B => H (putP p P) B) D
      rw [Y.den] at z
      exact z
  | newGen c' k =>
    have z := IH _ _ _ _ _ _ _ _ _ _ _ _ h H D
    cases md with
    | none => exact y_newGen _ _ _ _ _ _ _ _ _ _ _ _ _ _ (by rw [push_gens, List.append_assoc]; rw [hgb, ← List.length_append] at z; exact z)
    | some fs => exact s_newGen _ _ _ _ _ _ _ _ _ _ _ _ _ (by rw [push_gens, List.append_assoc]; rw [hgb, ← List.length_append] at z; exact z)
  | genState g k =>
    dsimp only [simStepI] at H
    cases oc with
    | nil => exact (H P₀ B₀).elim
    | cons i oc =>
      dsimp only at H
      cases e : gl[i]? with
      | none => simp only [e] at H; exact (H P₀ B₀).elim
      | some gs =>
        simp only [e] at H
        have q := (IA _ _ _ _ _ _ _ _ _ _ _ _ _ _ (H P₀ B₀)).1 _ (.head _)
        dsimp only at q
        have hg : (⟨bs ++ gl⟩ : Array GenState)[g]? = some gs := by rw [get_gens, q, hgb, get_pre]; exact e
        have z := IH _ _ _ _ _ _ _ _ _ _ _ _ h H D
        cases md with
        | none => exact y_genState _ _ _ _ _ _ _ _ _ _ gs hg z
        | some fs => exact s_genState _ _ _ _ _ _ _ _ _ gs hg z
  | resume g r l k =>
    dsimp only [simStepI] at H
    cases oc with
    | nil => exact (H P₀ B₀).elim
    | cons i oc =>
      dsimp only at H
      cases e : gl[i]? with
      | none => simp only [e] at H; exact (H P₀ B₀).elim
      | some gs =>
        simp only [e] at H
        have hq : g = X.gb + i → (⟨bs ++ gl⟩ : Array GenState)[g]? = some gs := fun q => by rw [get_gens, q, hgb, get_pre]; exact e
        have hs : ∀ x, g = X.gb + i → (⟨h, ⟨bs ++ gl⟩, d, tk, os⟩ : Shared).setGen g x = ⟨h, ⟨bs ++ gl.set i x⟩, d, tk, os⟩ := fun x q => by rw [set_gens, q, hgb, set_pre]
        cases gs with
        | fresh c₀ =>
          cases r with
          | throw => exact (H P₀ B₀).elim
          | send v =>
            cases v with
            | none =>
              have q := (IA _ _ _ _ _ _ _ _ _ _ _ _ _ _ (H P₀ B₀)).1 _ (.head _)
              dsimp only at q
              have z := IH _ _ _ _ _ _ _ _ _ _ _ _ h H D
              rw [Y.den] at z
              cases md with
              | none =>
                refine y_resume_f _ _ _ _ _ _ _ _ _ _ _ _ (hq q) ?_
                rw [hs _ q]
                exact z
              | some fs =>
                refine s_resume_f _ _ _ _ _ _ _ _ _ _ _ (hq q) ?_
                rw [hs _ q]
                exact z
            | _ => exact (H P₀ B₀).elim
        | suspended k₀ l₀ c₀ p₀ fs₀ cl =>
          have q := (IA _ _ _ _ _ _ _ _ _ _ _ _ _ _ (H P₀ B₀)).1 _ (.head _)
          dsimp only at q
          have z := IH _ _ _ _ _ _ _ _ _ _ _ _ h H D
          cases md with
          | none =>
            refine y_resume_s _ _ _ _ _ _ _ _ _ _ _ _ _ _ _ _ _ _ (hq q) ?_
            rw [hs _ q]
            exact z
          | some fs =>
            refine s_resume_s _ _ _ _ _ _ _ _ _ _ _ _ _ _ _ _ _ (hq q) ?_
            rw [hs _ q]
            exact z
        | running => exact (H P₀ B₀).elim
        | finished => exact (H P₀ B₀).elim
  | yield v gd l k =>
    cases md with
    | none => exact (H P₀ B₀).elim
    | some fs =>
      cases gd with
      | true => exact (H P₀ B₀).elim
      | false =>
        cases hfs : splitAtGen fs with
        | some _ => simp only [simStepI, hfs] at H; exact (H P₀ B₀).elim
        | none =>
          cases hfg : fs.any Frame.guarded with
          | true => simp only [simStepI, hfs, hfg] at H; exact (H P₀ B₀).elim
          | false =>
            simp only [simStepI, hfs, hfg] at H
            exact s_yield _ _ _ _ _ _ _ _ _ _ hfs hfg fun p => wakeI_sound V hI A0 bs d os ih IA IH hgb (fun P B => H (putP p P) B) D
  | unsupported => exact (H P₀ B₀).elim
  | finish => exact (H P₀ B₀).elim
  | register => exact (H P₀ B₀).elim
  | choose => exact (H P₀ B₀).elim
  | os => exact (H P₀ B₀).elim
  | fork => exact (H P₀ B₀).elim
  | thread => exact (H P₀ B₀).elim
  | await => exact (H P₀ B₀).elim
omit Y hgb IA IH
theorem simI_sound (Y : Sure V hI A0 X) (hgb : X.gb = bs.length) : ∀ f c md κ t oc T m n tk gl ob tb h, (∀ P B, Sat V hI A0 bs d os (simI X f c md κ t oc P B T m n tk gl ob tb)) → Rp hI A0 h T n → Means V c md κ t ⟨h, ⟨bs ++ gl⟩, d, tk, os⟩
  | 0 => fun _ _ _ _ _ _ _ _ _ _ _ _ _ H _ => (H P₀ B₀).elim
  | f + 1 => stepI_sound V hI A0 X bs d os Y hgb (simI X f) (asks_sim V hI A0 bs d os X f) (simI_sound Y hgb f)
end
end Mine
end
section
set_option maxRecDepth 100000
namespace Mine
open PySem PySem.Spec PySem.Calls PyProof.Rows PySem.W PySem.W.X

/-- the drawn marks only grow -/
noncomputable def Later (t0 : Nat) : Out → Prop
  | .stop .. => True
  | .word .. => True
  | .ret _ st => t0 ≤ st.tk
  | .next _ st => t0 ≤ st.tk
  | .spec _ _ st k => t0 ≤ st.tk ∧ ∀ so P B, Later so.tk (k so P B)
theorem later_mono {t0 t1 : Nat} (h : t0 ≤ t1) : ∀ {o : Out}, Later t1 o → Later t0 o
  | .stop .., _ => trivial
  | .word .., _ => trivial
  | .ret .., x => Nat.le_trans h x
  | .next .., x => Nat.le_trans h x
  | .spec .., x => ⟨Nat.le_trans h x.1, x.2⟩
noncomputable def LaterR (r : RestI) : Prop := ∀ t0 oc P B T m n tk gl ob tb, t0 ≤ tk → Later t0 (r oc P B T m n tk gl ob tb)
theorem later_nay (n : Nat) : LaterR (nayI n) := fun _ _ _ _ _ _ _ _ _ _ _ _ => trivial
section
variable (X : Cfg) (ih : SimTyI) (IH : ∀ c md κ t, LaterR (ih c md κ t))
include IH
theorem later_wake (gb : Nat) (e : End) (κ : Kont) : LaterR (wakeI gb ih e κ) := by
  cases κ with
  | base => exact later_nay 20
  | ret => exact later_nay 20
  | gen g c k κ =>
    intro t0 oc P B T m n tk gl ob tb h
    cases oc with
    | nil => exact trivial
    | cons i oc => exact IH _ _ _ _ t0 oc P B T m n tk _ _ tb h
  | genS g c fs k κ =>
    intro t0 oc P B T m n tk gl ob tb h
    cases oc with
    | nil => exact trivial
    | cons i oc => exact IH _ _ _ _ t0 oc P B T m n tk _ _ tb h
theorem later_ret (gb : Nat) (r : Result) (md : Option (List Frame)) (κ : Kont) : LaterR (retI gb ih r md κ) := by
  cases md with
  | none =>
    cases κ with
    | base => exact fun t0 oc P B T m n tk gl ob tb h => h
    | ret c hd k κ => exact IH _ _ _ _
    | gen => exact later_nay 21
    | genS => exact later_nay 21
  | some fs =>
    cases fs with
    | nil => exact later_wake ih IH _ _ _
    | cons f fs =>
      cases f with
      | ret k hd g l c₁ p₁ kp => exact IH _ _ _ _
      | gen => exact later_nay 22
theorem later_look (c : Code) (md : Option (List Frame)) (κ : Kont) (t : Sem Fin) (g : Lk) : LaterR (lookI X ih c md κ t g) := by
  intro t0 oc P B T m n tk gl ob tb H
  unfold lookI
  repeat' split
  all_goals first
    | exact trivial
    | exact IH _ _ _ _ t0 _ P _ _ _ _ tk gl _ _ H
theorem later_note (c : Code) (md : Option (List Frame)) (κ : Kont) (t : Sem Fin) (j : Nat) : LaterR (noteI X ih c md κ t j) := by
  intro t0 oc P B T m n tk gl ob tb H
  unfold noteI
  repeat' split
  all_goals first
    | exact trivial
    | exact later_look X ih IH _ _ _ _ _ t0 _ P B T m n tk gl ob tb H
    | exact IH _ _ _ _ t0 _ P B T m n tk gl _ _ H
theorem later_step (c : Code) (md : Option (List Frame)) (κ : Kont) (t : Sem Fin) : LaterR (simStepI X ih c md κ t) := by
  intro t0 oc P B T m n tk gl ob tb H
  cases t with
  | pure fin =>
    cases fin with
    | done f => exact later_ret ih IH _ _ _ _ t0 oc P B T m n tk gl ob tb H
    | again c' =>
      cases q : c'.quiet with
      | false => simp only [simStepI, q]; exact trivial
      | true =>
        simp only [simStepI, q]
        cases md with
        | none =>
          cases κ with
          | base =>
            cases q2 : X.sp c' with
            | true => simp only [q2]; exact H
            | false => simp only [q2]; exact IH _ _ _ _ t0 oc P B T m n tk gl ob tb H
          | ret c1 hd k1 κ1 =>
            cases q2 : X.sp c' with
            | true => simp only [q2]; exact ⟨H, fun so P B => IH _ _ _ _ so.tk _ P B _ _ _ _ _ _ _ (Nat.le_refl _)⟩
            | false => simp only [q2]; exact IH _ _ _ _ t0 oc P B T m n tk gl ob tb H
          | gen => exact trivial
          | genS => exact trivial
        | some fs => exact IH _ _ _ _ t0 oc P B T m n tk gl ob tb H
  | raise e => exact later_ret ih IH _ _ _ _ t0 oc P B T m n tk gl ob tb H
  | rule tag k => exact IH _ _ _ _ t0 oc P B T m n tk gl ob tb H
  | «at» q k => exact IH _ _ _ _ t0 oc P B T m n tk gl ob tb H
  | point l k => exact IH _ _ _ _ t0 oc P B T m n tk gl ob tb H
  | ask k => exact IH _ _ _ _ t0 oc P B T m n tk gl ob tb H
  | load a q k =>
    simp only [simStepI]
    repeat' split
    all_goals first
      | exact trivial
      | exact later_note X ih IH _ _ _ _ _ t0 _ P B T m n tk gl ob tb H
      | exact IH _ _ _ _ t0 _ P B T m n tk gl _ tb H
  | loadIfAlive a k =>
    simp only [simStepI]
    repeat' split
    all_goals first
      | exact trivial
      | exact IH _ _ _ _ t0 _ P B T m n tk gl _ tb H
  | alloc o k =>
    simp only [simStepI]
    repeat' split
    all_goals first
      | exact trivial
      | exact IH _ _ _ _ t0 _ P B _ _ _ tk gl ob tb H
  | update a q f k =>
    simp only [simStepI]
    repeat' split
    all_goals first
      | exact trivial
      | exact IH _ _ _ _ t0 _ P B _ m n tk gl _ tb H
  | fresh k => exact IH _ _ _ _ t0 oc P B T m n _ gl ob tb (Nat.le_succ_of_le H)
  | handled own k =>
    cases own with
    | true => exact trivial
    | false =>
      cases md with
      | none => exact IH _ _ _ _ t0 oc P B T m n tk gl ob tb H
      | some fs =>
        cases κ with
        | gen => exact IH _ _ _ _ t0 oc P B T m n tk gl ob tb H
        | _ => exact trivial
  | stack k =>
    cases md with
    | some fs =>
      simp only [simStepI]
      repeat' split
      all_goals first
        | exact trivial
        | exact IH _ _ _ _ t0 _ _ _ T m n tk gl ob _ H
    | none =>
      simp only [simStepI]
      repeat' split
      all_goals first
        | exact trivial
        | exact later_note X ih IH _ _ _ _ _ t0 _ P B T m n tk gl ob tb H
        | exact IH _ _ _ _ t0 _ _ _ T m n tk gl ob _ H
  | call c' hd g l k =>
    cases md with
    | none =>
      cases q : okMark hd with
      | false => simp only [simStepI, q]; exact trivial
      | true =>
        simp only [simStepI, q]
        cases q2 : X.sp c' with
        | true => simp only [q2]; exact ⟨H, fun so P B => IH _ _ _ _ so.tk _ P B _ _ _ _ _ _ _ (Nat.le_refl _)⟩
        | false => simp only [q2]; exact IH _ _ _ _ t0 oc P B T m n tk gl ob tb H
    | some fs => exact IH _ _ _ _ t0 oc _ B T m n tk gl ob tb H
  | newGen c' k => exact IH _ _ _ _ t0 oc P B T m n tk _ ob tb H
  | genState g k =>
    simp only [simStepI]
    repeat' split
    all_goals first
      | exact trivial
      | exact IH _ _ _ _ t0 _ P B T m n tk gl _ tb H
  | resume g r l k =>
    simp only [simStepI]
    repeat' split
    all_goals first
      | exact trivial
      | exact IH _ _ _ _ t0 _ P B T m n tk _ _ tb H
  | yield v gd l k =>
    cases md with
    | none => exact trivial
    | some fs =>
      cases gd with
      | true => exact trivial
      | false =>
        cases hfs : splitAtGen fs with
        | some _ => simp only [simStepI, hfs]; exact trivial
        | none =>
          cases hfg : fs.any Frame.guarded with
          | true => simp only [simStepI, hfs, hfg]; exact trivial
          | false =>
            simp only [simStepI, hfs, hfg]
            exact later_wake ih IH _ _ _ t0 oc _ B T m n tk gl ob tb H
  | unsupported => exact trivial
  | finish => exact trivial
  | register => exact trivial
  | choose => exact trivial
  | os => exact trivial
  | fork => exact trivial
  | thread => exact trivial
  | await => exact trivial
omit IH
theorem later_sim : ∀ f c md κ t, LaterR (simI X f c md κ t)
  | 0, _, _, _, _ => fun _ _ _ _ _ _ _ _ _ _ _ _ => trivial
  | f + 1, c, md, κ, t => later_step X (simI X f) (later_sim f) c md κ t
end
end Mine
end
section
set_option genInjectivity false
set_option maxRecDepth 100000
namespace Mine
open PySem PySem.Spec PySem.Calls PyProof.Rows PySem.W PySem.W.X

/-- what a code finds: the written top, and the entries E -/
structure Pre (kt : KT) (h : Heap) (E : List (Nat × Obj)) : Prop where
  kt : ∀ a o, isOld a = true → kt.get a = some o → h.get? a = some o
  at_ : ∀ p ∈ E, h.get? p.1 = some p.2
  nd : (E.map (·.1)).Nodup
  lo : ∀ p ∈ E, 178 ≤ p.1 ∨ p.1 = 121
  lim : h.NoLimit
  sz : 178 ≤ h.objs.size
/-- what it leaves: the entries E', all else as it was -/
structure Fra (h h' : Heap) (E E' : List (Nat × Obj)) : Prop where
  big : h.objs.size ≤ h'.objs.size
  keep : ∀ b o, h.get? b = some o → b ∉ E.map (·.1) → h'.get? b = some o
  at_ : ∀ p ∈ E', h'.get? p.1 = some p.2
  nd : (E'.map (·.1)).Nodup
  new : ∀ p ∈ E', p.1 ∈ E.map (·.1) ∨ h.objs.size ≤ p.1

/-- a claim of one code: lo bounds the marks drawn so far, the end sees the marks drawn then -/
noncomputable def CodeSpecT (prog : Program) (w : World) (kt : KT) (D lo : Nat) (c : Code) (gl : List GenState) (E : List (Nat × Obj)) (Post : Nat → Result → List (Nat × Obj) → List GenState → Prop) : Prop :=
  ∀ (A : Around) (R : Result → Shared → Prop) (h : Heap) (d : Drawn) (tk : Nat) (os : OsState), A.handled = none → Room A D → Pre kt h E → lo ≤ tk →
    (∀ r h' E' gl' tk', tk ≤ tk' → Fra h h' E E' → Post tk' r E' gl' → R r ⟨h', ⟨gl'⟩, d, tk', os⟩) → codeAny (model prog w) A c R ⟨h, ⟨gl⟩, d, tk, os⟩
/-- a claim of one code under known frames -/
noncomputable def CodeSpecF (prog : Program) (w : World) (kt : KT) (fl : List Env) (D lo : Nat) (c : Code) (gl : List GenState) (E : List (Nat × Obj)) (Post : Nat → Result → List (Nat × Obj) → List GenState → Prop) : Prop :=
  ∀ (A : Around) (R : Result → Shared → Prop) (h : Heap) (d : Drawn) (tk : Nat) (os : OsState), A.handled = none → A.frames = some fl → Room A D → Pre kt h E → lo ≤ tk →
    (∀ r h' E' gl' tk', tk ≤ tk' → Fra h h' E E' → Post tk' r E' gl' → R r ⟨h', ⟨gl'⟩, d, tk', os⟩) → codeAny (model prog w) A c R ⟨h, ⟨gl⟩, d, tk, os⟩
noncomputable abbrev CodeSpec (prog : Program) (w : World) (kt : KT) (D : Nat) (c : Code) (gl : List GenState) (E : List (Nat × Obj)) (Post : Result → List (Nat × Obj) → List GenState → Prop) : Prop :=
  CodeSpecT prog w kt D 0 c gl E fun _ => Post

noncomputable def ltGo : List (Nat × Obj) → Nat → LT → LT
  | [], _, T => T
  | p :: l, i, T => ltGo l (i + 1) (T.ins i p.1 p.2)
noncomputable def ltOf (E : List (Nat × Obj)) : LT := ltGo E 0 .nil
/-- entries by number are those of the list -/
noncomputable def listGet (E : List (Nat × Obj)) (T : LT) : Prop := ∀ i, T.get i = E[i]?
noncomputable def ltOk : List (Nat × Obj) → Nat → LT → Bool
  | [], _, _ => true
  | p :: l, i, T => ((T.ins i p.1 p.2).get i).isSome && ltOk l (i + 1) (T.ins i p.1 p.2)
theorem ltGo_get : ∀ (l : List (Nat × Obj)) (i : Nat) (T : LT), ltOk l i T = true → ∀ j, (ltGo l i T).get j = if i ≤ j ∧ j < i + l.length then l[j - i]? else T.get j
  | [], i, T, _, j => by
    show T.get j = _
    rw [if_neg (by simp only [List.length_nil]; omega)]
  | p :: l, i, T, h, j => by
    have h2 := Bool.and_eq_true_iff.mp h
    show (ltGo l (i + 1) (T.ins i p.1 p.2)).get j = _
    rw [ltGo_get l (i + 1) _ h2.2 j, LT.get_ins _ _ T i h2.1]
    by_cases hj : j = i
    · subst hj
      rw [if_neg (by omega), if_pos rfl, if_pos (by simp only [List.length_cons]; omega)]
      simp
    · rw [if_neg hj]
      by_cases h3 : i + 1 ≤ j ∧ j < i + 1 + l.length
      · rw [if_pos h3, if_pos (by simp only [List.length_cons]; omega)]
        have : j - i = (j - (i + 1)) + 1 := by omega
        rw [this]; simp
      · rw [if_neg h3, if_neg (by simp only [List.length_cons]; omega)]
theorem ltOf_get (E : List (Nat × Obj)) (h : ltOk E 0 .nil = true) (j : Nat) : (ltOf E).get j = E[j]? := by
  unfold ltOf
  rw [ltGo_get E 0 .nil h j]
  by_cases q : j < E.length
  · rw [if_pos ⟨Nat.zero_le _, by omega⟩]; simp
  · rw [if_neg (by omega)]
    simp [LT.get]; omega
theorem nodup_idx {E : List (Nat × Obj)} (nd : (E.map (·.1)).Nodup) {i j : Nat} {a : Nat} {o o' : Obj} (e1 : E[i]? = some (a, o)) (e2 : E[j]? = some (a, o')) : i = j := by
  obtain ⟨hi, ei⟩ := List.getElem?_eq_some_iff.mp e1
  obtain ⟨hj, ej⟩ := List.getElem?_eq_some_iff.mp e2
  have hi' : i < (E.map (·.1)).length := by rw [List.length_map]; exact hi
  have hj' : j < (E.map (·.1)).length := by rw [List.length_map]; exact hj
  have : (E.map (·.1))[i]'hi' = (E.map (·.1))[j]'hj' := by rw [List.getElem_map, List.getElem_map, ei, ej]
  exact (List.getElem_inj nd).mp this
theorem Rp.start {kt : KT} {h : Heap} {E : List (Nat × Obj)} (P : Pre kt h E) (ok : ltOk E 0 .nil = true) : Rp h (E.map (·.1)) h (ltOf E) h.objs.size := by
  refine ⟨rfl, fun i a o e => ?_, fun i j a o o' e1 e2 => ?_, fun b o e _ => e, Nat.le_refl _⟩
  · rw [ltOf_get E ok] at e
    have hm := List.mem_of_getElem? e
    exact ⟨P.at_ _ hm, .inl (List.mem_map_of_mem hm)⟩
  · rw [ltOf_get E ok] at e1 e2
    exact nodup_idx P.nd e1 e2
/-- the entries asked for, by their numbers -/
noncomputable def ents (T : LT) : List Nat → Option (List (Nat × Obj))
  | [] => some []
  | i :: l => match T.get i with
    | some q => match ents T l with
      | some r => some (q :: r)
      | none => none
    | none => none
theorem ents_mem {T : LT} : ∀ {idx : List Nat} {E : List (Nat × Obj)}, ents T idx = some E → ∀ p ∈ E, ∃ i ∈ idx, T.get i = some p
  | [], _, h, p, hp => by cases h; cases hp
  | i :: l, E, h, p, hp => by
    unfold ents at h
    split at h
    · rename_i q hq
      split at h
      · rename_i r hr
        cases h
        rcases List.mem_cons.mp hp with rfl | hp
        · exact ⟨i, .head _, hq⟩
        · obtain ⟨j, hj, e⟩ := ents_mem hr p hp
          exact ⟨j, .tail _ hj, e⟩
      · cases h
    · cases h
theorem ents_nd {hI h : Heap} {A0 : List Nat} {T : LT} {n : Nat} (D : Rp hI A0 h T n) : ∀ {idx : List Nat} {E : List (Nat × Obj)}, ents T idx = some E → idx.Nodup → (E.map (·.1)).Nodup
  | [], _, h, _ => by cases h; exact List.nodup_nil
  | i :: l, E, h, nd => by
    unfold ents at h
    split at h
    · rename_i q hq
      split at h
      · rename_i r hr
        cases h
        rw [List.nodup_cons] at nd
        rw [List.map_cons, List.nodup_cons]
        refine ⟨fun hm => ?_, ents_nd D hr nd.2⟩
        obtain ⟨p, hp, e⟩ := List.mem_map.mp hm
        obtain ⟨j, hj, ej⟩ := ents_mem hr p hp
        obtain ⟨a, o⟩ := q
        obtain ⟨b, o'⟩ := p
        dsimp only at e
        subst e
        have := D.inj i j b o o' hq ej
        subst this
        exact nd.1 hj
      · cases h
    · cases h
theorem Rp.fra {h h' : Heap} {E E' : List (Nat × Obj)} {T : LT} {n : Nat} (D : Rp h (E.map (·.1)) h' T n) {idx : List Nat} (e : ents T idx = some E') (nd : idx.Nodup) : Fra h h' E E' := by
  have own := fun p hp => let ⟨i, _, ei⟩ := ents_mem e p hp; D.own i p.1 p.2 ei
  exact ⟨D.size ▸ D.grow, D.keep, fun p hp => (own p hp).1, ents_nd D e nd, fun p hp => (own p hp).2⟩

noncomputable def Out.tag : Out → Nat
  | .stop .. => 0
  | .word _ => 1
  | .ret .. => 2
  | .next .. => 3
  | .spec .. => 4
noncomputable def Out.st : Out → St
  | .ret _ st => st
  | .next _ st => st
  | .spec _ _ st _ => st
  | _ => ⟨.nil, 0, 0, 0, [], [], []⟩
noncomputable def Out.res : Out → Result
  | .ret r _ => r
  | _ => .error .none
noncomputable def Out.cd : Out → Code
  | .next c _ => c
  | .spec c _ _ _ => c
  | _ => .body [] default
noncomputable def Out.kd : Out → Nat
  | .spec _ κ _ _ => kdep κ
  | _ => 1000
noncomputable def Out.kk : Out → Kont
  | .spec _ κ _ _ => κ
  | _ => .base
noncomputable def Out.kh : Out → Option Value
  | .spec _ κ _ _ => hOf κ
  | _ => some .none
noncomputable def Out.go : Out → SO → (Nat → Pos) → (Nat → List (Code × Pos)) → Out
  | .spec _ _ _ k => k
  | _ => fun _ _ _ => .stop 99 0
noncomputable def Out.obL (o : Out) : List Nat × List (Sem Fin) := (o.st.ob.map (·.1), o.st.tb.map (·.1))
noncomputable def Out.obR (o : Out) : List Nat × List (Sem Fin) := (o.st.ob.map (·.2), o.st.tb.map (·.2))
theorem all_eq {α : Type} : ∀ {l : List (α × α)}, l.map (·.1) = l.map (·.2) → ∀ p ∈ l, p.1 = p.2
  | [], _, _, hp => nomatch hp
  | q :: l, h, p, hp => by
    rw [List.map_cons, List.map_cons, List.cons.injEq] at h
    rcases List.mem_cons.mp hp with rfl | hp
    · exact h.1
    · exact all_eq h.2 p hp
theorem obl_of {o : Out} (h : o.obL = o.obR) : Obl o.st := by
  unfold Out.obL Out.obR at h
  rw [Prod.mk.injEq] at h
  exact ⟨all_eq h.1, all_eq h.2⟩

section
variable {prog : Program} {w : World} {A : Around} {R : Result → Shared → Prop} {d : Drawn} {os : OsState} {kt : KT} {h : Heap} {E : List (Nat × Obj)}
noncomputable def vOf (prog : Program) (w : World) (A : Around) (R : Result → Shared → Prop) : XV := ⟨prog, w, default, 0, .nil, [], A, R, {}, 0, {}⟩
/-- an end: the code comes back -/
theorem sat_ret {o : Out} {idx : List Nat} {r : Result} {E' : List (Nat × Obj)} {gl' : List GenState} (h1 : (o.tag, o.res, ents o.st.T idx, o.st.gl) = (2, r, some E', gl')) (h2 : o.obL = o.obR) (nd : idx.Nodup)
    (K : ∀ h' tk', Fra h h' E E' → R r ⟨h', ⟨gl'⟩, d, tk', os⟩) : Sat (vOf prog w A R) h (E.map (·.1)) [] d os o := by
  simp only [Prod.mk.injEq] at h1
  obtain ⟨e1, e2, e3, e4⟩ := h1
  cases o with
  | ret r' st =>
    have e2 : r' = r := e2
    have e4 : st.gl = gl' := e4
    subst e2 e4
    exact ⟨obl_of h2, fun h' D => K h' st.tk (D.fra e3 nd)⟩
  | _ => cases e1

/-- an end, behind a prefix of the generators' table -/
theorem sat_retB {bs : List GenState} {o : Out} {idx : List Nat} {r : Result} {E' : List (Nat × Obj)} {gl' : List GenState} {t0 t' : Nat} (h1 : (o.tag, o.res, ents o.st.T idx, o.st.gl) = (2, r, some E', gl')) (h2 : o.obL = o.obR) (nd : idx.Nodup) (hl : Later t0 o) (ht : o.st.tk = t')
    (K : ∀ h', t0 ≤ t' → Fra h h' E E' → R r ⟨h', ⟨bs ++ gl'⟩, d, t', os⟩) : Sat (vOf prog w A R) h (E.map (·.1)) bs d os o := by
  simp only [Prod.mk.injEq] at h1
  obtain ⟨e1, e2, e3, e4⟩ := h1
  cases o with
  | ret r' st =>
    have e2 : r' = r := e2
    have e4 : st.gl = gl' := e4
    have ht : st.tk = t' := ht
    have hl : t0 ≤ st.tk := hl
    subst e2 e4 ht
    exact ⟨obl_of h2, fun h' D => K h' hl (D.fra e3 nd)⟩
  | _ => cases e1
theorem sat_retE {o : Out} {idx : List Nat} {r : Result} {E' : List (Nat × Obj)} {gl' : List GenState} {t0 t' : Nat} (h1 : (o.tag, o.res, ents o.st.T idx, o.st.gl) = (2, r, some E', gl')) (h2 : o.obL = o.obR) (nd : idx.Nodup) (hl : Later t0 o) (ht : o.st.tk = t')
    (K : ∀ h', t0 ≤ t' → Fra h h' E E' → R r ⟨h', ⟨gl'⟩, d, t', os⟩) : Sat (vOf prog w A R) h (E.map (·.1)) [] d os o := by
  simp only [Prod.mk.injEq] at h1
  obtain ⟨e1, e2, e3, e4⟩ := h1
  cases o with
  | ret r' st =>
    have e2 : r' = r := e2
    have e4 : st.gl = gl' := e4
    have ht : st.tk = t' := ht
    have hl : t0 ≤ st.tk := hl
    subst e2 e4 ht
    exact ⟨obl_of h2, fun h' D => K h' hl (D.fra e3 nd)⟩
  | _ => cases e1
theorem sat_retL {o : Out} {idx : List Nat} {r : Result} {E' : List (Nat × Obj)} {gl' : List GenState} {t0 : Nat} (h1 : (o.tag, o.res, ents o.st.T idx, o.st.gl) = (2, r, some E', gl')) (h2 : o.obL = o.obR) (nd : idx.Nodup) (hl : Later t0 o)
    (K : ∀ h' tk', t0 ≤ tk' → Fra h h' E E' → R r ⟨h', ⟨gl'⟩, d, tk', os⟩) : Sat (vOf prog w A R) h (E.map (·.1)) [] d os o :=
  sat_retE h1 h2 nd hl rfl fun h' => K h' _
theorem old_off {A0 : List Nat} (hA : ∀ a ∈ A0, 178 ≤ a ∨ a = 121) {a : Nat} (q : isOld a = true) : a ∉ A0 := fun hm => by
  unfold isOld at q
  cases w : Nat.blt a 178 with
  | false => rw [w] at q; cases q
  | true =>
    rw [w] at q
    rcases hA a hm with h1 | h1
    · exact absurd (blt_true w) (Nat.not_lt.mpr h1)
    · subst h1; cases q
theorem stat_lo (P : Pre kt h E) : ∀ a ∈ E.map (·.1), 178 ≤ a ∨ a = 121 := fun a ha => by
  obtain ⟨p, hp, rfl⟩ := List.mem_map.mp ha
  exact P.lo p hp
theorem pre_at (P : Pre kt h E) {h1 : Heap} {T : LT} {n : Nat} (D : Rp h (E.map (·.1)) h1 T n) {idx : List Nat} {E1 : List (Nat × Obj)} (e : ents T idx = some E1) (nd : idx.Nodup) : Pre kt h1 E1 := by
  have own := fun p hp => let ⟨i, _, ei⟩ := ents_mem e p hp; D.own i p.1 p.2 ei
  have lo := stat_lo P
  refine ⟨fun a o q x => D.keep a o (P.kt a o q x) (old_off lo q), fun p hp => (own p hp).1, ents_nd D e nd, fun p hp => ?_, noLimit_of (fun o e => D.keep _ o e (fun hm => ?_)) P.lim, ?_⟩
  · rcases (own p hp).2 with y | y
    · exact lo _ y
    · exact .inl (Nat.le_trans P.sz y)
  · rcases lo _ hm with h1 | h1
    · exact absurd h1 (by decide)
    · exact absurd h1 (by decide)
  · rw [D.size]; exact Nat.le_trans P.sz D.grow
theorem fra_comp {h1 h2 : Heap} {T : LT} {n : Nat} (D : Rp h (E.map (·.1)) h1 T n) {idx : List Nat} {E1 E2 : List (Nat × Obj)} (e : ents T idx = some E1) (F : Fra h1 h2 E1 E2) : Fra h h2 E E2 := by
  have own := fun p hp => let ⟨i, _, ei⟩ := ents_mem e p hp; D.own i p.1 p.2 ei
  refine ⟨Nat.le_trans (D.size ▸ D.grow) F.big, fun b o eb hb => F.keep b o (D.keep b o eb hb) fun hm => ?_, F.at_, F.nd, fun p hp => ?_⟩
  · obtain ⟨p, hp, rfl⟩ := List.mem_map.mp hm
    rcases (own p hp).2 with y | y
    · exact hb y
    · exact absurd (Heap.lt_size eb) (Nat.not_lt.mpr y)
  · rcases F.new p hp with y | y
    · obtain ⟨q, hq, eq⟩ := List.mem_map.mp y
      rw [← eq]
      exact (own q hq).2
    · exact .inr (Nat.le_trans (D.size ▸ D.grow) y)
/-- an end: a loop's next turn, of which a claim is at hand -/
theorem sat_next {D lo t0 : Nat} {o : Out} {idx : List Nat} {c : Code} {E1 : List (Nat × Obj)} {gl1 : List GenState} {Post1 : Nat → Result → List (Nat × Obj) → List GenState → Prop}
    (h1 : (o.tag, o.cd, ents o.st.T idx, o.st.gl) = (3, c, some E1, gl1)) (h2 : o.obL = o.obR) (nd : idx.Nodup) (hl : Later t0 o) (hlo : lo ≤ o.st.tk)
    (C : CodeSpecT prog w kt D lo c gl1 E1 Post1) (hA : A.handled = none) (hdep : Room A D) (P : Pre kt h E)
    (K : ∀ r h' E2 gl2 tk', t0 ≤ tk' → Fra h h' E E2 → Post1 tk' r E2 gl2 → R r ⟨h', ⟨gl2⟩, d, tk', os⟩) : Sat (vOf prog w A R) h (E.map (·.1)) [] d os o := by
  simp only [Prod.mk.injEq] at h1
  obtain ⟨e1, e2, e3, e4⟩ := h1
  cases o with
  | next c' st =>
    have e2 : c' = c := e2
    have e4 : st.gl = gl1 := e4
    have hl : t0 ≤ st.tk := hl
    subst e2 e4
    refine ⟨obl_of h2, fun h' D' => ?_⟩
    exact C A R h' d st.tk os hA hdep (pre_at P D' e3 nd) hlo fun r h2 E2 gl2 tk' le F p => K r h2 E2 gl2 tk' (Nat.le_trans hl le) (fra_comp D' e3 F) p
  | _ => cases e1
noncomputable def setL (T : LT) : List Nat → List (Nat × Obj) → LT
  | i :: idx, p :: E2 => setL (T.set i (fun _ => p.2)) idx E2
  | _, _ => T
noncomputable def afterT (T : LT) (m : Nat) (idx : List Nat) (E2 : List (Nat × Obj)) : LT := ltGo (E2.drop idx.length) m (setL T idx E2)
theorem setL_get : ∀ (idx : List Nat) (E2 : List (Nat × Obj)) (T : LT) (i a : Nat) (o : Obj), idx.Nodup → idx.length ≤ E2.length →
    (∀ (k j : Nat) (p : Nat × Obj), idx[k]? = some j → E2[k]? = some p → ∃ o₀, T.get j = some (p.1, o₀)) → (setL T idx E2).get i = some (a, o) →
    (i ∉ idx ∧ T.get i = some (a, o)) ∨ ∃ k : Nat, idx[k]? = some i ∧ E2[k]? = some (a, o)
  | [], _, T, i, a, o, _, _, _, e => .inl ⟨(nomatch ·), by unfold setL at e; exact e⟩
  | j :: idx, [], T, i, a, o, _, hl, _, _ => by simp at hl
  | j :: idx, p :: E2, T, i, a, o, nd, hl, hh, e => by
    rw [List.nodup_cons] at nd
    obtain ⟨o₀, h0⟩ := hh 0 j p rfl rfl
    have e' : (setL (T.set j fun _ => p.2) idx E2).get i = some (a, o) := e
    have ih := setL_get idx E2 (T.set j fun _ => p.2) i a o nd.2 (by simpa using hl) (fun k j' p' hk hp => by
      obtain ⟨o₁, h1⟩ := hh (k + 1) j' p' (by simpa using hk) (by simpa using hp)
      have : j' ≠ j := fun q => nd.1 (q ▸ List.mem_of_getElem? hk)
      exact ⟨o₁, by rw [LT.get_set, if_neg this]; exact h1⟩) e'
    rcases ih with ⟨h1, h2⟩ | ⟨k, h1, h2⟩
    · rw [LT.get_set] at h2
      by_cases hi : i = j
      · subst hi
        rw [if_pos rfl, h0] at h2
        obtain ⟨b, ob⟩ := p
        cases h2
        exact .inr ⟨0, rfl, rfl⟩
      · rw [if_neg hi] at h2
        exact .inl ⟨fun q => (List.mem_cons.mp q).elim hi h1, h2⟩
    · exact .inr ⟨k + 1, by simpa using h1, by simpa using h2⟩
theorem ents_get {T : LT} : ∀ {idx : List Nat} {E : List (Nat × Obj)}, ents T idx = some E → E.length = idx.length ∧ ∀ (k j : Nat), idx[k]? = some j → T.get j = E[k]?
  | [], E, h => by cases h; exact ⟨rfl, fun k j hk => by simp at hk⟩
  | i :: l, E, h => by
    unfold ents at h
    split at h
    · rename_i q hq
      split at h
      · rename_i r hr
        cases h
        obtain ⟨h1, h2⟩ := ents_get hr
        refine ⟨by simp [h1], fun k j hk => ?_⟩
        cases k with
        | zero => simp at hk; subst hk; simpa using hq
        | succ k => simpa using h2 k j (by simpa using hk)
      · cases h
    · cases h
theorem Rp.after {hI h1 h2 : Heap} {A0 : List Nat} {T : LT} {n m : Nat} (D : Rp hI A0 h1 T n) {idx : List Nat} {E1 E2 : List (Nat × Obj)} (e : ents T idx = some E1) (nd : idx.Nodup) (F : Fra h1 h2 E1 E2)
    (hs : (E2.take idx.length).map (·.1) = E1.map (·.1)) (ok : ltOk (E2.drop idx.length) m (setL T idx E2) = true) : Rp hI A0 h2 (afterT T m idx E2) h2.objs.size := by
  obtain ⟨el, eg⟩ := ents_get e
  have hlen : idx.length ≤ E2.length := by
    have := congrArg List.length hs
    rw [List.length_map, List.length_map, List.length_take, el] at this
    omega
  have fst_at : ∀ (k j : Nat) (p : Nat × Obj), idx[k]? = some j → E2[k]? = some p → ∃ o₀, T.get j = some (p.1, o₀) := fun k j p hk hp => by
    have hkl : k < idx.length := (List.getElem?_eq_some_iff.mp hk).1
    have h1 := eg k j hk
    have h3 : (E1.map (·.1))[k]? = some p.1 := by
      rw [← hs, List.getElem?_map, List.getElem?_take, if_pos hkl, hp]; rfl
    rw [List.getElem?_map] at h3
    cases q : E1[k]? with
    | none => rw [q] at h3; cases h3
    | some x =>
      rw [q] at h3
      have h4 : x.1 = p.1 := Option.some.inj h3
      exact ⟨x.2, by rw [h1, q, ← h4]⟩
  have old : ∀ i a o, (setL T idx E2).get i = some (a, o) → (i ∉ idx ∧ T.get i = some (a, o)) ∨ ∃ k : Nat, idx[k]? = some i ∧ E2[k]? = some (a, o) := fun i a o q => setL_get idx E2 T i a o nd hlen fst_at q
  have e1own := fun p hp => let ⟨i, _, ei⟩ := ents_mem e p hp; D.own i p.1 p.2 ei
  have s12 : h1.objs.size ≤ h2.objs.size := F.big
  have all : ∀ i a o, (afterT T m idx E2).get i = some (a, o) → (h2.get? a = some o ∧ (a ∈ A0 ∨ hI.objs.size ≤ a)) ∧ ((∃ o₀, T.get i = some (a, o₀) ∧ ¬ (m ≤ i ∧ i < m + (E2.drop idx.length).length)) ∨ (h1.objs.size ≤ a ∧ m ≤ i ∧ (E2.drop idx.length)[i - m]? = some (a, o))) := fun i a o q => by
    unfold afterT at q
    rw [ltGo_get _ m _ ok i] at q
    by_cases hi : m ≤ i ∧ i < m + (E2.drop idx.length).length
    · rw [if_pos hi] at q
      have hm : (a, o) ∈ E2 := List.mem_of_mem_drop (List.mem_of_getElem? q)
      have hnew : h1.objs.size ≤ a := by
        rcases F.new _ hm with y | y
        · exfalso
          rw [← hs] at y
          obtain ⟨k, hk, ek⟩ := List.getElem_of_mem y
          rw [List.length_map, List.length_take] at hk
          rw [List.getElem?_drop] at q
          have e1 : (E2.map (·.1))[k]? = some a := by
            rw [List.getElem_map, List.getElem_take] at ek
            rw [List.getElem?_map, List.getElem?_eq_getElem (by omega)]
            exact congrArg some ek
          have e2 : (E2.map (·.1))[idx.length + (i - m)]? = some a := by rw [List.getElem?_map, q]; rfl
          obtain ⟨l1, g1⟩ := List.getElem?_eq_some_iff.mp e1
          obtain ⟨l2, g2⟩ := List.getElem?_eq_some_iff.mp e2
          have := (List.getElem_inj (h₀ := l1) (h₁ := l2) F.nd).mp (g1.trans g2.symm)
          omega
        · exact y
      exact ⟨⟨F.at_ _ hm, .inr (Nat.le_trans (D.size ▸ D.grow) hnew)⟩, .inr ⟨hnew, hi.1, q⟩⟩
    · rw [if_neg hi] at q
      rcases old i a o q with ⟨hn, h3⟩ | ⟨k, h3, h4⟩
      · have y := D.own i a o h3
        refine ⟨⟨F.keep a o y.1 fun hm => ?_, y.2⟩, .inl ⟨o, h3, hi⟩⟩
        obtain ⟨p, hp, ep⟩ := List.mem_map.mp hm
        obtain ⟨j, hj, ej⟩ := ents_mem e p hp
        obtain ⟨b, ob⟩ := p
        dsimp only at ep
        subst ep
        exact hn (D.inj i j b o ob h3 ej ▸ hj)
      · obtain ⟨o₀, h5⟩ := fst_at k i (a, o) h3 h4
        exact ⟨⟨F.at_ _ (List.mem_of_getElem? h4), (D.own i a o₀ h5).2⟩, .inl ⟨o₀, h5, hi⟩⟩
  refine ⟨rfl, fun i a o q => (all i a o q).1, fun i j a o o' q1 q2 => ?_, fun b o eb hb => F.keep b o (D.keep b o eb hb) fun hm => ?_, Nat.le_trans (D.size ▸ D.grow) s12⟩
  · rcases (all i a o q1).2 with ⟨o1, h3, _⟩ | ⟨h3, h3', h3''⟩
    · rcases (all j a o' q2).2 with ⟨o2, h4, _⟩ | ⟨h4, _, _⟩
      · exact D.inj i j a o1 o2 h3 h4
      · exact absurd (Heap.lt_size (D.own i a o1 h3).1) (Nat.not_lt.mpr h4)
    · rcases (all j a o' q2).2 with ⟨o2, h4, _⟩ | ⟨h4, h4', h4''⟩
      · exact absurd (Heap.lt_size (D.own j a o2 h4).1) (Nat.not_lt.mpr h3)
      · have nd2 : ((E2.drop idx.length).map (·.1)).Nodup := by
          rw [List.map_drop]; exact F.nd.sublist (List.drop_sublist _ _)
        have := nodup_idx nd2 h3'' h4''
        omega
  · obtain ⟨p, hp, rfl⟩ := List.mem_map.mp hm
    rcases (e1own p hp).2 with y | y
    · exact hb y
    · exact absurd (Heap.lt_size eb) (Nat.not_lt.mpr y)
theorem later_go {t0 : Nat} {o : Out} (hl : Later t0 o) (so : SO) (P : Nat → Pos) (B : Nat → List (Code × Pos)) : Later so.tk (o.go so P B) := by
  cases o with
  | spec c κ st k => exact hl.2 so P B
  | _ => exact trivial
/-- a call of which a claim is at hand, where it is called -/
theorem sat_specG {lo : Nat} {o : Out} {idx : List Nat} {c : Code} {E1 : List (Nat × Obj)} {gl1 : List GenState} {Post1 : Nat → Result → List (Nat × Obj) → List GenState → Prop}
    (h1 : (o.tag, o.cd, ents o.st.T idx, o.st.gl) = (4, c, some E1, gl1)) (h2 : o.obL = o.obR) (nd : idx.Nodup) (P : Pre kt h E) (hlo : lo ≤ o.st.tk)
    (C : ∀ (R₁ : Result → Shared → Prop) (h₁ : Heap) (tk : Nat), Pre kt h₁ E1 → lo ≤ tk → (∀ r h' E' gl' tk', tk ≤ tk' → Fra h₁ h' E1 E' → Post1 tk' r E' gl' → R₁ r ⟨h', ⟨gl'⟩, d, tk', os⟩) → codeAny (model prog w) (aroundOf (vOf prog w A R) true o.kk) c R₁ ⟨h₁, ⟨gl1⟩, d, tk, os⟩)
    (ok : ∀ tk2 r E2 gl2, Post1 tk2 r E2 gl2 → (E2.take idx.length).map (·.1) = E1.map (·.1) ∧ ltOk (E2.drop idx.length) o.st.m (setL o.st.T idx E2) = true)
    (G : ∀ r E2 gl2 n2 tk2, o.st.tk ≤ tk2 → Post1 tk2 r E2 gl2 → (∀ p ∈ E2.drop idx.length, ∃ y, p.1 = y + 178) → ∀ P B, Sat (vOf prog w A R) h (E.map (·.1)) [] d os (o.go ⟨r, afterT o.st.T o.st.m idx E2, o.st.m + (E2.drop idx.length).length, n2 + 178, tk2, gl2⟩ P B)) :
    Sat (vOf prog w A R) h (E.map (·.1)) [] d os o := by
  simp only [Prod.mk.injEq] at h1
  obtain ⟨e1, e2, e5, e6⟩ := h1
  cases o with
  | spec c' κ st k =>
    have e2 : c' = c := e2
    have e6 : st.gl = gl1 := e6
    subst e2 e6
    refine ⟨obl_of h2, fun h' D1 => ?_⟩
    have P1 := pre_at P D1 e5 nd
    refine C _ h' st.tk P1 hlo fun r h2 E2 gl2 tk2 le F p => ?_
    · have okk := ok tk2 r E2 gl2 p
      have big : 178 ≤ h2.objs.size := Nat.le_trans P1.sz F.big
      refine ⟨⟨r, afterT st.T st.m idx E2, st.m + (E2.drop idx.length).length, (h2.objs.size - 178) + 178, tk2, gl2⟩, h2, rfl, rfl, ?_, G r E2 gl2 _ tk2 le p fun q hq => ?_⟩
      · have z := D1.after (m := st.m) e5 nd F okk.1 okk.2
        have : (h2.objs.size - 178) + 178 = h2.objs.size := by omega
        rw [← this] at z
        exact z
      · have hm := List.mem_of_mem_drop hq
        have : 178 ≤ q.1 := by
          rcases F.new q hm with y | y
          · exfalso
            rw [← okk.1] at y
            obtain ⟨k, hk, ek⟩ := List.getElem_of_mem y
            obtain ⟨j, hj, ej⟩ := List.getElem_of_mem hq
            rw [List.length_map, List.length_take] at hk
            rw [List.length_drop] at hj
            rw [List.getElem_map, List.getElem_take] at ek
            rw [List.getElem_drop] at ej
            have z := (List.getElem_inj (h₀ := by rw [List.length_map]; omega) (h₁ := by rw [List.length_map]; omega) F.nd (i := k) (j := idx.length + j)).mp (by rw [List.getElem_map, List.getElem_map, ek, ej])
            omega
          · exact Nat.le_trans P1.sz y
        exact ⟨q.1 - 178, by omega⟩
  | _ => cases e1
/-- a call of which a claim is at hand -/
theorem room_at {D D' : Nat} (κ : Kont) (hD : kdep κ + D' ≤ D) (hdep : Room A D) : Room (aroundOf (vOf prog w A R) true κ) D' := by
  have h1 := dep_le (vOf prog w A R) κ
  have h2 := units_le (vOf prog w A R) κ
  have e : (vOf prog w A R).A₀ = A := rfl
  rw [e] at h1 h2
  have h3 := hdep.1
  have h4 := hdep.2
  exact ⟨by omega, by omega⟩
theorem sat_spec {D D' K lo : Nat} {o : Out} {idx : List Nat} {c : Code} {E1 : List (Nat × Obj)} {gl1 : List GenState} {Post1 : Nat → Result → List (Nat × Obj) → List GenState → Prop}
    (h1 : (o.tag, o.cd, o.kh, o.kd, ents o.st.T idx, o.st.gl) = (4, c, none, K, some E1, gl1)) (h2 : o.obL = o.obR) (nd : idx.Nodup) (hD : K + D' ≤ D)
    (hA : A.handled = none) (hdep : Room A D) (P : Pre kt h E) (hlo : lo ≤ o.st.tk)
    (C : CodeSpecT prog w kt D' lo c gl1 E1 Post1)
    (ok : ∀ tk2 r E2 gl2, Post1 tk2 r E2 gl2 → (E2.take idx.length).map (·.1) = E1.map (·.1) ∧ ltOk (E2.drop idx.length) o.st.m (setL o.st.T idx E2) = true)
    (G : ∀ r E2 gl2 n2 tk2, o.st.tk ≤ tk2 → Post1 tk2 r E2 gl2 → (∀ p ∈ E2.drop idx.length, ∃ y, p.1 = y + 178) → ∀ P B, Sat (vOf prog w A R) h (E.map (·.1)) [] d os (o.go ⟨r, afterT o.st.T o.st.m idx E2, o.st.m + (E2.drop idx.length).length, n2 + 178, tk2, gl2⟩ P B)) :
    Sat (vOf prog w A R) h (E.map (·.1)) [] d os o := by
  simp only [Prod.mk.injEq] at h1
  obtain ⟨e1, e2, e3, e4, e5, e6⟩ := h1
  refine sat_specG (by rw [e1, e2, e5, e6]) h2 nd P hlo (fun R₁ h₁ tk P1 hlo' K1 => ?_) ok G
  cases o with
  | spec c' κ st k =>
    have e4 : kdep κ = K := e4
    have e3 : hOf κ = none := e3
    subst e4
    exact C _ _ h₁ d tk os ((handled_is (vOf prog w A R) hA κ).trans e3) (room_at κ hD hdep) P1 hlo' K1
  | _ => cases e1
/-- the same, under known frames -/
theorem sat_specF {l fl : List Env} {D D' K lo : Nat} {o : Out} {idx : List Nat} {c : Code} {E1 : List (Nat × Obj)} {gl1 : List GenState} {Post1 : Nat → Result → List (Nat × Obj) → List GenState → Prop}
    (hl : A.frames = some l) (hfl : frK l true o.kk = fl) (h1 : (o.tag, o.cd, o.kh, o.kd, ents o.st.T idx, o.st.gl) = (4, c, none, K, some E1, gl1)) (h2 : o.obL = o.obR) (nd : idx.Nodup) (hD : K + D' ≤ D)
    (hA : A.handled = none) (hdep : Room A D) (P : Pre kt h E) (hlo : lo ≤ o.st.tk)
    (C : CodeSpecF prog w kt fl D' lo c gl1 E1 Post1)
    (ok : ∀ tk2 r E2 gl2, Post1 tk2 r E2 gl2 → (E2.take idx.length).map (·.1) = E1.map (·.1) ∧ ltOk (E2.drop idx.length) o.st.m (setL o.st.T idx E2) = true)
    (G : ∀ r E2 gl2 n2 tk2, o.st.tk ≤ tk2 → Post1 tk2 r E2 gl2 → (∀ p ∈ E2.drop idx.length, ∃ y, p.1 = y + 178) → ∀ P B, Sat (vOf prog w A R) h (E.map (·.1)) [] d os (o.go ⟨r, afterT o.st.T o.st.m idx E2, o.st.m + (E2.drop idx.length).length, n2 + 178, tk2, gl2⟩ P B)) :
    Sat (vOf prog w A R) h (E.map (·.1)) [] d os o := by
  simp only [Prod.mk.injEq] at h1
  obtain ⟨e1, e2, e3, e4, e5, e6⟩ := h1
  refine sat_specG (by rw [e1, e2, e5, e6]) h2 nd P hlo (fun R₁ h₁ tk P1 hlo' K1 => ?_) ok G
  cases o with
  | spec c' κ st k =>
    have e4 : kdep κ = K := e4
    have e3 : hOf κ = none := e3
    have hfl : frK l true κ = fl := hfl
    subst e4 hfl
    exact C _ _ h₁ d tk os ((handled_is (vOf prog w A R) hA κ).trans e3) (fr_is (vOf prog w A R) l hl true κ) (room_at κ hD hdep) P1 hlo' K1
  | _ => cases e1
/-- a claim by running -/
theorem spec_of {D lo : Nat} {c : Code} {gl : List GenState} {Post : Nat → Result → List (Nat × Obj) → List GenState → Prop} (bs : List GenState) (X : Cfg) (hgb : X.gb = bs.length) (hrw : ∀ g ∈ X.nx, ∀ T p, (g T).pr = some p → p.1 = p.2) (hfr : X.fr = none) (hden : X.den = denote table) (hS : X.S = ⟨prog, w.params⟩) (ok : ltOk E 0 .nil = true) (hD : 100 ≤ D) (f : Nat) (oc : List Nat)
    (H : ∀ A R h d tk os, A.handled = none → Room A D → Pre X.kt h E → lo ≤ tk → (∀ r h' E' gl' tk', tk ≤ tk' → Fra h h' E E' → Post tk' r E' gl' → R r ⟨h', ⟨gl'⟩, d, tk', os⟩) → ∀ n P B,
      Sat (vOf prog w A R) h (E.map (·.1)) bs d os (simI X f c none .base (X.den c) oc P B (ltOf E) E.length (n + 178) tk gl [] [])) : CodeSpecT prog w X.kt D lo c (bs ++ gl) E Post := by
  intro A R h d tk os hA hdep P hlo K
  have Y : Sure (vOf prog w A R) h (E.map (·.1)) X := ⟨hden, hS, P.kt, stat_lo P, P.lim, (hdep.le hD).1, (hdep.le hD).2, hA, hrw, fun l q => by rw [hfr] at q; cases q⟩
  have D0 := Rp.start P ok
  have e : (h.objs.size - 178) + 178 = h.objs.size := by have := P.sz; omega
  have D0' : Rp h (E.map (·.1)) h (ltOf E) ((h.objs.size - 178) + 178) := by rw [e]; exact D0
  have z := simI_sound (vOf prog w A R) h (E.map (·.1)) X bs d os Y hgb f c none .base (X.den c) oc (ltOf E) E.length ((h.objs.size - 178) + 178) tk gl [] [] h (H A R h d tk os hA hdep P hlo K _) D0'
  rw [hden] at z
  exact y_code prog w A R _ c z
theorem spec_ofF {fl : List Env} {D lo : Nat} {c : Code} {gl : List GenState} {Post : Nat → Result → List (Nat × Obj) → List GenState → Prop} (bs : List GenState) (X : Cfg) (hgb : X.gb = bs.length) (hrw : ∀ g ∈ X.nx, ∀ T p, (g T).pr = some p → p.1 = p.2) (hfr : X.fr = some fl) (hden : X.den = denote table) (hS : X.S = ⟨prog, w.params⟩) (ok : ltOk E 0 .nil = true) (hD : 100 ≤ D) (f : Nat) (oc : List Nat)
    (H : ∀ A R h d tk os, A.handled = none → A.frames = some fl → Room A D → Pre X.kt h E → lo ≤ tk → (∀ r h' E' gl' tk', tk ≤ tk' → Fra h h' E E' → Post tk' r E' gl' → R r ⟨h', ⟨gl'⟩, d, tk', os⟩) → ∀ n P B,
      Sat (vOf prog w A R) h (E.map (·.1)) bs d os (simI X f c none .base (X.den c) oc P B (ltOf E) E.length (n + 178) tk gl [] [])) : CodeSpecF prog w X.kt fl D lo c (bs ++ gl) E Post := by
  intro A R h d tk os hA hF hdep P hlo K
  have Y : Sure (vOf prog w A R) h (E.map (·.1)) X := ⟨hden, hS, P.kt, stat_lo P, P.lim, (hdep.le hD).1, (hdep.le hD).2, hA, hrw, fun l q => by rw [hfr] at q; cases q; exact hF⟩
  have D0 := Rp.start P ok
  have e : (h.objs.size - 178) + 178 = h.objs.size := by have := P.sz; omega
  have D0' : Rp h (E.map (·.1)) h (ltOf E) ((h.objs.size - 178) + 178) := by rw [e]; exact D0
  have z := simI_sound (vOf prog w A R) h (E.map (·.1)) X bs d os Y hgb f c none .base (X.den c) oc (ltOf E) E.length ((h.objs.size - 178) + 178) tk gl [] [] h (H A R h d tk os hA hF hdep P hlo K _) D0'
  rw [hden] at z
  exact y_code prog w A R _ c z
end
end Mine
end
section
set_option maxRecDepth 100000
set_option maxHeartbeats 0
namespace Mine
open PySem PySem.W PySem.W.X PyProof.Rows
/-- the text's first statement, under a name: the head then looks at the top's run at once, not by pieces -/
@[irreducible] def top0 : Stmt := PySem.Challenge.pw_wk0016_01.main.body.headD (.Pass ⟨0, 0, 0, 0⟩)
def pwM : Program := { PySem.Challenge.pw_wk0016_01 with main := { PySem.Challenge.pw_wk0016_01.main with body := top0 :: PySem.Challenge.pw_wk0016_01.main.body.drop 1 } }
def rwM : OpenLaw := { PySem.Challenge.rw_wk0016_01 with prog := pwM }
local macro_rules | `(tactic| rfl) => `(tactic| (first | exact Eq.refl _ | kernel_rfl))
local macro_rules | `(tactic| k_head) => `(tactic| z_head)
open_top hd for rwM.row
end Mine
end
section
set_option maxRecDepth 100000
namespace Mine
open PySem PySem.Spec PySem.Calls PyProof.Rows PySem.W PySem.W.X
noncomputable def denF : Code → Sem Fin := PySem.W.Fast.tw11892475500146522536 PySem.treeTable
theorem denF_is : denF = denote table := by
  unfold denF
  rw [← PySem.W.Fast.te11892475500146522536, table_eq_tree]
noncomputable def fol (b1 b2 : Bool) (w : World) : World := (w.withFollow "special-get-raises" b1).withFollow "comprehension-iter-twice" b2
theorem fol_any (w : World) : ∃ b1 b2, w = fol b1 b2 w := by
  refine ⟨w.params.followText "special-get-raises", w.params.followText "comprehension-iter-twice", ?_⟩
  unfold fol
  have h1 := World.withFollow_self w "special-get-raises"
  have h2 := World.withFollow_self w "comprehension-iter-twice"
  rw [h1, h2]
noncomputable abbrev pw : Program := PySem.Challenge.pw_wk0016_01
noncomputable def ktw (w : World) : KT := hd.kt_347 w.params
noncomputable def cfg (w : World) (sp : Code → Bool) : Cfg := ⟨denF, ⟨pw, w.params⟩, ktw w, sp, [], 0, [], none⟩
noncomputable def cfgX (w : World) (sp : Code → Bool) (cx : List (LT → CmpOp × Nat × Nat × Cx Value)) : Cfg := ⟨denF, ⟨pw, w.params⟩, ktw w, sp, cx, 0, [], none⟩
noncomputable def spN : Code → Bool := fun _ => false
noncomputable abbrev SpcT (w : World) (D lo : Nat) (c : Code) (gl : List GenState) (E : List (Nat × Obj)) (Post : Nat → Result → List (Nat × Obj) → List GenState → Prop) : Prop := CodeSpecT pw w (ktw w) D lo c gl E Post
noncomputable abbrev SpcF (w : World) (fl : List Env) (D lo : Nat) (c : Code) (gl : List GenState) (E : List (Nat × Obj)) (Post : Nat → Result → List (Nat × Obj) → List GenState → Prop) : Prop := CodeSpecF pw w (ktw w) fl D lo c gl E Post
noncomputable abbrev Spc (w : World) (D : Nat) (c : Code) (gl : List GenState) (E : List (Nat × Obj)) (Post : Result → List (Nat × Obj) → List GenState → Prop) : Prop := CodeSpec pw w (ktw w) D c gl E Post
@[irreducible] noncomputable def go (w : World) (sp : Code → Bool) (f : Nat) (c : Code) (oc : List Nat) (P : Nat → Pos) (B : Nat → List (Code × Pos)) (E : List (Nat × Obj)) (m n tk : Nat) (gl : List GenState) : Out :=
  simI (cfg w sp) f c none .base (denF c) oc P B (ltOf E) m (n + 178) tk gl [] []
theorem later_of (w : World) (sp : Code → Bool) (f : Nat) (c : Code) (oc : List Nat) (P : Nat → Pos) (B : Nat → List (Code × Pos)) (E : List (Nat × Obj)) (m n tk : Nat) (gl : List GenState) : Later tk (go w sp f c oc P B E m n tk gl) := by
  unfold go
  exact later_sim _ f c none .base _ tk oc P B _ m _ tk gl [] [] (Nat.le_refl _)
@[irreducible] noncomputable def goX (w : World) (sp : Code → Bool) (cx : List (LT → CmpOp × Nat × Nat × Cx Value)) (f : Nat) (c : Code) (oc : List Nat) (P : Nat → Pos) (B : Nat → List (Code × Pos)) (E : List (Nat × Obj)) (m n tk : Nat) (gl : List GenState) : Out :=
  simI (cfgX w sp cx) f c none .base (denF c) oc P B (ltOf E) m (n + 178) tk gl [] []
theorem later_ofX (w : World) (sp : Code → Bool) (cx : List (LT → CmpOp × Nat × Nat × Cx Value)) (f : Nat) (c : Code) (oc : List Nat) (P : Nat → Pos) (B : Nat → List (Code × Pos)) (E : List (Nat × Obj)) (m n tk : Nat) (gl : List GenState) : Later tk (goX w sp cx f c oc P B E m n tk gl) := by
  unfold goX
  exact later_sim _ f c none .base _ tk oc P B _ m _ tk gl [] [] (Nat.le_refl _)
@[irreducible] noncomputable def SatX (V : XV) (h : Heap) (A0 : List Nat) (d : Drawn) (os : OsState) (t0 : Nat) (o : Out) : Prop := Later t0 o → Sat V h A0 [] d os o
theorem satX_of {V : XV} {h : Heap} {A0 : List Nat} {d : Drawn} {os : OsState} {t0 : Nat} {o : Out} (x : Later t0 o → Sat V h A0 [] d os o) : SatX V h A0 d os t0 o := by
  unfold SatX
  exact x
theorem satX_to {V : XV} {h : Heap} {A0 : List Nat} {d : Drawn} {os : OsState} {t0 : Nat} {o : Out} (x : SatX V h A0 d os t0 o) : Later t0 o → Sat V h A0 [] d os o := by
  unfold SatX at x
  exact x
theorem spcT_of {w : World} {D lo : Nat} {c : Code} {gl : List GenState} {E : List (Nat × Obj)} {Post : Nat → Result → List (Nat × Obj) → List GenState → Prop} (sp : Code → Bool) (f : Nat) (oc : List Nat) (m : Nat) (hm : E.length = m) (ok : ltOk E 0 .nil = true) (hD : 100 ≤ D)
    (H : ∀ A R h d tk os, A.handled = none → Room A D → Pre (ktw w) h E → lo ≤ tk → (∀ r h' E' gl' tk', tk ≤ tk' → Fra h h' E E' → Post tk' r E' gl' → R r ⟨h', ⟨gl'⟩, d, tk', os⟩) → ∀ n P B,
      SatX (vOf pw w A R) h (E.map (·.1)) d os tk (go w sp f c oc P B E m n tk gl)) : SpcT w D lo c gl E Post := by
  subst hm
  refine spec_of [] (cfg w sp) rfl (fun _ h => nomatch h) rfl denF_is rfl ok hD f oc fun A R h d tk os hA hdep P hlo K n Ps B => ?_
  have z := satX_to (H A R h d tk os hA hdep P hlo K n Ps B) (later_of ..)
  unfold go at z
  exact z
/-- a claim by running, contexts of comparisons at hand -/
theorem spcT_ofX {w : World} {D lo : Nat} {c : Code} {gl : List GenState} {E : List (Nat × Obj)} {Post : Nat → Result → List (Nat × Obj) → List GenState → Prop} (sp : Code → Bool) (cx : List (LT → CmpOp × Nat × Nat × Cx Value)) (f : Nat) (oc : List Nat) (m : Nat) (hm : E.length = m) (ok : ltOk E 0 .nil = true) (hD : 100 ≤ D)
    (H : ∀ A R h d tk os, A.handled = none → Room A D → Pre (ktw w) h E → lo ≤ tk → (∀ r h' E' gl' tk', tk ≤ tk' → Fra h h' E E' → Post tk' r E' gl' → R r ⟨h', ⟨gl'⟩, d, tk', os⟩) → ∀ n P B,
      SatX (vOf pw w A R) h (E.map (·.1)) d os tk (goX w sp cx f c oc P B E m n tk gl)) : SpcT w D lo c gl E Post := by
  subst hm
  refine spec_of [] (cfgX w sp cx) rfl (fun _ h => nomatch h) rfl denF_is rfl ok hD f oc fun A R h d tk os hA hdep P hlo K n Ps B => ?_
  have z := satX_to (H A R h d tk os hA hdep P hlo K n Ps B) (later_ofX ..)
  unfold goX at z
  exact z
/-- runs behind a prefix of the generators' table, of which only the length is known -/
noncomputable def cfgB (w : World) (gb : Nat) (nx : List (LT → Nx)) (fr : Option (List Env)) : Cfg := ⟨denF, ⟨pw, w.params⟩, ktw w, spN, [], gb, nx, fr⟩
@[irreducible] noncomputable def goB (w : World) (gb : Nat) (nx : List (LT → Nx)) (fr : Option (List Env)) (f : Nat) (c : Code) (oc : List Nat) (P : Nat → Pos) (B : Nat → List (Code × Pos)) (E : List (Nat × Obj)) (m n tk : Nat) : Out :=
  simI (cfgB w gb nx fr) f c none .base (denF c) oc P B (ltOf E) m (n + 178) tk [] [] []
theorem later_ofB (w : World) (gb : Nat) (nx : List (LT → Nx)) (fr : Option (List Env)) (f : Nat) (c : Code) (oc : List Nat) (P : Nat → Pos) (B : Nat → List (Code × Pos)) (E : List (Nat × Obj)) (m n tk : Nat) : Later tk (goB w gb nx fr f c oc P B E m n tk) := by
  unfold goB
  exact later_sim _ f c none .base _ tk oc P B _ m _ tk [] [] [] (Nat.le_refl _)
/-- runs under known frames -/
noncomputable def cfgF (w : World) (sp : Code → Bool) (cx : List (LT → CmpOp × Nat × Nat × Cx Value)) (fl : List Env) : Cfg := ⟨denF, ⟨pw, w.params⟩, ktw w, sp, cx, 0, [], some fl⟩
@[irreducible] noncomputable def goF (w : World) (sp : Code → Bool) (cx : List (LT → CmpOp × Nat × Nat × Cx Value)) (fl : List Env) (f : Nat) (c : Code) (oc : List Nat) (P : Nat → Pos) (B : Nat → List (Code × Pos)) (E : List (Nat × Obj)) (m n tk : Nat) (gl : List GenState) : Out :=
  simI (cfgF w sp cx fl) f c none .base (denF c) oc P B (ltOf E) m (n + 178) tk gl [] []
theorem later_ofF (w : World) (sp : Code → Bool) (cx : List (LT → CmpOp × Nat × Nat × Cx Value)) (fl : List Env) (f : Nat) (c : Code) (oc : List Nat) (P : Nat → Pos) (B : Nat → List (Code × Pos)) (E : List (Nat × Obj)) (m n tk : Nat) (gl : List GenState) : Later tk (goF w sp cx fl f c oc P B E m n tk gl) := by
  unfold goF
  exact later_sim _ f c none .base _ tk oc P B _ m _ tk gl [] [] (Nat.le_refl _)
/-- a claim by running, under known frames -/
theorem spcF_of {w : World} {fl : List Env} {D lo : Nat} {c : Code} {gl : List GenState} {E : List (Nat × Obj)} {Post : Nat → Result → List (Nat × Obj) → List GenState → Prop} (sp : Code → Bool) (cx : List (LT → CmpOp × Nat × Nat × Cx Value)) (f : Nat) (oc : List Nat) (m : Nat) (hm : E.length = m) (ok : ltOk E 0 .nil = true) (hD : 100 ≤ D)
    (H : ∀ A R h d tk os, A.handled = none → A.frames = some fl → Room A D → Pre (ktw w) h E → lo ≤ tk → (∀ r h' E' gl' tk', tk ≤ tk' → Fra h h' E E' → Post tk' r E' gl' → R r ⟨h', ⟨gl'⟩, d, tk', os⟩) → ∀ n P B,
      SatX (vOf pw w A R) h (E.map (·.1)) d os tk (goF w sp cx fl f c oc P B E m n tk gl)) : SpcF w fl D lo c gl E Post := by
  subst hm
  refine spec_ofF [] (cfgF w sp cx fl) rfl (fun _ h => nomatch h) rfl denF_is rfl ok hD f oc fun A R h d tk os hA hF hdep P hlo K n Ps B => ?_
  have z := satX_to (H A R h d tk os hA hF hdep P hlo K n Ps B) (later_ofF ..)
  unfold goF at z
  exact z
/-- runs, equal trees at hand -/
noncomputable def cfgN (w : World) (sp : Code → Bool) (nx : List (LT → Nx)) : Cfg := ⟨denF, ⟨pw, w.params⟩, ktw w, sp, [], 0, nx, none⟩
@[irreducible] noncomputable def goN (w : World) (sp : Code → Bool) (nx : List (LT → Nx)) (f : Nat) (c : Code) (oc : List Nat) (P : Nat → Pos) (B : Nat → List (Code × Pos)) (E : List (Nat × Obj)) (m n tk : Nat) (gl : List GenState) : Out :=
  simI (cfgN w sp nx) f c none .base (denF c) oc P B (ltOf E) m (n + 178) tk gl [] []
theorem later_ofN (w : World) (sp : Code → Bool) (nx : List (LT → Nx)) (f : Nat) (c : Code) (oc : List Nat) (P : Nat → Pos) (B : Nat → List (Code × Pos)) (E : List (Nat × Obj)) (m n tk : Nat) (gl : List GenState) : Later tk (goN w sp nx f c oc P B E m n tk gl) := by
  unfold goN
  exact later_sim _ f c none .base _ tk oc P B _ m _ tk gl [] [] (Nat.le_refl _)
/-- a claim by running, equal trees at hand -/
theorem spcT_ofN {w : World} {D lo : Nat} {c : Code} {gl : List GenState} {E : List (Nat × Obj)} {Post : Nat → Result → List (Nat × Obj) → List GenState → Prop} (sp : Code → Bool) (nx : List (LT → Nx)) (hrw : ∀ g ∈ nx, ∀ T p, (g T).pr = some p → p.1 = p.2) (f : Nat) (oc : List Nat) (m : Nat) (hm : E.length = m) (ok : ltOk E 0 .nil = true) (hD : 100 ≤ D)
    (H : ∀ A R h d tk os, A.handled = none → Room A D → Pre (ktw w) h E → lo ≤ tk → (∀ r h' E' gl' tk', tk ≤ tk' → Fra h h' E E' → Post tk' r E' gl' → R r ⟨h', ⟨gl'⟩, d, tk', os⟩) → ∀ n P B,
      SatX (vOf pw w A R) h (E.map (·.1)) d os tk (goN w sp nx f c oc P B E m n tk gl)) : SpcT w D lo c gl E Post := by
  subst hm
  refine spec_of [] (cfgN w sp nx) rfl hrw rfl denF_is rfl ok hD f oc fun A R h d tk os hA hdep P hlo K n Ps B => ?_
  have z := satX_to (H A R h d tk os hA hdep P hlo K n Ps B) (later_ofN ..)
  unfold goN at z
  exact z
theorem spc_of {w : World} {D : Nat} {c : Code} {gl : List GenState} {E : List (Nat × Obj)} {Post : Result → List (Nat × Obj) → List GenState → Prop} (sp : Code → Bool) (f : Nat) (oc : List Nat) (m : Nat) (hm : E.length = m) (ok : ltOk E 0 .nil = true) (hD : 100 ≤ D)
    (H : ∀ A R h d tk os, A.handled = none → Room A D → Pre (ktw w) h E → (∀ r h' E' gl' tk', tk ≤ tk' → Fra h h' E E' → Post r E' gl' → R r ⟨h', ⟨gl'⟩, d, tk', os⟩) → ∀ n P B,
      SatX (vOf pw w A R) h (E.map (·.1)) d os tk (go w sp f c oc P B E m n tk gl)) : Spc w D c gl E Post :=
  spcT_of sp f oc m hm ok hD fun A R h d tk os hA hdep P _ K => H A R h d tk os hA hdep P K
/-- a code that runs to its end at once -/
theorem spc_run {w : World} {D : Nat} {c : Code} {gl : List GenState} {E : List (Nat × Obj)} {Post : Result → List (Nat × Obj) → List GenState → Prop} (sp : Code → Bool) (f : Nat) (oc : List Nat) (m : Nat) (hm : E.length = m) (ok : ltOk E 0 .nil = true) (hD : 100 ≤ D) (idx : List Nat) (nd : idx.Nodup)
    (H : ∀ n tk P B, ∃ r E' gl', (let o := go w sp f c oc P B E m n tk gl; (o.tag, o.res, ents o.st.T idx, o.st.gl) = (2, r, some E', gl') ∧ o.obL = o.obR) ∧ Post r E' gl') : Spc w D c gl E Post := by
  refine spc_of sp f oc m hm ok hD fun A R h d tk os hA hdep P K n Ps B => ?_
  obtain ⟨r, E', gl', ⟨h1, h2⟩, hp⟩ := H n tk Ps B
  exact satX_of fun hl => sat_retL h1 h2 nd hl fun h' tk' le F => K r h' E' gl' tk' le F hp
/-- a mark drawn before lo -/
noncomputable def InT (lo t : Nat) : Prop := 0 < t ∧ t < lo
theorem InT.mono {lo lo' t : Nat} (h : InT lo t) (le : lo ≤ lo') : InT lo' t := ⟨h.1, Nat.lt_of_lt_of_le h.2 le⟩
theorem InT.add {tk a b : Nat} (h1 : 0 < a) (h2 : a < b) : InT (tk + b) (tk + a) := ⟨Nat.add_pos_right tk h1, Nat.add_lt_add_left h2 tk⟩
/-- shapes of objects -/
noncomputable abbrev Ent := List (Int × List Nat × Nat × Value)
noncomputable def ents' (l : Ent) : Array DictEntry := (l.map fun (h, s, t, v) => (⟨h, .str ⟨s.toArray⟩ t, v⟩ : DictEntry)).toArray
noncomputable def frm (l : Ent) (n : Nat) : Obj := { cls := .type "frame", data := .dict (ents' l) n }
noncomputable def dct (l : Ent) (n : Nat) : Obj := { cls := .type "dict", data := .dict (ents' l) n }
noncomputable def lst (vs : List Value) (n : Nat) : Obj := { cls := .type "list", data := .seq vs.toArray n }
noncomputable def inst (c d : Nat) : Obj := { cls := .ref c, dict := some d, data := .plain }
/-- many runs in one equation -/
noncomputable abbrev Vw := Nat × Result × Option (List (Nat × Obj)) × List GenState × (List Nat × List (Sem Fin))
noncomputable def vL (idx : List Nat) (o : Out) : Vw := (o.tag, o.res, ents o.st.T idx, o.st.gl, o.obL)
noncomputable def vR (r : Result) (E : List (Nat × Obj)) (gl : List GenState) (o : Out) : Vw := (2, r, some E, gl, o.obR)
noncomputable def tab {α : Type} (f : Nat → α) : Nat → List α
  | 0 => []
  | n + 1 => f n :: tab f n
noncomputable def tab2 {α : Type} (f : Nat → α) : Nat → List α
  | 0 => []
  | n + 1 => f n :: tab2 f n
theorem tab_get {α : Type} {f g : Nat → α} : ∀ {n : Nat}, tab f n = tab2 g n → ∀ i, i < n → f i = g i
  | 0, _, i, h => absurd h (Nat.not_lt_zero _)
  | n + 1, e, i, h => by
    have e' : f n :: tab f n = g n :: tab2 g n := e
    injection e' with e1 e2
    by_cases q : i = n
    · rw [q]; exact e1
    · exact tab_get e2 i (by omega)
/-- a code that runs to its end at once, from a view -/
theorem spc_view {w : World} {D : Nat} {c : Code} {gl : List GenState} {E : List (Nat × Obj)} {Post : Result → List (Nat × Obj) → List GenState → Prop} (sp : Code → Bool) (f : Nat) (oc : List Nat) (m : Nat) (idx : List Nat)
    (H : ∀ n tk P B, ∃ r E' gl', vL idx (go w sp f c oc P B E m n tk gl) = vR r E' gl' (go w sp f c oc P B E m n tk gl) ∧ Post r E' gl')
    (hm : E.length = m) (ok : ltOk E 0 .nil = true) (nd : idx.Nodup) (hD : 100 ≤ D) : Spc w D c gl E Post := by
  refine spc_run sp f oc m hm ok hD idx nd fun n tk P B => ?_
  obtain ⟨r, E', gl', e, p⟩ := H n tk P B
  refine ⟨r, E', gl', ?_, p⟩
  unfold vL vR at e
  simp only [Prod.mk.injEq] at e ⊢
  obtain ⟨e1, e2, e3, e4, e5⟩ := e
  exact ⟨⟨e1, e2, e3, e4⟩, e5⟩
theorem spcT_fol {w : World} {D lo : Nat} {c : Code} {gl : List GenState} {E : List (Nat × Obj)} {Post : Nat → Result → List (Nat × Obj) → List GenState → Prop} (H : ∀ b1 b2, SpcT (fol b1 b2 w) D lo c gl E Post) : SpcT w D lo c gl E Post := by
  obtain ⟨b1, b2, e⟩ := fol_any w
  rw [e]
  exact H b1 b2
theorem spc_fol {w : World} {D : Nat} {c : Code} {gl : List GenState} {E : List (Nat × Obj)} {Post : Result → List (Nat × Obj) → List GenState → Prop} (H : ∀ b1 b2, Spc (fol b1 b2 w) D c gl E Post) : Spc w D c gl E Post := by
  obtain ⟨b1, b2, e⟩ := fol_any w
  rw [e]
  exact H b1 b2
/-- a view of a call that is not walked -/
noncomputable abbrev Vs := Nat × Code × Option Value × Nat × Option (List (Nat × Obj)) × List GenState × (List Nat × List (Sem Fin))
noncomputable def vS (idx : List Nat) (o : Out) : Vs := (o.tag, o.cd, o.kh, o.kd, ents o.st.T idx, o.st.gl, o.obL)
noncomputable def vSR (c : Code) (K : Nat) (E : List (Nat × Obj)) (gl : List GenState) (o : Out) : Vs := (4, c, none, K, some E, gl, o.obR)
noncomputable def vN (idx : List Nat) (o : Out) : Nat × Code × Option (List (Nat × Obj)) × List GenState × (List Nat × List (Sem Fin)) := (o.tag, o.cd, ents o.st.T idx, o.st.gl, o.obL)
noncomputable def vNR (c : Code) (E : List (Nat × Obj)) (gl : List GenState) (o : Out) : Nat × Code × Option (List (Nat × Obj)) × List GenState × (List Nat × List (Sem Fin)) := (3, c, some E, gl, o.obR)
/-- what a call gives back, laid into the piece that asked -/
noncomputable def so (o : Out) (idx : List Nat) (r : Result) (E2 : List (Nat × Obj)) (n tk : Nat) (gl : List GenState) : SO := ⟨r, afterT o.st.T o.st.m idx E2, o.st.m + (E2.drop idx.length).length, n + 178, tk, gl⟩
/-- views that show the marks drawn -/
noncomputable def vLt (idx : List Nat) (o : Out) : Vw × Nat := (vL idx o, o.st.tk)
noncomputable def vNt (idx : List Nat) (o : Out) : (Nat × Code × Option (List (Nat × Obj)) × List GenState × (List Nat × List (Sem Fin))) × Nat := (vN idx o, o.st.tk)
noncomputable def vSt (idx : List Nat) (o : Out) : Vs × Nat := (vS idx o, o.st.tk)
section
variable {w : World} {A : Around} {R : Result → Shared → Prop} {d : Drawn} {os : OsState} {h : Heap} {E : List (Nat × Obj)} {t0 : Nat}
theorem sat_retV {o : Out} {idx : List Nat} {r : Result} {E' : List (Nat × Obj)} {gl' : List GenState} (h1 : vL idx o = vR r E' gl' o) (nd : idx.Nodup)
    (K : ∀ h' tk', t0 ≤ tk' → Fra h h' E E' → R r ⟨h', ⟨gl'⟩, d, tk', os⟩) : SatX (vOf pw w A R) h (E.map (·.1)) d os t0 o := by
  unfold vL vR at h1
  simp only [Prod.mk.injEq] at h1
  obtain ⟨e1, e2, e3, e4, e5⟩ := h1
  exact satX_of fun hl => sat_retL (by rw [e1, e2, e3, e4]) e5 nd hl K
theorem sat_retT {o : Out} {idx : List Nat} {r : Result} {E' : List (Nat × Obj)} {gl' : List GenState} {t' : Nat} (h1 : vLt idx o = (vR r E' gl' o, t')) (nd : idx.Nodup)
    (K : ∀ h', t0 ≤ t' → Fra h h' E E' → R r ⟨h', ⟨gl'⟩, d, t', os⟩) : SatX (vOf pw w A R) h (E.map (·.1)) d os t0 o := by
  unfold vLt vL vR at h1
  simp only [Prod.mk.injEq] at h1
  obtain ⟨⟨e1, e2, e3, e4, e5⟩, e6⟩ := h1
  exact satX_of fun hl => sat_retE (by rw [e1, e2, e3, e4]) e5 nd hl e6 K
theorem sat_specT {D D' K lo : Nat} {o : Out} {idx : List Nat} {c : Code} {E1 : List (Nat × Obj)} {gl1 : List GenState} {Post1 : Nat → Result → List (Nat × Obj) → List GenState → Prop}
    (h1 : vS idx o = vSR c K E1 gl1 o) (hlo : t0 ≤ o.st.tk → lo ≤ o.st.tk) (C : SpcT w D' lo c gl1 E1 Post1) (nd : idx.Nodup) (hD : K + D' ≤ D)
    (hA : A.handled = none) (hdep : Room A D) (P : Pre (ktw w) h E)
    (ok : ∀ tk2 r E2 gl2, Post1 tk2 r E2 gl2 → (E2.take idx.length).map (·.1) = E1.map (·.1) ∧ ltOk (E2.drop idx.length) o.st.m (setL o.st.T idx E2) = true)
    (G : ∀ r E2 gl2 n2 tk2, t0 ≤ tk2 → o.st.tk ≤ tk2 → Post1 tk2 r E2 gl2 → (∀ p ∈ E2.drop idx.length, ∃ y, p.1 = y + 178) → ∀ P B, SatX (vOf pw w A R) h (E.map (·.1)) d os tk2 (o.go (so o idx r E2 n2 tk2 gl2) P B)) :
    SatX (vOf pw w A R) h (E.map (·.1)) d os t0 o := by
  unfold vS vSR at h1
  simp only [Prod.mk.injEq] at h1
  obtain ⟨e1, e2, e3, e4, e5, e6, e7⟩ := h1
  refine satX_of fun hl => ?_
  have ht : t0 ≤ o.st.tk := by
    cases o with
    | spec c κ st k => exact hl.1
    | _ => cases e1
  exact sat_spec (kt := ktw w) (D := D) (K := K) (by rw [e1, e2, e3, e4, e5, e6]) e7 nd hD hA hdep P (hlo ht) C ok fun r E2 gl2 n2 tk2 le p q P B => satX_to (G r E2 gl2 n2 tk2 (Nat.le_trans ht le) le p q P B) (later_go hl (so o idx r E2 n2 tk2 gl2) P B)
theorem sat_specFT {l fl : List Env} {D D' K lo : Nat} {o : Out} {idx : List Nat} {c : Code} {E1 : List (Nat × Obj)} {gl1 : List GenState} {Post1 : Nat → Result → List (Nat × Obj) → List GenState → Prop}
    (h1 : vS idx o = vSR c K E1 gl1 o) (hfr : A.frames = some l) (hfl : frK l true o.kk = fl) (hlo : t0 ≤ o.st.tk → lo ≤ o.st.tk) (C : SpcF w fl D' lo c gl1 E1 Post1) (nd : idx.Nodup) (hD : K + D' ≤ D)
    (hA : A.handled = none) (hdep : Room A D) (P : Pre (ktw w) h E)
    (ok : ∀ tk2 r E2 gl2, Post1 tk2 r E2 gl2 → (E2.take idx.length).map (·.1) = E1.map (·.1) ∧ ltOk (E2.drop idx.length) o.st.m (setL o.st.T idx E2) = true)
    (G : ∀ r E2 gl2 n2 tk2, t0 ≤ tk2 → o.st.tk ≤ tk2 → Post1 tk2 r E2 gl2 → (∀ p ∈ E2.drop idx.length, ∃ y, p.1 = y + 178) → ∀ P B, SatX (vOf pw w A R) h (E.map (·.1)) d os tk2 (o.go (so o idx r E2 n2 tk2 gl2) P B)) :
    SatX (vOf pw w A R) h (E.map (·.1)) d os t0 o := by
  unfold vS vSR at h1
  simp only [Prod.mk.injEq] at h1
  obtain ⟨e1, e2, e3, e4, e5, e6, e7⟩ := h1
  refine satX_of fun hl => ?_
  have ht : t0 ≤ o.st.tk := by
    cases o with
    | spec c κ st k => exact hl.1
    | _ => cases e1
  exact sat_specF (kt := ktw w) (D := D) (K := K) hfr hfl (by rw [e1, e2, e3, e4, e5, e6]) e7 nd hD hA hdep P (hlo ht) C ok fun r E2 gl2 n2 tk2 le p q P B => satX_to (G r E2 gl2 n2 tk2 (Nat.le_trans ht le) le p q P B) (later_go hl (so o idx r E2 n2 tk2 gl2) P B)
theorem satX_mono {V : XV} {h : Heap} {A0 : List Nat} {t0 t1 : Nat} {o : Out} (le : t0 ≤ t1) (x : SatX V h A0 d os t0 o) : SatX V h A0 d os t1 o := satX_of fun hl => satX_to x (later_mono le hl)
theorem sat_specV {D D' K : Nat} {o : Out} {idx : List Nat} {c : Code} {E1 : List (Nat × Obj)} {gl1 : List GenState} {Post1 : Result → List (Nat × Obj) → List GenState → Prop}
    (h1 : vS idx o = vSR c K E1 gl1 o) (C : Spc w D' c gl1 E1 Post1) (nd : idx.Nodup) (hD : K + D' ≤ D)
    (hA : A.handled = none) (hdep : Room A D) (P : Pre (ktw w) h E)
    (ok : ∀ r E2 gl2, Post1 r E2 gl2 → (E2.take idx.length).map (·.1) = E1.map (·.1) ∧ ltOk (E2.drop idx.length) o.st.m (setL o.st.T idx E2) = true)
    (G : ∀ r E2 gl2 n2 tk2, Post1 r E2 gl2 → (∀ p ∈ E2.drop idx.length, ∃ y, p.1 = y + 178) → ∀ P B, SatX (vOf pw w A R) h (E.map (·.1)) d os t0 (o.go (so o idx r E2 n2 tk2 gl2) P B)) :
    SatX (vOf pw w A R) h (E.map (·.1)) d os t0 o :=
  sat_specT h1 (fun _ => Nat.zero_le _) C nd hD hA hdep P (fun _ => ok) fun r E2 gl2 n2 tk2 le _ p q P B => satX_mono le (G r E2 gl2 n2 tk2 p q P B)
theorem sat_nextT {D lo : Nat} {o : Out} {idx : List Nat} {c : Code} {E1 : List (Nat × Obj)} {gl1 : List GenState} {Post1 : Nat → Result → List (Nat × Obj) → List GenState → Prop}
    (h1 : vN idx o = vNR c E1 gl1 o) (hlo : t0 ≤ o.st.tk → lo ≤ o.st.tk) (C : SpcT w D lo c gl1 E1 Post1) (nd : idx.Nodup) (hA : A.handled = none) (hdep : Room A D) (P : Pre (ktw w) h E)
    (K : ∀ r h' E2 gl2 tk', t0 ≤ tk' → Fra h h' E E2 → Post1 tk' r E2 gl2 → R r ⟨h', ⟨gl2⟩, d, tk', os⟩) : SatX (vOf pw w A R) h (E.map (·.1)) d os t0 o := by
  unfold vN vNR at h1
  simp only [Prod.mk.injEq] at h1
  obtain ⟨e1, e2, e3, e4, e5⟩ := h1
  refine satX_of fun hl => (sat_next (kt := ktw w) (D := D) (by rw [e1, e2, e3, e4]) e5 nd hl (hlo ?_) C hA hdep P K)
  cases o with
  | next c st => exact hl
  | _ => cases e1
theorem sat_nextV {D : Nat} {o : Out} {idx : List Nat} {c : Code} {E1 : List (Nat × Obj)} {gl1 : List GenState} {Post1 : Result → List (Nat × Obj) → List GenState → Prop}
    (h1 : vN idx o = vNR c E1 gl1 o) (C : Spc w D c gl1 E1 Post1) (nd : idx.Nodup) (hA : A.handled = none) (hdep : Room A D) (P : Pre (ktw w) h E)
    (K : ∀ r h' E2 gl2 tk', t0 ≤ tk' → Fra h h' E E2 → Post1 r E2 gl2 → R r ⟨h', ⟨gl2⟩, d, tk', os⟩) : SatX (vOf pw w A R) h (E.map (·.1)) d os t0 o :=
  sat_nextT h1 (fun _ => Nat.zero_le _) C nd hA hdep P K
/-- a code that runs to its end at once, from a view that shows the marks -/
theorem spcT_view {w : World} {D lo : Nat} {c : Code} {gl : List GenState} {E : List (Nat × Obj)} {Post : Nat → Result → List (Nat × Obj) → List GenState → Prop} (sp : Code → Bool) (f : Nat) (oc : List Nat) (m : Nat) (idx : List Nat)
    (H : ∀ n tk P B, lo ≤ tk → ∃ r E' gl' t', vLt idx (go w sp f c oc P B E m n tk gl) = (vR r E' gl' (go w sp f c oc P B E m n tk gl), t') ∧ (tk ≤ t' → Post t' r E' gl'))
    (hm : E.length = m) (ok : ltOk E 0 .nil = true) (nd : idx.Nodup) (hD : 100 ≤ D) : SpcT w D lo c gl E Post := by
  refine spcT_of sp f oc m hm ok hD fun A R h d tk os hA hdep P hlo K n Ps B => ?_
  obtain ⟨r, E', gl', t', e, p⟩ := H n tk Ps B hlo
  exact sat_retT e nd fun h' le F => K r h' E' gl' t' le F (p le)
/-- a code that runs to its end at once, behind a prefix of the generators' table -/
theorem spcT_viewB {w : World} {D lo : Nat} {c : Code} {gl : List GenState} {E : List (Nat × Obj)} {Post : Nat → Result → List (Nat × Obj) → List GenState → Prop} (nx : List (LT → Nx)) (hrw : ∀ g ∈ nx, ∀ T p, (g T).pr = some p → p.1 = p.2) (f : Nat) (oc : List Nat) (m : Nat) (idx : List Nat)
    (H : ∀ n tk P B, lo ≤ tk → ∃ r E' gl' t', vLt idx (goB w gl.length nx none f c oc P B E m n tk) = (vR r E' gl' (goB w gl.length nx none f c oc P B E m n tk), t') ∧ (tk ≤ t' → Post t' r E' (gl ++ gl')))
    (hm : E.length = m) (ok : ltOk E 0 .nil = true) (nd : idx.Nodup) (hD : 100 ≤ D) : SpcT w D lo c gl E Post := by
  subst hm
  have z : SpcT w D lo c (gl ++ []) E Post := spec_of gl (cfgB w gl.length nx none) rfl hrw rfl denF_is rfl ok hD f oc fun A R h d tk os hA hdep P hlo K n Ps B => by
    obtain ⟨r, E', gl', t', e, p⟩ := H n tk Ps B hlo
    have hl := later_ofB w gl.length nx none f c oc Ps B E E.length n tk
    unfold vLt vL vR at e
    simp only [Prod.mk.injEq] at e
    obtain ⟨⟨e1, e2, e3, e4, e5⟩, e6⟩ := e
    have y := sat_retB (prog := pw) (w := w) (A := A) (R := R) (d := d) (os := os) (h := h) (E := E) (bs := gl) (t0 := tk) (by rw [e1, e2, e3, e4]) e5 nd hl e6 fun h' le F => K r h' E' (gl ++ gl') t' le F (p le)
    unfold goB at y
    exact y
  rw [List.append_nil] at z
  exact z
/-- a code that runs to its end at once, behind a prefix of the generators' table, under known frames -/
theorem spcF_viewB {fl : List Env} {w : World} {D lo : Nat} {c : Code} {gl : List GenState} {E : List (Nat × Obj)} {Post : Nat → Result → List (Nat × Obj) → List GenState → Prop} (nx : List (LT → Nx)) (hrw : ∀ g ∈ nx, ∀ T p, (g T).pr = some p → p.1 = p.2) (f : Nat) (oc : List Nat) (m : Nat) (idx : List Nat)
    (H : ∀ n tk P B, lo ≤ tk → ∃ r E' gl' t', vLt idx (goB w gl.length nx (some fl) f c oc P B E m n tk) = (vR r E' gl' (goB w gl.length nx (some fl) f c oc P B E m n tk), t') ∧ (tk ≤ t' → Post t' r E' (gl ++ gl')))
    (hm : E.length = m) (ok : ltOk E 0 .nil = true) (nd : idx.Nodup) (hD : 100 ≤ D) : SpcF w fl D lo c gl E Post := by
  subst hm
  have z : SpcF w fl D lo c (gl ++ []) E Post := spec_ofF gl (cfgB w gl.length nx (some fl)) rfl hrw rfl denF_is rfl ok hD f oc fun A R h d tk os hA _ hdep P hlo K n Ps B => by
    obtain ⟨r, E', gl', t', e, p⟩ := H n tk Ps B hlo
    have hl := later_ofB w gl.length nx (some fl) f c oc Ps B E E.length n tk
    unfold vLt vL vR at e
    simp only [Prod.mk.injEq] at e
    obtain ⟨⟨e1, e2, e3, e4, e5⟩, e6⟩ := e
    have y := sat_retB (prog := pw) (w := w) (A := A) (R := R) (d := d) (os := os) (h := h) (E := E) (bs := gl) (t0 := tk) (by rw [e1, e2, e3, e4]) e5 nd hl e6 fun h' le F => K r h' E' (gl ++ gl') t' le F (p le)
    unfold goB at y
    exact y
  rw [List.append_nil] at z
  exact z
end
end Mine
end
section
set_option maxRecDepth 100000
namespace Mine
open PySem PySem.Spec PySem.Calls PyProof.Rows PySem.W PySem.W.X
noncomputable def defNamed (n : List Nat) : Stmt → Bool
  | .FunctionDef name .. => name.cps.toList == n
  | _ => false
/-- a def's parts, by its place in a list of statements -/
noncomputable def defArgs : Option Stmt → Arguments
  | some (.FunctionDef _ a ..) => a
  | _ => default
noncomputable def defBody : Option Stmt → List Stmt
  | some (.FunctionDef _ _ b ..) => b
  | _ => []
noncomputable def defScope : Option Stmt → Scope
  | some (.FunctionDef _ _ _ _ _ _ s ..) => s
  | _ => default
noncomputable def topAt (i : Nat) : Option Stmt := pw.main.body[i]?
noncomputable def lexAt (i : Nat) : Option Stmt := (defBody (topAt 15))[i]?

noncomputable def rdFd (cp ca c1 ct : Nat) (t : Nat) : FuncData := { name := ⟨#[95, 108, 97, 119, 95, 114, 101, 97, 100, 95, 111, 110]⟩, qualname := ⟨#[95, 108, 97, 119, 95, 108, 101, 120, 101, 114, 46, 60, 108, 111, 99, 97, 108, 115, 62, 46, 95, 108, 97, 119, 95, 114, 101, 97, 100, 95, 111, 110]⟩, params := defArgs (lexAt 1), body := .stmts (defBody (lexAt 1)), scope := defScope (lexAt 1), globals := 3, closure := [(⟨#[112, 97, 103, 101]⟩, cp + 178), (⟨#[97, 116]⟩, ca + 178)], defaults := .none, kwdefaults := .none, doc := .none, pyModule := .str ⟨#[108, 97, 119, 95, 119, 107, 48, 48, 49, 54, 95, 48, 49]⟩ t, annotations := none, code := .ref (c1 + 178), closureTuple := .ref (ct + 178), builtins := 0 }
noncomputable def rdO (cp ca c1 ct t : Nat) : Obj := { cls := .type "function", data := .func (rdFd cp ca c1 ct t) }
noncomputable def fO (d : Nat) (dt : FuncData) : Obj := { cls := .type "function", dict := some (d + 178), data := .func dt }
noncomputable def fdO (h : Int) (t rd : Nat) : Obj := dct [(h, [114, 101, 97, 100], t, .ref (rd + 178))] 1
noncomputable def cellO (v : Value) : Obj := { cls := .type "cell", data := .cell (some v) }
noncomputable def pageL : List Nat := [46, 10, 34, 46, 34, 32, 92, 46, 10, 46, 10, 34, 46, 34, 32, 92, 46, 10, 46, 10, 34, 46, 34, 32, 92, 46, 10, 46, 10, 34, 46, 34, 32, 92, 46, 10, 46, 10, 34, 46, 34, 32, 92, 46, 10]
noncomputable def pageV (t : Nat) : Value := .str ⟨pageL.toArray⟩ t
noncomputable def codeO (a t : Nat) (r : List Value) : Obj := { cls := .type "code", data := .fields (.str ⟨#[95, 108, 97, 119, 95, 114, 101, 97, 100, 95, 111, 110]⟩ a :: .str ⟨#[95, 108, 97, 119, 95, 108, 101, 120, 101, 114, 46, 60, 108, 111, 99, 97, 108, 115, 62, 46, 95, 108, 97, 119, 95, 114, 101, 97, 100, 95, 111, 110]⟩ t :: r).toArray }
noncomputable def lxd (h1 h2 h3 h4 : Int) (t1 t2 t3 t4 t5 t6 : Nat) (ln : Int) (f z : Nat) : Obj := dct [(h1, [108, 105, 110, 101, 110, 111], t1, .int ln t5), (h2, [105, 110, 115, 116, 114, 101, 97, 109], t2, .ref (f + 178)), (h3, [119, 104, 105, 116, 101, 115, 112, 97, 99, 101], t3, .str ⟨#[10, 9, 13, 32]⟩ t6), (h4, [112, 117, 115, 104, 98, 97, 99, 107], t4, .ref (z + 178))] 4
/-- what the reading closure needs: itself, its cells, the list at, its code -/
noncomputable abbrev rdE (rd cp ca al c1 ct t tp ta ea : Nat) (a t1 : Nat) (r : List Value) (p : Int) : List (Nat × Obj) :=
  [(rd + 178, rdO cp ca c1 ct t), (cp + 178, cellO (pageV tp)), (ca + 178, cellO (.ref (al + 178))), (al + 178, lst [.int p ta] ea), (c1 + 178, codeO a t1 r)]
end Mine
end
section
set_option maxRecDepth 100000
set_option maxHeartbeats 0
namespace Mine
open PySem PySem.Spec PySem.Calls PyProof.Rows PySem.W PySem.W.X
noncomputable abbrev rdOc : List Nat := [1, 5, 6, 6, 1, 2, 3, 4, 4, 4, 4, 4, 3, 4, 4, 4, 4, 4, 6, 7, 7, 7, 7, 6, 6, 3, 4, 4, 4, 4, 4, 0, 0, 6, 3, 4, 4, 4, 4, 4, 4, 6]
theorem rd_runs (b1 b2 : Bool) (w : World) (rd cp ca al c1 ct t tp ta ea a t1 ts : Nat) (r : List Value) (n tk : Nat) (P : Nat → Pos) (B : Nat → List (Code × Pos)) (gl : List GenState) :
    tab (fun p => vLt [0, 1, 2, 3, 4] (go (fol b1 b2 w) spN 1000 (.call (.ref (rd + 178)) ⟨[.int 1 ts], []⟩) rdOc P B (rdE rd cp ca al c1 ct t tp ta ea a t1 r (.ofNat p)) 5 n tk gl)) 41 =
    tab2 (fun p => (vR (.ok (.ret (.str ⟨#[pageL.getD p 0]⟩ (tk + 4)))) (rdE rd cp ca al c1 ct t tp (tk + 9) ea a t1 r (.ofNat (p + 1))) gl (go (fol b1 b2 w) spN 1000 (.call (.ref (rd + 178)) ⟨[.int 1 ts], []⟩) rdOc P B (rdE rd cp ca al c1 ct t tp ta ea a t1 r (.ofNat p)) 5 n tk gl), tk + 11)) 41 := by kernel_rfl

theorem rd_spec (w : World) (rd cp ca al c1 ct t tp ta ea a t1 ts : Nat) (r : List Value) (gl : List GenState) (p : Nat) (hp : p < 41) :
    SpcT w 100 0 (.call (.ref (rd + 178)) ⟨[.int 1 ts], []⟩) gl (rdE rd cp ca al c1 ct t tp ta ea a t1 r (.ofNat p))
      (fun tk' x E2 gl2 => ∃ t9 ta', x = .ok (.ret (.str ⟨#[pageL.getD p 0]⟩ t9)) ∧ E2 = rdE rd cp ca al c1 ct t tp ta' ea a t1 r (.ofNat (p + 1)) ∧ gl2 = gl ∧ InT tk' t9) :=
  spcT_fol fun b1 b2 => spcT_view spN 1000 rdOc 5 [0, 1, 2, 3, 4] (fun n tk P B _ => ⟨_, _, _, tk + 11, tab_get (rd_runs b1 b2 w rd cp ca al c1 ct t tp ta ea a t1 ts r n tk P B gl) p hp, fun _ => ⟨tk + 4, tk + 9, rfl, rfl, rfl, InT.add (by decide) (by decide)⟩⟩) rfl rfl (by decide) (by decide)
end Mine
end
section
set_option maxRecDepth 100000
set_option maxHeartbeats 0
namespace Mine
open PySem PySem.Spec PySem.Calls PyProof.Rows PySem.W PySem.W.X
noncomputable def spR : Code → Bool := fun c => match c with | .call (.ref a) ⟨[.int _ _], _⟩ => !(isOld a) | _ => false
/-- a lexer's objects (but its queue): itself, its dict, the stream, the stream's dict, the reading closure's -/
noncomputable abbrev lxE (x y z f fd rd cp ca al c1 : Nat) (hs : Int × Int × Int × Int × Int) (ts : Nat × Nat × Nat × Nat × Nat × Nat) (t7 ct t tp ea a t1 : Nat) (dt : FuncData) (r : List Value) (t5 ta : Nat) (ln p : Int) : List (Nat × Obj) :=
  [(x + 178, inst 52 (y + 178)), (y + 178, lxd hs.1 hs.2.1 hs.2.2.1 hs.2.2.2.1 ts.1 ts.2.1 ts.2.2.1 ts.2.2.2.1 t5 ts.2.2.2.2.1 ln f z), (f + 178, fO fd dt), (fd + 178, fdO hs.2.2.2.2 ts.2.2.2.2.2 rd)] ++ rdE rd cp ca al c1 ct t tp ta ea a t1 r p
noncomputable abbrev rcOc : List Nat := [0, 0, 10, 10, 1, 10, 1, 0, 0, 0, 1, 0, 0, 0, 1, 1, 0, 2, 3, 3, 3, 3, 3, 3, 3, 3, 4, 5, 10, 10, 10, 10, 1, 0, 0, 0, 1, 0, 0, 0, 1, 1, 0, 2, 1, 0, 0, 0, 1, 0, 1, 0, 1, 0, 0, 0, 1, 0, 2, 2, 2, 10]
noncomputable abbrev rcO (w : World) (x y z f fd rd cp ca al c1 : Nat) (hs : Int × Int × Int × Int × Int) (ts : Nat × Nat × Nat × Nat × Nat × Nat) (t7 ct t tp ea a t1 : Nat) (dt : FuncData) (r : List Value) (t5 ta : Nat) (ln p : Int) (n tk : Nat) (P : Nat → Pos) (B : Nat → List (Code × Pos)) (gl : List GenState) : Out :=
  go w spR 1000 (.call (.ref 35) ⟨[.ref (x + 178)], []⟩) rcOc P B (lxE x y z f fd rd cp ca al c1 hs ts t7 ct t tp ea a t1 dt r t5 ta ln p) 9 n tk gl
end Mine
end
section
set_option maxRecDepth 100000
set_option maxHeartbeats 0
namespace Mine
open PySem PySem.Spec PySem.Calls PyProof.Rows PySem.W PySem.W.X
section
variable (b1 b2 : Bool) (w : World) (x y z f fd rd cp ca al c1 : Nat) (hs : Int × Int × Int × Int × Int) (ts : Nat × Nat × Nat × Nat × Nat × Nat) (t7 ct t tp ea a t1 : Nat) (dt : FuncData) (r : List Value) (t5 ta : Nat) (ln p : Int) (n tk : Nat) (P : Nat → Pos) (B : Nat → List (Code × Pos)) (gl : List GenState)
noncomputable def chL : List Nat := [46, 10, 34, 32, 92]
theorem rc_runs (n2 tk2 ta' t9 : Nat) (p' : Int) (P' : Nat → Pos) (B' : Nat → List (Code × Pos)) :
    vS [4, 5, 6, 7, 8] (rcO (fol b1 b2 w) x y z f fd rd cp ca al c1 hs ts t7 ct t tp ea a t1 dt r t5 ta ln p n tk P B gl) =
      vSR (.call (.ref (rd + 178)) ⟨[.int 1 (tk + 3)], []⟩) 1 (rdE rd cp ca al c1 ct t tp ta ea a t1 r p) gl (rcO (fol b1 b2 w) x y z f fd rd cp ca al c1 hs ts t7 ct t tp ea a t1 dt r t5 ta ln p n tk P B gl) ∧
    tab (fun j => vL [0, 1, 2, 3, 4, 5, 6, 7, 8] ((rcO (fol b1 b2 w) x y z f fd rd cp ca al c1 hs ts t7 ct t tp ea a t1 dt r t5 ta ln p n tk P B gl).go (so (rcO (fol b1 b2 w) x y z f fd rd cp ca al c1 hs ts t7 ct t tp ea a t1 dt r t5 ta ln p n tk P B gl) [4, 5, 6, 7, 8] (.ok (.ret (.str ⟨#[chL.getD j 0]⟩ t9))) (rdE rd cp ca al c1 ct t tp ta' ea a t1 r p') n2 tk2 gl) P' B')) 5 =
    tab2 (fun j => vR (.ok (.ret (.str ⟨#[chL.getD j 0]⟩ t9))) (lxE x y z f fd rd cp ca al c1 hs ts t7 ct t tp ea a t1 dt r (cond (Nat.beq j 1) (tk2 + 4) t5) ta' (cond (Nat.beq j 1) (ln + 1) ln) p') gl ((rcO (fol b1 b2 w) x y z f fd rd cp ca al c1 hs ts t7 ct t tp ea a t1 dt r t5 ta ln p n tk P B gl).go (so (rcO (fol b1 b2 w) x y z f fd rd cp ca al c1 hs ts t7 ct t tp ea a t1 dt r t5 ta ln p n tk P B gl) [4, 5, 6, 7, 8] (.ok (.ret (.str ⟨#[chL.getD j 0]⟩ t9))) (rdE rd cp ca al c1 ct t tp ta' ea a t1 r p') n2 tk2 gl) P' B')) 5 := by
  cases b1 <;> exact ⟨by kernel_rfl, by kernel_rfl⟩
end
end Mine
end
section
set_option maxRecDepth 100000
set_option maxHeartbeats 400000
namespace Mine
open PySem PySem.Spec PySem.Calls PyProof.Rows PySem.W PySem.W.X
noncomputable def nlOf (p : Nat) : Nat := cond (Nat.beq (pageL.getD p 0) 10) 1 0
theorem ch_idx : ∀ p, p < 41 → ∃ j, j < 5 ∧ pageL.getD p 0 = chL.getD j 0 ∧ Nat.beq j 1 = Nat.beq (pageL.getD p 0) 10 := by
  intro p hp
  have : ∀ q : Fin 41, ∃ j : Fin 5, pageL.getD q.1 0 = chL.getD j.1 0 ∧ Nat.beq j.1 1 = Nat.beq (pageL.getD q.1 0) 10 := by decide
  obtain ⟨j, h1, h2⟩ := this ⟨p, hp⟩
  exact ⟨j.1, j.2, h1, h2⟩
theorem rc_spec (w : World) (x y z f fd rd cp ca al c1 : Nat) (hs : Int × Int × Int × Int × Int) (ts : Nat × Nat × Nat × Nat × Nat × Nat) (t7 ct t tp ea a t1 : Nat) (dt : FuncData) (r : List Value) (t5 ta : Nat) (ln : Int) (gl : List GenState) (p : Nat) (hp : p < 41) :
    SpcT w 110 0 (.call (.ref 35) ⟨[.ref (x + 178)], []⟩) gl (lxE x y z f fd rd cp ca al c1 hs ts t7 ct t tp ea a t1 dt r t5 ta ln (.ofNat p))
      (fun tk' v E2 gl2 => ∃ t9 t5' ta', v = .ok (.ret (.str ⟨#[pageL.getD p 0]⟩ t9)) ∧ E2 = lxE x y z f fd rd cp ca al c1 hs ts t7 ct t tp ea a t1 dt r t5' ta' (ln + .ofNat (nlOf p)) (.ofNat (p + 1)) ∧ gl2 = gl ∧ InT tk' t9) := by
  refine spcT_fol fun b1 b2 => spcT_of spR 1000 rcOc 9 rfl (by kernel_rfl) (by decide) fun A R h d tk os hA hdep Pr _ K n P B => ?_
  have h1 := fun P' B' n2 tk2 ta' t9 p' => (rc_runs b1 b2 w x y z f fd rd cp ca al c1 hs ts t7 ct t tp ea a t1 dt r t5 ta ln (.ofNat p) n tk P B gl n2 tk2 ta' t9 p' P' B')
  have C := rd_spec (fol b1 b2 w) rd cp ca al c1 ct t tp ta ea a t1 (tk + 3) r gl p hp
  have h2 := (h1 P B 0 0 0 0 0).1
  refine sat_specT (D := 110) h2 (fun _ => Nat.zero_le _) C (by decide) (by decide) hA hdep Pr ?_ ?_
  · rintro _ _ _ _ ⟨t9, ta', rfl, rfl, rfl, _⟩
    exact ⟨rfl, rfl⟩
  · rintro _ _ _ n2 tk2 le1 _ ⟨t9, ta', rfl, rfl, rfl, lt⟩ _ P' B'
    obtain ⟨j, hj, e1, e2⟩ := ch_idx p hp
    have z := tab_get (h1 P' B' n2 tk2 ta' t9 (.ofNat (p + 1))).2 j hj
    rw [← e1] at z
    refine sat_retV z (by decide) fun h' tk' le F => K _ _ _ _ _ (Nat.le_trans le1 le) F ⟨t9, cond (Nat.beq j 1) (tk2 + 4) t5, ta', rfl, ?_, rfl, lt.mono le⟩
    have : ln + Int.ofNat (nlOf p) = cond (Nat.beq j 1) (ln + 1) ln := by
      unfold nlOf
      rw [← e2]
      cases Nat.beq j 1
      · exact Int.add_zero ln
      · rfl
    rw [this]
end Mine
end
section
set_option genInjectivity false
set_option maxRecDepth 100000
set_option maxHeartbeats 400000
namespace Mine
open PySem PySem.Spec PySem.Calls PyProof.Rows PySem.W PySem.W.X
/-- what of a lexer does not turn -/
structure Lx where
  x : Nat
  y : Nat
  z : Nat
  f : Nat
  fd : Nat
  rd : Nat
  cp : Nat
  ca : Nat
  al : Nat
  c1 : Nat
  h1 : Int
  h2 : Int
  h3 : Int
  h4 : Int
  h5 : Int
  t1 : Nat
  t2 : Nat
  t3 : Nat
  t4 : Nat
  t6 : Nat
  t8 : Nat
  ct : Nat
  t : Nat
  tp : Nat
  ea : Nat
  a : Nat
  b : Nat
  dt : FuncData
  r : List Value
noncomputable abbrev lexE (L : Lx) (t5 ta : Nat) (ln p : Int) : List (Nat × Obj) :=
  lxE L.x L.y L.z L.f L.fd L.rd L.cp L.ca L.al L.c1 (L.h1, L.h2, L.h3, L.h4, L.h5) (L.t1, L.t2, L.t3, L.t4, L.t6, L.t8) 0 L.ct L.t L.tp L.ea L.a L.b L.dt L.r t5 ta ln p
noncomputable abbrev rcC (L : Lx) : Code := .call (.ref 35) ⟨[.ref (L.x + 178)], []⟩
theorem rcL (w : World) (L : Lx) (t5 ta : Nat) (ln : Int) (gl : List GenState) (p : Nat) (hp : p < 41) :
    SpcT w 110 0 (rcC L) gl (lexE L t5 ta ln (.ofNat p))
      (fun tk' v E2 gl2 => ∃ t9 t5' ta', v = .ok (.ret (.str ⟨#[pageL.getD p 0]⟩ t9)) ∧ E2 = lexE L t5' ta' (ln + .ofNat (nlOf p)) (.ofNat (p + 1)) ∧ gl2 = gl ∧ InT tk' t9) :=
  rc_spec w L.x L.y L.z L.f L.fd L.rd L.cp L.ca L.al L.c1 (L.h1, L.h2, L.h3, L.h4, L.h5) (L.t1, L.t2, L.t3, L.t4, L.t6, L.t8) 0 L.ct L.t L.tp L.ea L.a L.b L.dt L.r t5 ta ln gl p hp
noncomputable def spC : Code → Bool := fun c => match c with | .call (.ref 35) _ => true | _ => false
noncomputable abbrev gtE (L : Lx) (t5 ta : Nat) (ln p : Int) (vs : List Value) (k : Nat) : List (Nat × Obj) := lexE L t5 ta ln p ++ [(L.z + 178, lst vs k)]
noncomputable abbrev gtC (L : Lx) : Code := .call (.ref 42) ⟨[.ref (L.x + 178)], []⟩
/-- a piece's unknowns behind a call: heap, toks, positions -/
structure Ub where
  n : Nat
  tk : Nat
  P : Nat → Pos
  B : Nat → List (Code × Pos)
  t5 : Nat
  ta : Nat
  ln : Int
  p : Int
  τ : Nat
noncomputable abbrev i9 : List Nat := [0, 1, 2, 3, 4, 5, 6, 7, 8]
noncomputable def gtN (o : Out) (L : Lx) (gl : List GenState) (ch : Nat) (U : Ub) : Out := o.go (so o i9 (.ok (.ret (.str ⟨#[ch]⟩ U.τ))) (lexE L U.t5 U.ta U.ln U.p) U.n U.tk gl) U.P U.B
noncomputable abbrev gtOc0 : List Nat := [0, 0, 11, 11, 1, 11, 1, 0, 0, 0, 1, 0, 0, 0, 1, 1, 0, 2, 10, 10, 10, 10, 10, 11, 11, 0, 0, 11, 1, 0, 0, 0, 1, 0, 0, 0, 0, 0, 0, 1, 1, 0, 2, 0, 0, 0, 0, 12, 11, 11, 11, 13, 13, 13, 13, 13, 13, 13, 13, 12, 0, 12, 13, 13, 11, 11, 11, 11, 1, 0, 0, 0, 1, 0, 0, 0, 1, 1, 0, 2, 11, 11, 11, 11, 11, 11, 11, 13, 13, 13, 13, 13, 13, 13, 13, 12, 0, 12, 13, 13, 11, 11, 11, 11, 1, 0, 0, 0, 1, 0, 0, 0, 1, 1, 0, 2, 11]
noncomputable abbrev gtOc1 : List Nat := [0, 0, 11, 11, 1, 11, 1, 0, 0, 0, 1, 0, 0, 0, 1, 1, 0, 2, 10, 10, 10, 10, 10, 11, 11, 0, 0, 11, 1, 0, 0, 0, 1, 0, 0, 0, 0, 0, 0, 1, 1, 0, 2, 0, 0, 0, 0, 12, 11, 11, 11, 13, 13, 13, 13, 13, 13, 13, 13, 12, 0, 12, 13, 13, 11, 11, 11, 11, 1, 0, 0, 0, 1, 0, 0, 0, 1, 1, 0, 2, 11, 11, 13, 13, 13, 13, 13, 13, 13, 13, 12, 0, 12, 13, 13, 11, 11, 11, 11, 11, 11, 11, 11, 13, 13, 13, 13, 12, 0, 12, 13, 13, 11, 11, 11, 11]
noncomputable abbrev gtOc2 : List Nat := [0, 0, 11, 11, 1, 11, 1, 0, 0, 0, 1, 0, 0, 0, 1, 1, 0, 2, 10, 10, 10, 10, 10, 11, 11, 0, 0, 11, 1, 0, 0, 0, 1, 0, 0, 0, 0, 0, 0, 1, 1, 0, 2, 0, 0, 0, 0, 12, 11, 11, 11, 13, 13, 13, 13, 13, 13, 13, 13, 12, 0, 12, 13, 13, 11, 11, 11, 11, 1, 0, 0, 0, 1, 0, 0, 0, 1, 1, 0, 2, 13, 13, 13, 13, 12, 0, 12, 13, 13, 11, 11, 11, 11, 1, 0, 0, 0, 1, 0, 0, 0, 1, 1, 0, 2, 11, 11, 11, 1, 0, 0, 0, 1, 0, 0, 0, 1, 0, 0, 0, 0, 1, 2, 0, 11, 11, 11, 11, 11, 11, 11, 13, 13, 13, 13, 13, 13, 13, 13, 12, 0, 12, 13, 13, 11, 11, 11, 11, 1, 0, 0, 0, 1, 0, 0, 0, 1, 1, 0, 2, 11]
noncomputable abbrev gtOcP : List Nat := [0, 0, 11, 11, 1, 11, 1, 0, 0, 0, 1, 0, 0, 0, 1, 1, 0, 2, 10, 10, 10, 10, 10, 11, 1, 0, 0, 0, 1, 0, 0, 0, 1, 1, 0, 2, 10, 10, 10, 10, 10, 10, 10, 10, 10]
noncomputable def gt0 (w : World) (oc : List Nat) (L : Lx) (gl : List GenState) (vs : List Value) (k : Nat) (U : Ub) : Out := go w spC 2000 (gtC L) oc U.P U.B (gtE L U.t5 U.ta U.ln U.p vs k) 10 U.n U.tk gl
end Mine
end
section
set_option maxRecDepth 100000
set_option maxHeartbeats 400000
namespace Mine
open PySem PySem.Spec PySem.Calls PyProof.Rows PySem.W PySem.W.X
noncomputable def sv (q : Str × Nat) : Value := .str q.1 q.2
noncomputable def qs (q : Nat → Str × Nat) : Nat → Nat → List Value
  | _, 0 => []
  | s, n + 1 => sv (q s) :: qs q (s + 1) n
noncomputable def qE (q : Nat → Str × Nat) : Nat → Nat → Value → List Value
  | _, 0, v => [v]
  | s, n + 1, v => sv (q s) :: qE q (s + 1) n v
theorem qs_list : ∀ (l : List (Str × Nat)) (q : Nat → Str × Nat) (s : Nat), (∀ i, l.getD i default = q (s + i)) → qs q s l.length = l.map sv
  | [], _, _, _ => rfl
  | a :: l, q, s, h => by
    show sv (q s) :: qs q (s + 1) l.length = sv a :: l.map sv
    rw [qs_list l q (s + 1) fun i => by have := h (i + 1); simpa [Nat.add_assoc, Nat.add_comm 1] using this]
    have := h 0
    simp at this
    rw [this]
theorem qE_list : ∀ (l : List (Str × Nat)) (q : Nat → Str × Nat) (s : Nat) (v : Value), (∀ i, l.getD i default = q (s + i)) → qE q s l.length v = l.map sv ++ [v]
  | [], _, _, _, _ => rfl
  | a :: l, q, s, v, h => by
    show sv (q s) :: qE q (s + 1) l.length v = sv a :: (l.map sv ++ [v])
    rw [qE_list l q (s + 1) v fun i => by have := h (i + 1); simpa [Nat.add_assoc, Nat.add_comm 1] using this]
    have := h 0
    simp at this
    rw [this]
section
variable (b1 b2 : Bool) (w : World) (L : Lx) (gl : List GenState) (k : Nat) (U0 U1 U2 U3 U4 : Ub)
theorem gt_runs0 :
    vS i9 (gt0 (fol b1 b2 w) gtOc0 L gl [] k U0) = vSR (rcC L) 6 (lexE L U0.t5 U0.ta U0.ln U0.p) gl (gt0 (fol b1 b2 w) gtOc0 L gl [] k U0) ∧
    vS i9 (gtN (gt0 (fol b1 b2 w) gtOc0 L gl [] k U0) L gl 46 U1) = vSR (rcC L) 6 (lexE L U1.t5 U1.ta U1.ln U1.p) gl (gtN (gt0 (fol b1 b2 w) gtOc0 L gl [] k U0) L gl 46 U1) ∧
    vL (i9 ++ [9]) (gtN (gtN (gt0 (fol b1 b2 w) gtOc0 L gl [] k U0) L gl 46 U1) L gl 10 U2) = vR (.ok (.ret (.str ⟨#[46]⟩ U1.τ))) (gtE L U2.t5 U2.ta U2.ln U2.p [] k) gl (gtN (gtN (gt0 (fol b1 b2 w) gtOc0 L gl [] k U0) L gl 46 U1) L gl 10 U2) := by
  cases b1 <;> exact ⟨by kernel_rfl, by kernel_rfl, by kernel_rfl⟩
theorem gt_runs1 :
    vS i9 (gt0 (fol b1 b2 w) gtOc1 L gl [] k U0) = vSR (rcC L) 6 (lexE L U0.t5 U0.ta U0.ln U0.p) gl (gt0 (fol b1 b2 w) gtOc1 L gl [] k U0) ∧
    vS i9 (gtN (gt0 (fol b1 b2 w) gtOc1 L gl [] k U0) L gl 34 U1) = vSR (rcC L) 6 (lexE L U1.t5 U1.ta U1.ln U1.p) gl (gtN (gt0 (fol b1 b2 w) gtOc1 L gl [] k U0) L gl 34 U1) ∧
    vS i9 (gtN (gtN (gt0 (fol b1 b2 w) gtOc1 L gl [] k U0) L gl 34 U1) L gl 46 U2) = vSR (rcC L) 6 (lexE L U2.t5 U2.ta U2.ln U2.p) gl (gtN (gtN (gt0 (fol b1 b2 w) gtOc1 L gl [] k U0) L gl 34 U1) L gl 46 U2) ∧
    vL (i9 ++ [9]) (gtN (gtN (gtN (gt0 (fol b1 b2 w) gtOc1 L gl [] k U0) L gl 34 U1) L gl 46 U2) L gl 34 U3) = vR (.ok (.ret (.str ⟨#[46]⟩ U2.τ))) (gtE L U3.t5 U3.ta U3.ln U3.p [] k) gl (gtN (gtN (gtN (gt0 (fol b1 b2 w) gtOc1 L gl [] k U0) L gl 34 U1) L gl 46 U2) L gl 34 U3) := by
  cases b1 <;> exact ⟨by kernel_rfl, by kernel_rfl, by kernel_rfl, by kernel_rfl⟩
theorem gt_runs2 :
    vS i9 (gt0 (fol b1 b2 w) gtOc2 L gl [] k U0) = vSR (rcC L) 6 (lexE L U0.t5 U0.ta U0.ln U0.p) gl (gt0 (fol b1 b2 w) gtOc2 L gl [] k U0) ∧
    vS i9 (gtN (gt0 (fol b1 b2 w) gtOc2 L gl [] k U0) L gl 32 U1) = vSR (rcC L) 6 (lexE L U1.t5 U1.ta U1.ln U1.p) gl (gtN (gt0 (fol b1 b2 w) gtOc2 L gl [] k U0) L gl 32 U1) ∧
    vS i9 (gtN (gtN (gt0 (fol b1 b2 w) gtOc2 L gl [] k U0) L gl 32 U1) L gl 92 U2) = vSR (rcC L) 1 (lexE L U2.t5 U2.ta U2.ln U2.p) gl (gtN (gtN (gt0 (fol b1 b2 w) gtOc2 L gl [] k U0) L gl 32 U1) L gl 92 U2) ∧
    vS i9 (gtN (gtN (gtN (gt0 (fol b1 b2 w) gtOc2 L gl [] k U0) L gl 32 U1) L gl 92 U2) L gl 46 U3) = vSR (rcC L) 6 (lexE L U3.t5 U3.ta U3.ln U3.p) gl (gtN (gtN (gtN (gt0 (fol b1 b2 w) gtOc2 L gl [] k U0) L gl 32 U1) L gl 92 U2) L gl 46 U3) ∧
    vL (i9 ++ [9]) (gtN (gtN (gtN (gtN (gt0 (fol b1 b2 w) gtOc2 L gl [] k U0) L gl 32 U1) L gl 92 U2) L gl 46 U3) L gl 10 U4) = vR (.ok (.ret (.str ⟨#[46]⟩ U3.τ))) (gtE L U4.t5 U4.ta U4.ln U4.p [] k) gl (gtN (gtN (gtN (gtN (gt0 (fol b1 b2 w) gtOc2 L gl [] k U0) L gl 32 U1) L gl 92 U2) L gl 46 U3) L gl 10 U4) := by
  cases b1 <;> exact ⟨by kernel_rfl, by kernel_rfl, by kernel_rfl, by kernel_rfl, by kernel_rfl⟩
theorem gt_runsP (q : Nat → Str × Nat) :
    tab (fun j => vL (i9 ++ [9]) (gt0 (fol b1 b2 w) gtOcP L gl (sv (q 0) :: qs q 1 j) k U0)) 14 =
    tab2 (fun j => vR (.ok (.ret (sv (q 0)))) (gtE L U0.t5 U0.ta U0.ln U0.p (qs q 1 j) (k + 1)) gl (gt0 (fol b1 b2 w) gtOcP L gl (sv (q 0) :: qs q 1 j) k U0)) 14 := by
  cases b1 <;> kernel_rfl
end
noncomputable abbrev pushOc : List Nat := [0, 0, 4, 4, 4, 4, 1, 4, 1, 0, 0, 0, 1, 0, 0, 0, 1, 1, 0, 2, 3, 3, 3, 3, 4, 3, 3, 3, 3]
noncomputable def pu0 (w : World) (L : Lx) (gl : List GenState) (od : Obj) (s : Str × Nat) (vs : List Value) (k n tk : Nat) (P : Nat → Pos) (B : Nat → List (Code × Pos)) : Out :=
  go w spN 1000 (.call (.ref 49) ⟨[.ref (L.x + 178), sv s], []⟩) pushOc P B [(L.x + 178, inst 52 (L.y + 178)), (L.y + 178, od), (L.z + 178, lst vs k)] 3 n tk gl
noncomputable abbrev lexD (L : Lx) (t5 : Nat) (ln : Int) : Obj := lxd L.h1 L.h2 L.h3 L.h4 L.t1 L.t2 L.t3 L.t4 t5 L.t6 ln L.f L.z
theorem pu_runs (b1 b2 : Bool) (w : World) (L : Lx) (gl : List GenState) (t5 : Nat) (ln : Int) (s : Str × Nat) (k n tk : Nat) (P : Nat → Pos) (B : Nat → List (Code × Pos)) (q : Nat → Str × Nat) :
    tab (fun j => vL [0, 1, 2] (pu0 (fol b1 b2 w) L gl (lexD L t5 ln) s (qs q 0 j) k n tk P B)) 14 =
    tab2 (fun j => vR (.ok (.ret .none)) [(L.x + 178, inst 52 (L.y + 178)), (L.y + 178, lexD L t5 ln), (L.z + 178, lst (qE q 0 j (sv s)) (k + 1))] gl (pu0 (fol b1 b2 w) L gl (lexD L t5 ln) s (qs q 0 j) k n tk P B)) 14 := by kernel_rfl
end Mine
end
section
set_option maxRecDepth 100000
set_option maxHeartbeats 400000
namespace Mine
open PySem PySem.Spec PySem.Calls PyProof.Rows PySem.W PySem.W.X
theorem rc_step {w : World} {A : Around} {R : Result → Shared → Prop} {d : Drawn} {os : OsState} {h : Heap} {E : List (Nat × Obj)} {t0 : Nat} {o : Out} {L : Lx} {U : Ub} {K : Nat} {gl : List GenState} {p : Nat}
    (h1 : vS i9 o = vSR (rcC L) K (lexE L U.t5 U.ta U.ln U.p) gl o) (e : U.p = .ofNat p) (hp : p < 41) (hK : K + 110 ≤ 120) (hA : A.handled = none) (hdep : Room A 120) (Pr : Pre (ktw w) h E)
    (G : ∀ V : Ub, V.ln = U.ln + .ofNat (nlOf p) → V.p = .ofNat (p + 1) → t0 ≤ V.tk → InT V.tk V.τ → SatX (vOf pw w A R) h (E.map (·.1)) d os V.tk (gtN o L gl (pageL.getD p 0) V)) : SatX (vOf pw w A R) h (E.map (·.1)) d os t0 o := by
  rw [e] at h1
  refine sat_specT (D := 120) h1 (fun _ => Nat.zero_le _) (rcL w L U.t5 U.ta U.ln gl p hp) (by decide) hK hA hdep Pr ?_ ?_
  · rintro _ _ _ _ ⟨t9, t5', ta', rfl, rfl, rfl, _⟩
    exact ⟨rfl, rfl⟩
  · rintro _ _ gl2 n2 tk2 le _ ⟨t9, t5', ta', rfl, rfl, e3, lt⟩ _ P' B'
    rw [e3]
    exact G ⟨n2, tk2, P', B', t5', ta', U.ln + .ofNat (nlOf p), .ofNat (p + 1), t9⟩ rfl rfl le lt
noncomputable abbrev idleP (L : Lx) (ln' : Int) (p' : Nat) (k : Nat) (gl : List GenState) : Nat → Result → List (Nat × Obj) → List GenState → Prop := fun tk' v E2 gl2 => ∃ τ t5' ta', v = .ok (.ret (.str ⟨#[46]⟩ τ)) ∧ E2 = gtE L t5' ta' ln' (.ofNat p') [] k ∧ gl2 = gl ∧ InT tk' τ
theorem idle_end {w : World} {A : Around} {R : Result → Shared → Prop} {d : Drawn} {os : OsState} {h : Heap} {E : List (Nat × Obj)} {t0 tS : Nat} {o : Out} {L : Lx} {V : Ub} {τ k : Nat} {gl : List GenState} {ln' : Int} {p' : Nat}
    (h1 : vL (i9 ++ [9]) o = vR (.ok (.ret (.str ⟨#[46]⟩ τ))) (gtE L V.t5 V.ta V.ln V.p [] k) gl o) (e1 : V.ln = ln') (e2 : V.p = .ofNat p') (hS : tS ≤ t0) (hτ : InT t0 τ)
    (K : ∀ r h' E' gl' tk', tS ≤ tk' → Fra h h' E E' → idleP L ln' p' k gl tk' r E' gl' → R r ⟨h', ⟨gl'⟩, d, tk', os⟩) : SatX (vOf pw w A R) h (E.map (·.1)) d os t0 o := by
  rw [e1, e2] at h1
  exact sat_retV h1 (by decide) fun h' tk' le F => K _ _ _ _ _ (Nat.le_trans hS le) F ⟨τ, V.t5, V.ta, rfl, rfl, rfl, hτ.mono le⟩
section
variable (w : World) (L : Lx) (gl : List GenState) (t5 ta : Nat) (ln : Int) (k : Nat)
theorem at9 {m n k N : Nat} (hm : m ≤ n) (h : 9 * n + k < N) : 9 * m + k < N := Nat.lt_of_le_of_lt (Nat.add_le_add_right (Nat.mul_le_mul_left 9 hm) k) h
theorem gt_idle0 (m : Nat) (hm : m < 5) : SpcT w 120 0 (gtC L) gl (gtE L t5 ta ln (.ofNat (9 * m)) [] k) (idleP L (ln + 1) (9 * m + 2) k gl) := by
  have c : ∀ m : Fin 5, pageL.getD (9 * m.1) 0 = 46 ∧ pageL.getD (9 * m.1 + 1) 0 = 10 := by decide
  obtain ⟨c1, c2⟩ := c ⟨m, hm⟩
  dsimp only at c1 c2
  refine spcT_fol fun b1 b2 => spcT_of spC 2000 gtOc0 10 rfl (by kernel_rfl) (by decide) fun A R h d tk os hA hdep Pr _ K n P B => ?_
  have rn := fun U1 U2 => gt_runs0 b1 b2 w L gl k ⟨n, tk, P, B, t5, ta, ln, .ofNat (9 * m), 0⟩ U1 U2
  show SatX _ _ _ _ _ _ (gt0 (fol b1 b2 w) gtOc0 L gl [] k ⟨n, tk, P, B, t5, ta, ln, .ofNat (9 * m), 0⟩)
  refine rc_step (p := 9 * m) (rn ⟨0, 0, P, B, 0, 0, 0, 0, 0⟩ ⟨0, 0, P, B, 0, 0, 0, 0, 0⟩).1 rfl (at9 (k := 0) (Nat.le_of_lt_succ hm) (by decide)) (by decide) hA hdep Pr fun U1 l1 p1 le1 lt1 => ?_
  rw [c1]
  refine rc_step (p := 9 * m + 1) (rn U1 ⟨0, 0, P, B, 0, 0, 0, 0, 0⟩).2.1 p1 (at9 (Nat.le_of_lt_succ hm) (by decide)) (by decide) hA hdep Pr fun U2 l2 p2 le2 lt2 => ?_
  rw [c2]
  refine idle_end (rn U1 U2).2.2 ?_ p2 (Nat.le_trans le1 le2) (lt1.mono le2) K
  rw [l2, l1]
  unfold nlOf
  rw [c1, c2]
  show ln + 0 + 1 = ln + 1
  simp only [Int.add_zero]
theorem gt_idle1 (m : Nat) (hm : m < 5) : SpcT w 120 0 (gtC L) gl (gtE L t5 ta ln (.ofNat (9 * m + 2)) [] k) (idleP L ln (9 * m + 5) k gl) := by
  have c : ∀ m : Fin 5, pageL.getD (9 * m.1 + 2) 0 = 34 ∧ pageL.getD (9 * m.1 + 3) 0 = 46 ∧ pageL.getD (9 * m.1 + 4) 0 = 34 := by decide
  obtain ⟨c1, c2, c3⟩ := c ⟨m, hm⟩
  dsimp only at c1 c2 c3
  refine spcT_fol fun b1 b2 => spcT_of spC 2000 gtOc1 10 rfl (by kernel_rfl) (by decide) fun A R h d tk os hA hdep Pr _ K n P B => ?_
  have rn := fun U1 U2 U3 => gt_runs1 b1 b2 w L gl k ⟨n, tk, P, B, t5, ta, ln, .ofNat (9 * m + 2), 0⟩ U1 U2 U3
  have V0 : Ub := ⟨0, 0, P, B, 0, 0, 0, 0, 0⟩
  show SatX _ _ _ _ _ _ (gt0 (fol b1 b2 w) gtOc1 L gl [] k ⟨n, tk, P, B, t5, ta, ln, .ofNat (9 * m + 2), 0⟩)
  refine rc_step (p := 9 * m + 2) (rn V0 V0 V0).1 rfl (at9 (Nat.le_of_lt_succ hm) (by decide)) (by decide) hA hdep Pr fun U1 l1 p1 le1 lt1 => ?_
  rw [c1]
  refine rc_step (p := 9 * m + 3) (rn U1 V0 V0).2.1 p1 (at9 (Nat.le_of_lt_succ hm) (by decide)) (by decide) hA hdep Pr fun U2 l2 p2 le2 lt2 => ?_
  rw [c2]
  refine rc_step (p := 9 * m + 4) (rn U1 U2 V0).2.2.1 p2 (at9 (Nat.le_of_lt_succ hm) (by decide)) (by decide) hA hdep Pr fun U3 l3 p3 le3 lt3 => ?_
  rw [c3]
  refine idle_end (rn U1 U2 U3).2.2.2 ?_ p3 (Nat.le_trans le1 (Nat.le_trans le2 le3)) (lt2.mono le3) K
  rw [l3, l2, l1]
  unfold nlOf
  rw [c1, c2, c3]
  show ln + 0 + 0 + 0 = ln
  simp only [Int.add_zero]
theorem gt_idle2 (m : Nat) (hm : m < 4) : SpcT w 120 0 (gtC L) gl (gtE L t5 ta ln (.ofNat (9 * m + 5)) [] k) (idleP L (ln + 1) (9 * m + 9) k gl) := by
  have c : ∀ m : Fin 4, pageL.getD (9 * m.1 + 5) 0 = 32 ∧ pageL.getD (9 * m.1 + 6) 0 = 92 ∧ pageL.getD (9 * m.1 + 7) 0 = 46 ∧ pageL.getD (9 * m.1 + 8) 0 = 10 := by decide
  obtain ⟨c1, c2, c3, c4⟩ := c ⟨m, hm⟩
  dsimp only at c1 c2 c3 c4
  refine spcT_fol fun b1 b2 => spcT_of spC 2000 gtOc2 10 rfl (by kernel_rfl) (by decide) fun A R h d tk os hA hdep Pr _ K n P B => ?_
  have rn := fun U1 U2 U3 U4 => gt_runs2 b1 b2 w L gl k ⟨n, tk, P, B, t5, ta, ln, .ofNat (9 * m + 5), 0⟩ U1 U2 U3 U4
  have V0 : Ub := ⟨0, 0, P, B, 0, 0, 0, 0, 0⟩
  show SatX _ _ _ _ _ _ (gt0 (fol b1 b2 w) gtOc2 L gl [] k ⟨n, tk, P, B, t5, ta, ln, .ofNat (9 * m + 5), 0⟩)
  refine rc_step (p := 9 * m + 5) (rn V0 V0 V0 V0).1 rfl (at9 (Nat.le_of_lt_succ hm) (by decide)) (by decide) hA hdep Pr fun U1 l1 p1 le1 lt1 => ?_
  rw [c1]
  refine rc_step (p := 9 * m + 6) (rn U1 V0 V0 V0).2.1 p1 (at9 (Nat.le_of_lt_succ hm) (by decide)) (by decide) hA hdep Pr fun U2 l2 p2 le2 lt2 => ?_
  rw [c2]
  refine rc_step (p := 9 * m + 7) (rn U1 U2 V0 V0).2.2.1 p2 (at9 (Nat.le_of_lt_succ hm) (by decide)) (by decide) hA hdep Pr fun U3 l3 p3 le3 lt3 => ?_
  rw [c3]
  refine rc_step (p := 9 * m + 8) (rn U1 U2 U3 V0).2.2.2.1 p3 (at9 (Nat.le_of_lt_succ hm) (by decide)) (by decide) hA hdep Pr fun U4 l4 p4 le4 lt4 => ?_
  rw [c4]
  refine idle_end (rn U1 U2 U3 U4).2.2.2.2 ?_ p4 (Nat.le_trans le1 (Nat.le_trans le2 (Nat.le_trans le3 le4))) (lt3.mono le4) K
  rw [l4, l3, l2, l1]
  unfold nlOf
  rw [c1, c2, c3, c4]
  show ln + 0 + 0 + 0 + 1 = ln + 1
  simp only [Int.add_zero]
noncomputable def posT (t : Nat) : Nat := 9 * (t / 3) + (if t % 3 = 0 then 0 else if t % 3 = 1 then 2 else 5)
noncomputable def lnT (t : Nat) : Int := 1 + (.ofNat ((t + 2) / 3)) + .ofNat (t / 3)
theorem idle_tab : ∀ t : Fin 14, (∃ m : Fin 5, posT t.1 = 9 * m.1 ∧ posT (t.1 + 1) = 9 * m.1 + 2 ∧ lnT (t.1 + 1) = lnT t.1 + 1) ∨ (∃ m : Fin 5, posT t.1 = 9 * m.1 + 2 ∧ posT (t.1 + 1) = 9 * m.1 + 5 ∧ lnT (t.1 + 1) = lnT t.1) ∨
    (∃ m : Fin 4, posT t.1 = 9 * m.1 + 5 ∧ posT (t.1 + 1) = 9 * m.1 + 9 ∧ lnT (t.1 + 1) = lnT t.1 + 1) := by decide +kernel
/-- an idle opening: a full stop, read out of the text -/
theorem gt_idle (t : Nat) (ht : t < 14) : SpcT w 120 0 (gtC L) gl (gtE L t5 ta (lnT t) (.ofNat (posT t)) [] k) (idleP L (lnT (t + 1)) (posT (t + 1)) k gl) := by
  rcases idle_tab ⟨t, ht⟩ with ⟨m, e1, e2, e3⟩ | ⟨m, e1, e2, e3⟩ | ⟨m, e1, e2, e3⟩ <;> dsimp only at e1 e2 e3 <;> rw [e1, e2, e3]
  · exact gt_idle0 w L gl t5 ta _ k m.1 m.2
  · exact gt_idle1 w L gl t5 ta _ k m.1 m.2
  · exact gt_idle2 w L gl t5 ta _ k m.1 m.2
/-- a waiting word is handed out -/
theorem gt_pop (p : Int) (v : Str × Nat) (vs : List (Str × Nat)) (hv : vs.length < 14) : Spc w 120 (gtC L) gl (gtE L t5 ta ln p (sv v :: vs.map sv) k)
    (fun x E2 gl2 => x = .ok (.ret (sv v)) ∧ E2 = gtE L t5 ta ln p (vs.map sv) (k + 1) ∧ gl2 = gl) := by
  refine spc_fol fun b1 b2 => ?_
  have e := qs_list vs (fun i => (v :: vs).getD i default) 1 fun i => by simp [Nat.add_comm 1]
  rw [← e]
  exact spc_view spC 2000 gtOcP 10 (i9 ++ [9]) (fun n tk P B => ⟨_, _, _, tab_get (gt_runsP b1 b2 w L gl k ⟨n, tk, P, B, t5, ta, ln, p, 0⟩ (fun i => (v :: vs).getD i default)) vs.length hv, rfl, rfl, rfl⟩) rfl (by kernel_rfl) (by decide) (by decide)
end
noncomputable abbrev puE (L : Lx) (t5 : Nat) (ln : Int) (vs : List Value) (k : Nat) : List (Nat × Obj) := [(L.x + 178, inst 52 (L.y + 178)), (L.y + 178, lexD L t5 ln), (L.z + 178, lst vs k)]
/-- a word is put behind those that wait -/
theorem pu_spec (w : World) (L : Lx) (gl : List GenState) (t5 : Nat) (ln : Int) (k : Nat) (s : Str × Nat) (vs : List (Str × Nat)) (hv : vs.length < 14) : Spc w 100 (.call (.ref 49) ⟨[.ref (L.x + 178), sv s], []⟩) gl (puE L t5 ln (vs.map sv) k)
    (fun x E2 gl2 => x = .ok (.ret .none) ∧ E2 = puE L t5 ln (vs.map sv ++ [sv s]) (k + 1) ∧ gl2 = gl) := by
  refine spc_fol fun b1 b2 => ?_
  have e := qs_list vs (fun i => vs.getD i default) 0 fun i => by simp
  have e' := qE_list vs (fun i => vs.getD i default) 0 (sv s) fun i => by simp
  rw [← e', ← e]
  exact spc_view spN 1000 pushOc 3 [0, 1, 2] (fun n tk P B => ⟨_, _, _, tab_get (pu_runs b1 b2 w L gl t5 ln s k n tk P B (fun i => vs.getD i default)) vs.length hv, rfl, rfl, rfl⟩) rfl (by kernel_rfl) (by decide) (by decide)
end Mine
end
section
set_option genInjectivity false
set_option maxRecDepth 100000
set_option maxHeartbeats 400000
namespace Mine
open PySem PySem.Spec PySem.Calls PyProof.Rows PySem.W PySem.W.X
noncomputable def forTgt : Option Stmt → Expr
  | some (.For t ..) => t
  | _ => .Constant .none 0 default
noncomputable def forBody : Option Stmt → List Stmt
  | some (.For _ _ b ..) => b
  | _ => []
noncomputable def forElse : Option Stmt → List Stmt
  | some (.For _ _ _ e ..) => e
  | _ => []
noncomputable def stAt (i j : Nat) : Option Stmt := (defBody (topAt i))[j]?
noncomputable def envO (i fn cd : Nat) (q : List Nat) (l : Nat) : Env := { scope := defScope (topAt i), locals := l + 178, globals := 3, cells := [], qual := ⟨q.toArray⟩, func := some fn, code := .ref cd, frame := some (l + 178), builtins := 0 }
/-- "_law_line.<locals>." -/
noncomputable def lnQ : List Nat := [95, 108, 97, 119, 95, 108, 105, 110, 101, 46, 60, 108, 111, 99, 97, 108, 115, 62, 46]
noncomputable abbrev lnEnv (l : Nat) : Env := envO 20 155 154 lnQ l
noncomputable def lnFor (it l : Nat) : Code := .forLoop (forTgt (stAt 20 2)) (.ref (it + 178)) (forBody (stAt 20 2)) (forElse (stAt 20 2)) (lnEnv l)
noncomputable def vals (v : Nat → Value) : Nat → Nat → List Value
  | _, 0 => []
  | s, n + 1 => v s :: vals v (s + 1) n
noncomputable def put7 (v : Nat → Value) (j : Nat) (x : Value) : List Value := [0, 1, 2, 3, 4, 5, 6].map fun k => cond (Nat.beq k j) x (v k)
noncomputable def rgI (a b s : Int) : Obj := { cls := .type "range_iterator", data := .fields #[.int a 0, .int b 0, .int s 0] }
/-- what of the loop's frame does not turn -/
structure Lf where
  l : Nat
  it : Nat
  td : Nat
  cm : Nat
  fr : Nat
  ha : Int
  hb : Int
  hc : Int
  hd : Int
  a : Nat
  b : Nat
  c : Nat
  d : Nat
  ec : Nat
  ef : Nat
noncomputable def frm4 (F : Lf) (x : Nat) : Ent := [(F.ha, [99, 111, 109, 101], F.a, .ref (F.cm + 178)), (F.hb, [102, 114, 101, 101], F.b, .ref (F.fr + 178)), (F.hc, [108, 101, 120, 101, 114], F.c, .ref (x + 178)), (F.hd, [116, 111, 108, 100], F.d, .ref (F.td + 178))]
noncomputable abbrev sMinute : List Nat := [109, 105, 110, 117, 116, 101]
noncomputable def frm5 (F : Lf) (x : Nat) (he : Int) (e : Nat) (v : Value) : Obj := frm (frm4 F x ++ [(he, sMinute, e, v)]) 5
noncomputable def spL : Code → Bool := fun c => match c with | .call (.ref a) _ => Nat.beq a 42 || Nat.beq a 49 | .forLoop .. => true | _ => false
/-- the unknowns of a turn that may hang on its number -/
structure Lv where
  he : Int
  e : Nat
  pm : Int
  te : Nat
  et : Nat
  tv : Nat → Value
  cv : Nat → Value
  fv : Nat → Value
noncomputable abbrev lnE (F : Lf) (L : Lx) (fo : Obj) (i : Nat) (tl : List Value) (et : Nat) (cl fl : List Value) (t5 ta : Nat) (ln p : Int) (oq : Obj) : List (Nat × Obj) :=
  [(F.l + 178, fo), (F.it + 178, rgI (.ofNat i) (.ofNat (14 - i)) 1), (F.td + 178, lst tl et), (F.cm + 178, lst cl F.ec), (F.fr + 178, lst fl F.ef)] ++ lexE L t5 ta ln p ++ [(L.z + 178, oq)]
noncomputable abbrev foAt (F : Lf) (L : Lx) (V : Lv) (i : Nat) : Obj := cond (Nat.beq i 0) (frm (frm4 F L.x) 4) (frm5 F L.x V.he V.e (.int V.pm V.te))
noncomputable def foTo (w : World) (F : Lf) (L : Lx) (V : Lv) (tk i : Nat) : Obj := frm5 F L.x (cond (Nat.beq i 0) (PyData.keyHash w.params ⟨sMinute.toArray⟩) V.he) (cond (Nat.beq i 0) (tk + 1) V.e) (.int (.ofNat i) tk)
noncomputable abbrev ocA : List Nat := [2, 2, 2, 2, 2, 2, 2, 2, 2, 1, 1, 1, 1, 4, 4, 4, 4, 4, 1, 3, 3, 3, 3, 1, 1, 5, 5, 5, 5, 5, 3, 3, 3, 3]
noncomputable abbrev ocB : List Nat := [2, 2, 2, 2, 2, 2, 2, 2, 2, 1, 1, 1, 1, 4, 4, 4, 4, 4, 1, 3, 3, 3, 3, 1, 1, 5, 5, 5, 5, 5, 1, 6, 0, 0, 0, 6, 0, 0, 0, 6, 0, 0, 0, 0, 6, 7, 0, 3, 3, 3, 3]
noncomputable abbrev ocC : List Nat := [2, 2, 2, 2, 2, 2, 2, 2, 2, 1, 1, 1, 1, 4, 4, 4, 4, 4, 1, 6, 0, 0, 0, 6, 0, 0, 0, 6, 0, 0, 0, 0, 6, 7, 1, 1, 4, 4, 4, 4, 4, 0, 1, 3, 3, 3, 3, 1, 1, 5, 5, 5, 5, 5, 3, 3, 3, 3]
noncomputable abbrev ocD : List Nat := [2, 2, 2, 2, 2, 2, 2, 2, 2, 1, 1, 1, 1, 4, 4, 4, 4, 4, 1, 6, 0, 0, 0, 6, 0, 0, 0, 6, 0, 0, 0, 0, 6, 7, 1, 1, 4, 4, 4, 4, 4, 0, 1, 3, 3, 3, 3, 1, 1, 5, 5, 5, 5, 5, 1, 6, 0, 0, 0, 6, 0, 0, 0, 6, 0, 0, 0, 0, 6, 7, 0, 3, 3, 3, 3]
noncomputable abbrev i15 : List Nat := [0, 1, 2, 3, 4, 5, 6, 7, 8, 9, 10, 11, 12, 13, 14]
noncomputable abbrev iG : List Nat := [5, 6, 7, 8, 9, 10, 11, 12, 13, 14]
noncomputable abbrev iP : List Nat := [5, 6, 14]
noncomputable abbrev emp (t : Nat) : Value := .str ⟨#[]⟩ t
noncomputable abbrev wdv (c t : Nat) : Value := .str ⟨#[c + 97]⟩ t
noncomputable def ln0 (w : World) (oc : List Nat) (F : Lf) (L : Lx) (V : Lv) (U : Ub) (oq : Obj) (gl : List GenState) (i : Nat) (ci fi : Value) : Out :=
  go w spL 1000 (lnFor F.it F.l) oc U.P U.B (lnE F L (foAt F L V i) i (vals V.tv 0 i) V.et (put7 V.cv (i % 7) ci) (put7 V.fv (i % 7) fi) U.t5 U.ta U.ln U.p oq) 15 U.n U.tk gl
noncomputable def lnG (o : Out) (L : Lx) (gl : List GenState) (q : Str × Nat) (oq : Obj) (U : Ub) : Out := o.go (so o iG (.ok (.ret (sv q))) (lexE L U.t5 U.ta U.ln U.p ++ [(L.z + 178, oq)]) U.n U.tk gl) U.P U.B
noncomputable def lnP (o : Out) (L : Lx) (gl : List GenState) (t5 : Nat) (ln : Int) (oq : Obj) (U : Ub) : Out := o.go (so o iP (.ok (.ret .none)) [(L.x + 178, inst 52 (L.y + 178)), (L.y + 178, lexD L t5 ln), (L.z + 178, oq)] U.n U.tk gl) U.P U.B
end Mine
end
section
set_option maxRecDepth 100000
set_option maxHeartbeats 400000
namespace Mine
open PySem PySem.Spec PySem.Calls PyProof.Rows PySem.W PySem.W.X
section
variable (b1 b2 : Bool) (w : World) (F : Lf) (L : Lx) (V : Lv) (gl : List GenState) (oq oq1 oq2 : Obj) (U0 U1 U2 : Ub) (t c t' : Nat) (q : Str × Nat)
/-- the entries behind a turn -/
noncomputable abbrev lnE' (w : World) (i tk : Nat) (nv : Value) (ci fi : Value) (t5 ta : Nat) (ln p : Int) (oq : Obj) : List (Nat × Obj) :=
  lnE F L (foTo w F L V tk i) (i + 1) (vals V.tv 0 i ++ [nv]) (V.et + 1) (put7 V.cv (i % 7) ci) (put7 V.fv (i % 7) fi) t5 ta ln p oq
theorem ln_runsA :
    tab (fun i => vN i15 (ln0 (fol b1 b2 w) ocA F L V U0 oq gl i (emp t) (.int 0 t'))) 14 =
    tab2 (fun i => vNR (lnFor F.it F.l) (lnE' F L V (fol b1 b2 w) i U0.tk (emp (U0.tk + 7)) (emp t) (.int 0 t') U0.t5 U0.ta U0.ln U0.p oq) gl (ln0 (fol b1 b2 w) ocA F L V U0 oq gl i (emp t) (.int 0 t'))) 14 := by
  cases b1 <;> kernel_rfl
theorem ln_marksA :
    tab (fun i => (ln0 (fol b1 b2 w) ocA F L V U0 oq gl i (emp t) (.int 0 t')).st.tk) 14 = tab2 (fun i => U0.tk + 8) 14 := by
  cases b1 <;> kernel_rfl
theorem ln_runsB :
    tab (fun i => vS iG (ln0 (fol b1 b2 w) ocB F L V U0 oq gl i (emp t) (.int 1 t'))) 14 =
    tab2 (fun i => vSR (gtC L) 0 (lexE L U0.t5 U0.ta U0.ln U0.p ++ [(L.z + 178, oq)]) gl (ln0 (fol b1 b2 w) ocB F L V U0 oq gl i (emp t) (.int 1 t'))) 14 ∧
    tab (fun i => vN i15 (lnG (ln0 (fol b1 b2 w) ocB F L V U0 oq gl i (emp t) (.int 1 t')) L gl q oq1 U1)) 14 =
    tab2 (fun i => vNR (lnFor F.it F.l) (lnE' F L V (fol b1 b2 w) i U0.tk (sv q) (emp t) (.int 1 t') U1.t5 U1.ta U1.ln U1.p oq1) gl (lnG (ln0 (fol b1 b2 w) ocB F L V U0 oq gl i (emp t) (.int 1 t')) L gl q oq1 U1)) 14 := by
  cases b1 <;> exact ⟨by kernel_rfl, by kernel_rfl⟩
theorem ln_runsC :
    tab (fun i => vS iP (ln0 (fol b1 b2 w) ocC F L V U0 oq gl i (wdv c t) (.int 0 t'))) 14 =
    tab2 (fun i => vSR (.call (.ref 49) ⟨[.ref (L.x + 178), wdv c t], []⟩) 0 [(L.x + 178, inst 52 (L.y + 178)), (L.y + 178, lexD L U0.t5 U0.ln), (L.z + 178, oq)] gl (ln0 (fol b1 b2 w) ocC F L V U0 oq gl i (wdv c t) (.int 0 t'))) 14 ∧
    tab (fun i => vN i15 (lnP (ln0 (fol b1 b2 w) ocC F L V U0 oq gl i (wdv c t) (.int 0 t')) L gl U0.t5 U0.ln oq1 U1)) 14 =
    tab2 (fun i => vNR (lnFor F.it F.l) (lnE' F L V (fol b1 b2 w) i U0.tk (emp (U1.tk + 2)) (wdv c t) (.int 0 t') U0.t5 U0.ta U0.ln U0.p oq1) gl (lnP (ln0 (fol b1 b2 w) ocC F L V U0 oq gl i (wdv c t) (.int 0 t')) L gl U0.t5 U0.ln oq1 U1)) 14 := by
  cases b1 <;> exact ⟨by kernel_rfl, by kernel_rfl⟩
theorem ln_marksC :
    tab (fun i => (lnP (ln0 (fol b1 b2 w) ocC F L V U0 oq gl i (wdv c t) (.int 0 t')) L gl U0.t5 U0.ln oq1 U1).st.tk) 14 = tab2 (fun i => U1.tk + 3) 14 := by
  cases b1 <;> kernel_rfl
theorem ln_runsD :
    tab (fun i => vS iP (ln0 (fol b1 b2 w) ocD F L V U0 oq gl i (wdv c t) (.int 1 t'))) 14 =
    tab2 (fun i => vSR (.call (.ref 49) ⟨[.ref (L.x + 178), wdv c t], []⟩) 0 [(L.x + 178, inst 52 (L.y + 178)), (L.y + 178, lexD L U0.t5 U0.ln), (L.z + 178, oq)] gl (ln0 (fol b1 b2 w) ocD F L V U0 oq gl i (wdv c t) (.int 1 t'))) 14 ∧
    tab (fun i => vS iG (lnP (ln0 (fol b1 b2 w) ocD F L V U0 oq gl i (wdv c t) (.int 1 t')) L gl U0.t5 U0.ln oq1 U1)) 14 =
    tab2 (fun i => vSR (gtC L) 0 (lexE L U0.t5 U0.ta U0.ln U0.p ++ [(L.z + 178, oq1)]) gl (lnP (ln0 (fol b1 b2 w) ocD F L V U0 oq gl i (wdv c t) (.int 1 t')) L gl U0.t5 U0.ln oq1 U1)) 14 ∧
    tab (fun i => vN i15 (lnG (lnP (ln0 (fol b1 b2 w) ocD F L V U0 oq gl i (wdv c t) (.int 1 t')) L gl U0.t5 U0.ln oq1 U1) L gl q oq2 U2)) 14 =
    tab2 (fun i => vNR (lnFor F.it F.l) (lnE' F L V (fol b1 b2 w) i U0.tk (sv q) (wdv c t) (.int 1 t') U2.t5 U2.ta U2.ln U2.p oq2) gl (lnG (lnP (ln0 (fol b1 b2 w) ocD F L V U0 oq gl i (wdv c t) (.int 1 t')) L gl U0.t5 U0.ln oq1 U1) L gl q oq2 U2)) 14 := by
  cases b1 <;> exact ⟨by kernel_rfl, by kernel_rfl, by kernel_rfl⟩
end
end Mine
end
section
set_option maxRecDepth 100000
set_option maxHeartbeats 400000
namespace Mine
open PySem PySem.Spec PySem.Calls PyProof.Rows PySem.W PySem.W.X
/-- words: none, a full stop, a letter -/
inductive Wd where
  | e
  | d
  | l (c : Nat)
  deriving DecidableEq
noncomputable def wv : Wd → Nat → Value
  | .e, t => emp t
  | .d, t => .str ⟨#[46]⟩ t
  | .l c, t => wdv c t
noncomputable def wvv (p : Wd × Nat) : Value := wv p.1 p.2
noncomputable def bvv (p : Bool × Nat) : Value := cond p.1 (.int 1 p.2) (.int 0 p.2)
noncomputable def lw (p : Nat × Nat) : Str × Nat := (⟨#[p.1 + 97]⟩, p.2)
noncomputable def lineStep (c : Wd) (f : Bool) (q : List Nat) : List Nat × Wd :=
  let q1 := match c with
    | .l x => q ++ [x]
    | _ => q
  if f then match q1 with
    | [] => ([], .d)
    | x :: r => (r, .l x)
  else (q1, .e)
noncomputable def lineGo (come : List Wd) (free : List Bool) : Nat → Nat → List Nat → List Wd
  | 0, _, _ => []
  | n + 1, i, q => (lineStep (come.getD (i % 7) .e) (free.getD (i % 7) false) q).2 :: lineGo come free n (i + 1) (lineStep (come.getD (i % 7) .e) (free.getD (i % 7) false) q).1
noncomputable def cntD (l : List Wd) : Nat := l.countP (· == .d)
theorem vals_of : ∀ (l : List Value) (v : Nat → Value) (s : Nat), (∀ i, i < l.length → l.getD i .none = v (s + i)) → vals v s l.length = l
  | [], _, _, _ => rfl
  | a :: l, v, s, h => by
    show v s :: vals v (s + 1) l.length = a :: l
    rw [vals_of l v (s + 1) fun i hi => by
      have := h (i + 1) (by simpa using hi)
      simpa [Nat.add_assoc, Nat.add_comm 1] using this]
    have := h 0 (by simp)
    simp at this
    rw [this]
theorem vals7 (l : List Value) (h : l.length = 7) : vals (fun k => l.getD k .none) 0 7 = l := by
  have := vals_of l (fun k => l.getD k .none) 0 fun i _ => by rw [Nat.zero_add]
  rw [h] at this
  exact this
theorem put7_self (l : List Value) (h : l.length = 7) (j : Nat) (hj : j < 7) : put7 (fun k => l.getD k .none) j (l.getD j .none) = l := by
  refine Eq.trans ?_ (vals7 l h)
  match j, hj with
  | 0, _ => rfl
  | 1, _ => rfl
  | 2, _ => rfl
  | 3, _ => rfl
  | 4, _ => rfl
  | 5, _ => rfl
  | 6, _ => rfl
theorem wvv_at (l : List (Wd × Nat)) (j : Nat) (hj : j < l.length) : ∃ t, (l.map wvv).getD j .none = wv ((l.map (·.1)).getD j .e) t := by
  refine ⟨(l[j]).2, ?_⟩
  simp [List.getD_eq_getElem?_getD, hj, wvv]
theorem bvv_at (l : List (Bool × Nat)) (j : Nat) (hj : j < l.length) : ∃ t, (l.map bvv).getD j .none = bvv ((l.map (·.1)).getD j false, t) := by
  refine ⟨(l[j]).2, ?_⟩
  simp [List.getD_eq_getElem?_getD, hj, bvv]
noncomputable def FoOk (F : Lf) (L : Lx) (i : Nat) (fo : Obj) : Prop := (i = 0 ∧ fo = frm (frm4 F L.x) 4) ∨ (i ≠ 0 ∧ ∃ he e pm te, fo = frm5 F L.x he e (.int pm te))
noncomputable def qO (q : List (Nat × Nat)) (k : Nat) : Obj := lst ((q.map lw).map sv) k
noncomputable abbrev LnPost (F : Lf) (L : Lx) (gl : List GenState) (cl fl : List Value) (G : List Wd) : Nat → Result → List (Nat × Obj) → List GenState → Prop := fun tk' r E2 gl2 =>
  ∃ (told : List (Wd × Nat)) (fo : Obj) (et t5 ta : Nat) (q : List (Nat × Nat)) (k : Nat), r = .ok .next ∧ gl2 = gl ∧ told.length = 14 ∧ FoOk F L 14 fo ∧ told.map (·.1) = G ∧
    E2 = lnE F L fo 14 (told.map wvv) et cl fl t5 ta (lnT (cntD G)) (.ofNat (posT (cntD G))) (qO q k) ∧ ∀ x ∈ told, InT tk' x.2
noncomputable def LnP (F : Lf) (L : Lx) (gl : List GenState) (come : List (Wd × Nat)) (free : List (Bool × Nat)) (n : Nat) : Prop :=
  ∀ (w : World) (lo i : Nat) (fo : Obj) (told : List (Wd × Nat)) (et t5 ta : Nat) (q : List (Nat × Nat)) (k : Nat), i + n = 14 → told.length = i → FoOk F L i fo → q.length ≤ i →
    (∀ x ∈ told, InT lo x.2) → (∀ x ∈ q, InT lo x.2) → (∀ x ∈ come, InT lo x.2) →
    SpcT w 120 lo (lnFor F.it F.l) gl (lnE F L fo i (told.map wvv) et (come.map wvv) (free.map bvv) t5 ta (lnT (cntD (told.map (·.1)))) (.ofNat (posT (cntD (told.map (·.1))))) (qO q k))
      (LnPost F L gl (come.map wvv) (free.map bvv) (told.map (·.1) ++ lineGo (come.map (·.1)) (free.map (·.1)) n i (q.map (·.1))))
noncomputable abbrev ocZ : List Nat := [2, 2, 2, 2, 2, 17]
theorem ln_runZ (b1 b2 : Bool) (w : World) (F : Lf) (L : Lx) (he : Int) (e : Nat) (pm : Int) (te et : Nat) (tv : Nat → Value) (cl fl : List Value) (gl : List GenState) (oq : Obj) (U0 : Ub) :
    vL i15 (go (fol b1 b2 w) spL 1000 (lnFor F.it F.l) ocZ U0.P U0.B (lnE F L (frm5 F L.x he e (.int pm te)) 14 (vals tv 0 14) et cl fl U0.t5 U0.ta U0.ln U0.p oq) 15 U0.n U0.tk gl) =
    vR (.ok .next) (lnE F L (frm5 F L.x he e (.int pm te)) 14 (vals tv 0 14) et cl fl U0.t5 U0.ta U0.ln U0.p oq) gl (go (fol b1 b2 w) spL 1000 (lnFor F.it F.l) ocZ U0.P U0.B (lnE F L (frm5 F L.x he e (.int pm te)) 14 (vals tv 0 14) et cl fl U0.t5 U0.ta U0.ln U0.p oq) 15 U0.n U0.tk gl) := by
  cases b1 <;> kernel_rfl
theorem ln_P0 (F : Lf) (L : Lx) (gl : List GenState) (come : List (Wd × Nat)) (free : List (Bool × Nat)) : LnP F L gl come free 0 := by
  intro w lo i fo told et t5 ta q k hi ht hf hq b1 b2 b3
  have hi : i = 14 := hi
  subst hi
  rcases hf with ⟨h0, _⟩ | ⟨_, he, e, pm, te, rfl⟩
  · exact absurd h0 (by decide)
  refine spcT_fol fun c1 c2 => ?_
  have ev : vals (fun j => (told.map wvv).getD j .none) 0 14 = told.map wvv := by
    have := vals_of (told.map wvv) (fun j => (told.map wvv).getD j .none) 0 fun i _ => by rw [Nat.zero_add]
    rw [List.length_map, ht] at this
    exact this
  have R := fun U0 => ln_runZ c1 c2 w F L he e pm te et (fun j => (told.map wvv).getD j .none) (come.map wvv) (free.map bvv) gl (qO q k) U0
  rw [ev] at R
  refine spcT_of spL 1000 ocZ 15 rfl (by kernel_rfl) (by decide) fun A R' h d tk os hA hdep Pr hlo K n' P B => ?_
  refine sat_retV (R ⟨n', tk, P, B, t5, ta, _, _, 0⟩) (by decide) fun h' tk' le F' => K _ _ _ _ _ le F' ⟨told, _, et, t5, ta, q, k, rfl, rfl, ht, .inr ⟨by decide, he, e, pm, te, rfl⟩, ?_, ?_, fun x hx => (b1 x hx).mono (Nat.le_trans hlo le)⟩
  · show _ = told.map (·.1) ++ []
    rw [List.append_nil]
  · show _ = lnE F L _ 14 _ _ _ _ _ _ (lnT (cntD (told.map (·.1) ++ []))) (.ofNat (posT (cntD (told.map (·.1) ++ [])))) _
    rw [List.append_nil]
    rfl
end Mine
end
section
set_option maxRecDepth 100000
set_option maxHeartbeats 400000
namespace Mine
open PySem PySem.Spec PySem.Calls PyProof.Rows PySem.W PySem.W.X
theorem foAt_of {F : Lf} {L : Lx} {i : Nat} {fo : Obj} (h : FoOk F L i fo) (et : Nat) (tv cv fv : Nat → Value) : ∃ V : Lv, V.et = et ∧ V.tv = tv ∧ V.cv = cv ∧ V.fv = fv ∧ fo = foAt F L V i := by
  rcases h with ⟨rfl, rfl⟩ | ⟨hi, he, e, pm, te, rfl⟩
  · exact ⟨⟨0, 0, 0, 0, et, tv, cv, fv⟩, rfl, rfl, rfl, rfl, rfl⟩
  · refine ⟨⟨he, e, pm, te, et, tv, cv, fv⟩, rfl, rfl, rfl, rfl, ?_⟩
    have : Nat.beq i 0 = false := by
      cases q : Nat.beq i 0 with
      | false => rfl
      | true => exact absurd (Nat.eq_of_beq_eq_true q) hi
    unfold foAt
    rw [this]
    rfl
theorem wvv_in {lo : Nat} (l : List (Wd × Nat)) (j : Nat) (hj : j < l.length) (b : ∀ x ∈ l, InT lo x.2) : ∃ t, (l.map wvv).getD j .none = wv ((l.map (·.1)).getD j .e) t ∧ InT lo t := by
  refine ⟨(l[j]).2, ?_, b _ (List.getElem_mem hj)⟩
  simp [List.getD_eq_getElem?_getD, hj, wvv]
theorem foTo_ok (w : World) (F : Lf) (L : Lx) (V : Lv) (tk i : Nat) : FoOk F L (i + 1) (foTo w F L V tk i) := .inr ⟨by omega, _, _, _, _, rfl⟩
theorem cntD_snoc (l : List Wd) (x : Wd) : cntD (l ++ [x]) = cntD l + (if x = .d then 1 else 0) := by
  unfold cntD
  rw [List.countP_append, List.countP_singleton]
  cases x <;> simp <;> rfl
theorem cntD_le (l : List Wd) : cntD l ≤ l.length := List.countP_le_length
theorem lineGo_succ (come : List Wd) (free : List Bool) (n i : Nat) (q q' : List Nat) (x : Wd) (h : lineStep (come.getD (i % 7) .e) (free.getD (i % 7) false) q = (q', x)) : lineGo come free (n + 1) i q = x :: lineGo come free n (i + 1) q' := by
  show (lineStep (come.getD (i % 7) .e) (free.getD (i % 7) false) q).2 :: lineGo come free n (i + 1) (lineStep (come.getD (i % 7) .e) (free.getD (i % 7) false) q).1 = _
  rw [h]
theorem ln_PS (F : Lf) (L : Lx) (gl : List GenState) (come : List (Wd × Nat)) (free : List (Bool × Nat)) (hc : come.length = 7) (hf : free.length = 7) (hd : ∀ x ∈ come, x.1 ≠ .d) (n : Nat) (IH : LnP F L gl come free n) : LnP F L gl come free (n + 1) := by
  intro w lo i fo told et t5 ta q k hi ht hfo hq bt bq bc
  have hj : i % 7 < 7 := Nat.mod_lt _ (by decide)
  obtain ⟨V, v1, v2, v3, v4, rfl⟩ := foAt_of hfo et (fun j => (told.map wvv).getD j .none) (fun j => (come.map wvv).getD j .none) (fun j => (free.map bvv).getD j .none)
  have ev : vals V.tv 0 i = told.map wvv := by
    have := vals_of (told.map wvv) V.tv 0 fun i _ => by rw [Nat.zero_add, v2]
    rw [List.length_map, ht] at this
    exact this
  obtain ⟨t, ec, it⟩ := wvv_in come (i % 7) (hc ▸ hj) bc
  obtain ⟨t', ef⟩ := bvv_at free (i % 7) (hf ▸ hj)
  have pc := put7_self (come.map wvv) (by simpa using hc) (i % 7) hj
  have pf := put7_self (free.map bvv) (by simpa using hf) (i % 7) hj
  rw [ec, ← v3] at pc
  rw [ef, ← v4] at pf
  have hnd : (come.map (·.1)).getD (i % 7) .e ≠ .d := by
    have hl : i % 7 < come.length := hc ▸ hj
    simp [List.getD_eq_getElem?_getD, hl]
    exact hd _ (List.getElem_mem hl)
  have ct : cntD (told.map (·.1)) ≤ i := by have := cntD_le (told.map (·.1)); rw [List.length_map, ht] at this; exact this
  have i14 : i < 14 := hi ▸ Nat.lt_add_of_pos_right (Nat.succ_pos n)
  -- the next turn's claim, for a word x behind what was told
  have nxt : ∀ (w : World) (lo' tk : Nat) (x : Wd) (tx : Nat) (t5' ta' : Nat) (q' : List (Nat × Nat)) (k' : Nat) (ln' : Int) (p' : Nat), q'.length ≤ i + 1 →
      lineStep ((come.map (·.1)).getD (i % 7) .e) ((free.map (·.1)).getD (i % 7) false) (q.map (·.1)) = (q'.map (·.1), x) →
      ln' = lnT (cntD (told.map (·.1)) + if x = .d then 1 else 0) → p' = posT (cntD (told.map (·.1)) + if x = .d then 1 else 0) →
      lo ≤ lo' → InT lo' tx → (∀ x ∈ q', InT lo' x.2) →
      SpcT w 120 lo' (lnFor F.it F.l) gl (lnE F L (foTo w F L V tk i) (i + 1) (told.map wvv ++ [wv x tx]) (V.et + 1) (come.map wvv) (free.map bvv) t5' ta' ln' (.ofNat p') (qO q' k'))
        (LnPost F L gl (come.map wvv) (free.map bvv) (told.map (·.1) ++ lineGo (come.map (·.1)) (free.map (·.1)) (n + 1) i (q.map (·.1)))) := by
    intro w lo' tk x tx t5' ta' q' k' ln' p' hq' hs e1 e2 le ix iq
    have z := IH w lo' (i + 1) (foTo w F L V tk i) (told ++ [(x, tx)]) (V.et + 1) t5' ta' q' k' ((Nat.add_right_comm i 1 n).trans hi) (by simp [ht]) (foTo_ok w F L V tk i) hq'
      (fun y hy => by
        rcases List.mem_append.mp hy with hy | hy
        · exact (bt y hy).mono le
        · rw [List.mem_singleton.mp hy]; exact ix) iq fun y hy => (bc y hy).mono le
    rw [List.map_append, List.map_append, List.map_singleton, List.map_singleton, cntD_snoc] at z
    rw [lineGo_succ _ _ _ _ _ _ _ hs, e1, e2]
    rw [List.append_assoc] at z
    exact z
  have hE : lnE F L (foAt F L V i) i (told.map wvv) et (come.map wvv) (free.map bvv) t5 ta (lnT (cntD (told.map (·.1)))) (.ofNat (posT (cntD (told.map (·.1))))) (qO q k) =
      lnE F L (foAt F L V i) i (vals V.tv 0 i) V.et (put7 V.cv (i % 7) (wv ((come.map (·.1)).getD (i % 7) .e) t)) (put7 V.fv (i % 7) (bvv ((free.map (·.1)).getD (i % 7) false, t'))) t5 ta (lnT (cntD (told.map (·.1)))) (.ofNat (posT (cntD (told.map (·.1))))) (qO q k) := by
    rw [ev, pc, pf, v1]
  refine spcT_fol fun b1 b2 => ?_
  rw [hE]
  generalize hw : (come.map (·.1)).getD (i % 7) .e = cw at hnd nxt pc ⊢
  generalize hb : (free.map (·.1)).getD (i % 7) false = fb at nxt pf ⊢
  have ql : (q.map lw).length < 14 := by rw [List.length_map]; exact Nat.lt_of_le_of_lt hq i14
  cases cw with
  | d => exact absurd rfl hnd
  | e =>
    have pc' : put7 V.cv (i % 7) (emp t) = come.map wvv := pc
    cases fb with
    | false =>
      have pf' : put7 V.fv (i % 7) (.int 0 t') = free.map bvv := pf
      refine spcT_of spL 1000 ocA 15 rfl (by kernel_rfl) (by decide) fun A R h d tk os hA hdep Pr hlo K n' P B => ?_
      have h1 := tab_get (ln_runsA b1 b2 w F L V gl (qO q k) ⟨n', tk, P, B, t5, ta, lnT (cntD (told.map (·.1))), .ofNat (posT (cntD (told.map (·.1)))), 0⟩ t t') i i14
      dsimp only at h1
      unfold lnE' at h1
      rw [ev, pc', pf'] at h1
      have hm := tab_get (ln_marksA b1 b2 w F L V gl (qO q k) ⟨n', tk, P, B, t5, ta, lnT (cntD (told.map (·.1))), .ofNat (posT (cntD (told.map (·.1)))), 0⟩ t t') i i14
      dsimp only at hm
      exact sat_nextT h1 (fun _ => Nat.le_of_eq hm.symm) (nxt _ (tk + 8) tk .e (tk + 7) t5 ta q k _ _ (Nat.le_succ_of_le hq) rfl rfl rfl (Nat.le_add_right_of_le hlo) (InT.add (by decide) (by decide)) fun y hy => (bq y hy).mono (Nat.le_add_right_of_le hlo)) (by decide) hA hdep Pr K
    | true =>
      have pf' : put7 V.fv (i % 7) (.int 1 t') = free.map bvv := pf
      refine spcT_of spL 1000 ocB 15 rfl (by kernel_rfl) (by decide) fun A R h d tk os hA hdep Pr hlo K n' P B => ?_
      have rn := fun q1 oq1 U1 => ln_runsB b1 b2 w F L V gl (qO q k) oq1 ⟨n', tk, P, B, t5, ta, lnT (cntD (told.map (·.1))), .ofNat (posT (cntD (told.map (·.1)))), 0⟩ U1 t t' q1
      have h1 := tab_get (rn default (qO q k) ⟨n', tk, P, B, t5, ta, 0, 0, 0⟩).1 i i14
      dsimp only at h1
      cases q with
      | nil =>
        refine sat_specT (D := 120) h1 (fun _ => Nat.zero_le _) (gt_idle _ L gl t5 ta k _ (Nat.lt_of_le_of_lt ct i14)) (by decide) (by decide) hA hdep Pr ?_ ?_
        · rintro _ _ _ _ ⟨τ, t5', ta', rfl, rfl, rfl, _⟩
          exact ⟨rfl, rfl⟩
        · rintro _ _ gl2 n2 tk2 le _ ⟨τ, t5', ta', rfl, rfl, e3, iτ⟩ _ P' B'
          rw [e3]
          have h2 := tab_get (rn (⟨#[46]⟩, τ) (qO [] k) ⟨n2, tk2, P', B', t5', ta', lnT (cntD (told.map (·.1)) + 1), .ofNat (posT (cntD (told.map (·.1)) + 1)), 0⟩).2 i i14
          dsimp only at h2
          unfold lnE' at h2
          rw [ev, pc', pf'] at h2
          exact sat_nextT h2 id (nxt _ tk2 tk .d τ t5' ta' [] k _ _ (by simp) rfl rfl rfl (Nat.le_trans hlo le) iτ fun _ hy => nomatch hy) (by decide) hA hdep Pr fun r h' E2 gl2 tk' le' => K r h' E2 gl2 tk' (Nat.le_trans le le')
      | cons a r =>
        refine sat_specT (D := 120) h1 (fun _ => Nat.zero_le _) (gt_pop _ L gl t5 ta _ k _ (lw a) (r.map lw) (Nat.lt_of_succ_lt ql)) (by decide) (by decide) hA hdep Pr ?_ ?_
        · rintro _ _ _ _ ⟨rfl, rfl, rfl⟩
          exact ⟨rfl, rfl⟩
        · rintro _ _ gl2 n2 tk2 le _ ⟨rfl, rfl, e3⟩ _ P' B'
          rw [e3]
          have h2 := tab_get (rn (lw a) (qO r (k + 1)) ⟨n2, tk2, P', B', t5, ta, lnT (cntD (told.map (·.1))), .ofNat (posT (cntD (told.map (·.1)))), 0⟩).2 i i14
          dsimp only at h2
          unfold lnE' at h2
          rw [ev, pc', pf'] at h2
          have le2 := Nat.le_trans hlo le
          exact sat_nextT h2 id (nxt _ tk2 tk (.l a.1) a.2 t5 ta r (k + 1) _ _ (Nat.le_succ_of_le (Nat.le_of_succ_le hq)) rfl rfl rfl le2 ((bq a (.head _)).mono le2) fun y hy => (bq y (.tail _ hy)).mono le2) (by decide) hA hdep Pr fun r h' E2 gl2 tk' le' => K r h' E2 gl2 tk' (Nat.le_trans le le')
  | l c =>
    have pc' : put7 V.cv (i % 7) (wdv c t) = come.map wvv := pc
    have qpush : ∀ k', lst ((q.map lw).map sv ++ [sv (⟨#[c + 97]⟩, t)]) k' = qO (q ++ [(c, t)]) k' := fun k' => by
      unfold qO
      rw [List.map_append, List.map_append]
      rfl
    cases fb with
    | false =>
      have pf' : put7 V.fv (i % 7) (.int 0 t') = free.map bvv := pf
      refine spcT_of spL 1000 ocC 15 rfl (by kernel_rfl) (by decide) fun A R h d tk os hA hdep Pr hlo K n' P B => ?_
      have rn := fun oq1 U1 => ln_runsC b1 b2 w F L V gl (qO q k) oq1 ⟨n', tk, P, B, t5, ta, lnT (cntD (told.map (·.1))), .ofNat (posT (cntD (told.map (·.1)))), 0⟩ U1 t c t'
      have h1 := tab_get (rn (qO q k) ⟨n', tk, P, B, t5, ta, 0, 0, 0⟩).1 i i14
      dsimp only at h1
      refine sat_specT (D := 120) h1 (fun _ => Nat.zero_le _) (pu_spec _ L gl t5 _ k (⟨#[c + 97]⟩, t) (q.map lw) ql) (by decide) (by decide) hA hdep Pr ?_ ?_
      · rintro _ _ _ _ ⟨rfl, rfl, rfl⟩
        exact ⟨rfl, rfl⟩
      · rintro _ _ gl2 n2 tk2 le _ ⟨rfl, rfl, e3⟩ _ P' B'
        unfold puE
        rw [e3, qpush]
        have h2 := tab_get (rn (qO (q ++ [(c, t)]) (k + 1)) ⟨n2, tk2, P', B', t5, ta, 0, 0, 0⟩).2 i i14
        dsimp only at h2
        unfold lnE' at h2
        rw [ev, pc', pf'] at h2
        have hm := tab_get (ln_marksC b1 b2 w F L V gl (qO q k) (qO (q ++ [(c, t)]) (k + 1)) ⟨n', tk, P, B, t5, ta, lnT (cntD (told.map (·.1))), .ofNat (posT (cntD (told.map (·.1)))), 0⟩ ⟨n2, tk2, P', B', t5, ta, 0, 0, 0⟩ t c t') i i14
        dsimp only at hm
        have le2 := Nat.le_add_right_of_le (k := 3) (Nat.le_trans hlo le)
        exact sat_nextT h2 (fun _ => Nat.le_of_eq hm.symm) (nxt _ (tk2 + 3) tk .e (tk2 + 2) t5 ta (q ++ [(c, t)]) (k + 1) _ _ (by rw [List.length_append]; exact Nat.succ_le_succ hq) (by simp [lineStep]) rfl rfl le2 (InT.add (by decide) (by decide)) fun y hy => by
          rcases List.mem_append.mp hy with hy | hy
          · exact (bq y hy).mono le2
          · rw [List.mem_singleton.mp hy]; exact it.mono le2) (by decide) hA hdep Pr fun r h' E2 gl2 tk' le' => K r h' E2 gl2 tk' (Nat.le_trans le le')
    | true =>
      have pf' : put7 V.fv (i % 7) (.int 1 t') = free.map bvv := pf
      refine spcT_of spL 1000 ocD 15 rfl (by kernel_rfl) (by decide) fun A R h d tk os hA hdep Pr hlo K n' P B => ?_
      have rn := fun q1 oq1 oq2 U1 U2 => ln_runsD b1 b2 w F L V gl (qO q k) oq1 oq2 ⟨n', tk, P, B, t5, ta, lnT (cntD (told.map (·.1))), .ofNat (posT (cntD (told.map (·.1)))), 0⟩ U1 U2 t c t' q1
      have U9 : Ub := ⟨n', tk, P, B, t5, ta, 0, 0, 0⟩
      have h1 := tab_get (rn default (qO q k) (qO q k) U9 U9).1 i i14
      dsimp only at h1
      refine sat_specT (D := 120) h1 (fun _ => Nat.zero_le _) (pu_spec _ L gl t5 _ k (⟨#[c + 97]⟩, t) (q.map lw) ql) (by decide) (by decide) hA hdep Pr ?_ ?_
      · rintro _ _ _ _ ⟨rfl, rfl, rfl⟩
        exact ⟨rfl, rfl⟩
      · rintro _ _ gl2 n2 tk2 le _ ⟨rfl, rfl, e3⟩ _ P' B'
        unfold puE
        rw [e3, qpush]
        have h2 := tab_get (rn default (qO (q ++ [(c, t)]) (k + 1)) (qO q k) ⟨n2, tk2, P', B', t5, ta, 0, 0, 0⟩ U9).2.1 i i14
        dsimp only at h2
        obtain ⟨a, r, ear⟩ : ∃ a r, q ++ [(c, t)] = a :: r := by cases q <;> exact ⟨_, _, rfl⟩
        have rl : r.length = q.length := Nat.succ.inj ((congrArg List.length ear).symm.trans (by rw [List.length_append]; rfl))
        rw [ear] at h2 ⊢
        refine sat_specT (D := 120) h2 (fun _ => Nat.zero_le _) (gt_pop _ L gl t5 ta _ (k + 1) _ (lw a) (r.map lw) (by rw [List.length_map, rl]; exact Nat.lt_of_le_of_lt hq i14)) (by decide) (by decide) hA hdep Pr ?_ ?_
        · rintro _ _ _ _ ⟨rfl, rfl, rfl⟩
          exact ⟨rfl, rfl⟩
        · rintro _ _ gl3 n3 tk3 le3 _ ⟨rfl, rfl, e4⟩ _ P2 B2
          rw [e4]
          have h3 := tab_get (rn (lw a) (qO (a :: r) (k + 1)) (qO r (k + 1 + 1)) ⟨n2, tk2, P', B', t5, ta, 0, 0, 0⟩ ⟨n3, tk3, P2, B2, t5, ta, lnT (cntD (told.map (·.1))), .ofNat (posT (cntD (told.map (·.1)))), 0⟩).2.2 i i14
          dsimp only at h3
          unfold lnE' at h3
          rw [ev, pc', pf'] at h3
          have hs : lineStep (.l c) true (q.map (·.1)) = (r.map (·.1), .l a.1) := by
            have e5 : q.map (·.1) ++ [c] = a.1 :: r.map (·.1) := by
              have := congrArg (List.map (·.1)) ear
              simpa using this
            unfold lineStep
            dsimp only
            rw [e5]
            rfl
          have le2 := Nat.le_trans (Nat.le_trans hlo le) le3
          have all : ∀ y ∈ a :: r, InT tk3 y.2 := fun y hy => by
            rw [← ear] at hy
            rcases List.mem_append.mp hy with hy | hy
            · exact (bq y hy).mono le2
            · rw [List.mem_singleton.mp hy]; exact it.mono le2
          exact sat_nextT h3 id (nxt _ tk3 tk (.l a.1) a.2 t5 ta r (k + 1 + 1) _ _ (rl ▸ Nat.le_succ_of_le hq) hs rfl rfl le2 (all a (.head _)) fun y hy => all y (.tail _ hy)) (by decide) hA hdep Pr fun r h' E2 gl2 tk' le' => K r h' E2 gl2 tk' (Nat.le_trans (Nat.le_trans le le3) le')
theorem ln_all (F : Lf) (L : Lx) (gl : List GenState) (come : List (Wd × Nat)) (free : List (Bool × Nat)) (hc : come.length = 7) (hf : free.length = 7) (hd : ∀ x ∈ come, x.1 ≠ .d) : ∀ n, LnP F L gl come free n
  | 0 => ln_P0 F L gl come free
  | n + 1 => ln_PS F L gl come free hc hf hd n (ln_all F L gl come free hc hf hd n)
end Mine
end
section
set_option genInjectivity false
set_option maxRecDepth 100000
set_option maxHeartbeats 400000
namespace Mine
open PySem PySem.Spec PySem.Calls PyProof.Rows PySem.W PySem.W.X
noncomputable abbrev nmA : Str := ⟨#[97]⟩
noncomputable abbrev nmB : Str := ⟨#[98]⟩
noncomputable abbrev nmI : Str := ⟨#[105]⟩
noncomputable abbrev nmC : Str := ⟨#[99, 111, 117, 110, 116]⟩
noncomputable def cntFd : FuncData := { name := ⟨#[99, 111, 117, 110, 116, 79, 102]⟩, qualname := ⟨#[99, 111, 117, 110, 116, 79, 102]⟩, params := defArgs (topAt 13), body := .stmts (defBody (topAt 13)), scope := defScope (topAt 13), globals := 3, closure := [], defaults := .none, kwdefaults := .none, doc := .none, pyModule := .str ⟨#[99, 112, 121, 51, 49, 51, 46, 111, 112, 101, 114, 97, 116, 111, 114]⟩ 260, annotations := none, code := .ref 118, closureTuple := .none, builtins := 0 }
noncomputable def cntO : Obj := { cls := .type "function", data := .func cntFd }
theorem cnt_at (w : World) : (ktw w).get 119 = some cntO := by kernel_rfl
noncomputable def cdO (w : World) : Obj := match (ktw w).get 118 with
  | some o => o
  | none => cntO
theorem cd_at (w : World) : (ktw w).get 118 = some (cdO w) := by kernel_rfl
noncomputable def fieldsOf : Data → Array Value
  | .fields vs => vs
  | _ => #[]
theorem cd_fields (w : World) : (cdO w).data = .fields (fieldsOf (cdO w).data) := by kernel_rfl
theorem cd_one (w : World) : (fieldsOf (cdO w).data)[1]? = some (.str cntFd.qualname 319) := by kernel_rfl
theorem cnt_body : ∃ p0 p1 p2 p3 p4 p5 p6 p7 p8 p9 p10 p11 p12 p13 p14 p15 p16 p17 p18 k0 k1, defBody (topAt 13) =
    [.Assign [.Name nmC p0] (.Constant (.int 0) k0 p1) p2,
     .For (.Name nmI p3) (.Name nmA p4) [.If (.BoolOp .Or [.Compare (.Name nmI p5) [.Is] [.Name nmB p6] p7, .Compare (.Name nmI p8) [.Eq] [.Name nmB p9] p10] p11) [.AugAssign (.Name nmC p12) .Add (.Constant (.int 1) k1 p13) p14] [] p15] [] p16,
     .Return (some (.Name nmC p17)) p18] := ⟨_, _, _, _, _, _, _, _, _, _, _, _, _, _, _, _, _, _, _, _, _, rfl⟩

/-- an item v against the value that is counted: `v is b` and `v == b` -/
structure CmpOk (bv v : Value) (β : Bool) : Prop where
  is : ∀ (M : Model) (A : Around) (E : Value → Shared → Prop) (s : Shared) (Q : Value → Shared → Prop), NoneBooked s.heap → (∀ r : Bool, (r = true → β = true) → Q (.bool r) s) → wpAny M A (compareOp .Is v bv) Q E s
  eq : ∀ (prog : Program) (w : World) (A : Around) (E : Value → Shared → Prop) (s : Shared) (Q : Value → Shared → Prop), Q (.bool β) s → wpAny (model prog w) A (compareOp .Eq v bv) Q E s
theorem nz {u v : Nat} (hu : 0 < u) (hv : 0 < v) : (u == 0 || v == 0) = false := by
  have h1 : (u == 0) = false := by rw [beq_eq_false_iff_ne]; omega
  have h2 : (v == 0) = false := by rw [beq_eq_false_iff_ne]; omega
  rw [h1, h2]; rfl
theorem cmp_str {y z : Str} {u t : Nat} (hu : 0 < u) (ht : 0 < t) (h : y ≠ z → u ≠ t) : CmpOk (.str z t) (.str y u) (y == z) where
  is := fun M A E s Q nb hq => by
    show wpAny M A (do return .bool (← isSame (.str y u) (.str z t))) Q E s
    by_cases e : y = z
    · refine wpAny_bind (wpAny_isSame_str (nz hu ht) nb fun b => wpAny_pure (hq b fun _ => ?_))
      rw [beq_iff_eq]; exact e
    · have e1 : (y == z) = false := by rw [beq_eq_false_iff_ne]; exact e
      have e2 : (u == t) = false := by rw [beq_eq_false_iff_ne]; exact h e
      refine wpAny_bind (wpAny_of_eq (isSame_str_other y z u t (nz hu ht) e2 e1) (wpAny_pure (hq false fun x => nomatch x)))
  eq := fun prog w A E s Q hq => PyProof.Rows.eq_str hq
theorem cmp_int {a c : Int} {u t : Nat} (hu : 0 < u) (ht : 0 < t) (hs : smallInt a = true) (h : a ≠ c → u ≠ t) : CmpOk (.int c t) (.int a u) (a == c) where
  is := fun M A E s Q nb hq => by
    show wpAny M A (do return .bool (← isSame (.int a u) (.int c t))) Q E s
    refine wpAny_bind ?_
    show wpAny M A (if (a == c && smallInt a) = true then isSame.cachedInt u t else isSame.created (a == c) u t) _ E s
    by_cases e : a = c
    · have e1 : (a == c) = true := by rw [beq_iff_eq]; exact e
      rw [e1, hs, if_pos (by rfl)]
      show wpAny M A (if (u == 0 || t == 0) = true then _ else _) _ E s
      rw [nz hu ht, if_neg Bool.false_ne_true]
      exact wpAny_bind (wpAny_rule (wpAny_pure (wpAny_pure (hq true fun _ => e1))))
    · have e1 : (a == c) = false := by rw [beq_eq_false_iff_ne]; exact e
      have e2 : (u == t) = false := by rw [beq_eq_false_iff_ne]; exact h e
      rw [e1, hs, if_neg (by decide)]
      show wpAny M A (if (u == 0 || t == 0) = true then _ else if (u == t) = true then pure true else if (!false) = true then pure false else _) _ E s
      rw [nz hu ht, if_neg Bool.false_ne_true, e2, if_neg Bool.false_ne_true]
      exact (show wpAny M A (pure false) (fun a s' => wpAny M A (pure (Value.bool a)) Q E s') E s from wpAny_pure (wpAny_pure (hq false fun x => nomatch x)))
  eq := fun prog w A E s Q hq => PyProof.Rows.eq_int hq
noncomputable def csO (w : World) : Obj := match (ktw w).get cStatics with
  | some o => o
  | none => cntO
theorem cs_at (w : World) : (ktw w).get cStatics = some (csO w) := by kernel_rfl
noncomputable def dictOf : Data → Array DictEntry
  | .dict es _ => es
  | _ => #[]
noncomputable def dictN : Data → Nat
  | .dict _ n => n
  | _ => 0
theorem cs_dict (w : World) : (csO w).data = .dict (dictOf (csO w).data) (dictN (csO w).data) := by kernel_rfl
noncomputable def isStrKey (e : DictEntry) : Bool := match e.key with
  | .str .. => true
  | _ => false
theorem cs_keys (w : World) : (dictOf (csO w).data).toList.all isStrKey = true := by kernel_rfl
theorem cs_none (w : World) : nsFind (dictOf (csO w).data) sharingNotToldKey = none := by kernel_rfl
theorem booked {w : World} {h : Heap} (e : h.get? cStatics = some (csO w)) : NoneBooked h := by
  refine ⟨nsFind (dictOf (csO w).data), ⟨csO w, _, _, e, cs_dict w, fun x hx => ?_, fun _ => rfl⟩, cs_none w⟩
  have := List.all_eq_true.mp (cs_keys w) x (by simpa using hx)
  unfold isStrKey at this
  split at this
  · rename_i n t hk
    exact ⟨n, t, hk⟩
  · cases this
end Mine
end
section
set_option maxRecDepth 100000
set_option maxHeartbeats 400000
namespace Mine
open PySem PySem.Spec PySem.Calls PyProof.Rows PySem.W PySem.W.X
section
variable (L a : Nat)
theorem cnt_kI : (callEnv cntFd L a).kindOf nmI = some .local := by kernel_rfl
theorem cnt_kA : (callEnv cntFd L a).kindOf nmA = some .local := by kernel_rfl
theorem cnt_kB : (callEnv cntFd L a).kindOf nmB = some .local := by kernel_rfl
theorem cnt_kC : (callEnv cntFd L a).kindOf nmC = some .local := by kernel_rfl
theorem cnt_kind : (callEnv cntFd L a).scope.kind = .function := by kernel_rfl
theorem cnt_hp : ((callEnv cntFd L a).scope.kind == .class || ((callEnv cntFd L a).scope.kind == .module && (callEnv cntFd L a).locals != (callEnv cntFd L a).globals)) = false := by kernel_rfl
end
theorem cnt_bind (x y : Value) : bindArgs cntFd ⟨[x, y], []⟩ = pure [(nmA, x), (nmB, y)] := by kernel_rfl
theorem cnt_cells : cntFd.scope.names.all (fun x => x.2 != .cell) = true := by kernel_rfl
theorem cnt_locA : cntFd.scope.names.lookup nmA = some .local := by kernel_rfl
theorem cnt_locB : cntFd.scope.names.lookup nmB = some .local := by kernel_rfl
theorem cnt_co : cntFd.scope.isCoroutine = false := by kernel_rfl
theorem cnt_gen : cntFd.scope.isGenerator = false := by kernel_rfl
theorem cnt_fun : cntFd.scope.kind = .function := by kernel_rfl
noncomputable def cntT (bs : List Bool) : Nat := bs.countP id
theorem cntT_snoc (bs : List Bool) (i : Nat) (β : Bool) (h : bs[i]? = some β) : (cntT (bs.take (i + 1)) : Int) = cntT (bs.take i) + (if β then 1 else 0) := by
  unfold cntT
  rw [List.take_add_one, h, List.countP_append]
  cases β <;> simp
theorem cnt_call (w : World) (lo : Nat) (h0 : 0 < lo) (gl : List GenState) (l n : Nat) (vs : List Value) (bv : Value) (bs : List Bool) (hlen : vs.length = bs.length)
    (H : ∀ (i : Nat) (v : Value) (β : Bool), vs[i]? = some v → bs[i]? = some β → CmpOk bv v β) :
    SpcT w 120 lo (.call (.ref 119) ⟨[.ref l, bv], []⟩) gl [(l, lst vs n)]
      (fun tk' r E2 gl2 => ∃ t, r = .ok (.ret (.int (cntT bs : Int) t)) ∧ E2 = [(l, lst vs n)] ∧ gl2 = gl ∧ InT tk' t) := by
  obtain ⟨p0, p1, p2, p3, p4, p5, p6, p7, p8, p9, p10, p11, p12, p13, p14, p15, p16, p17, p18, k0, k1, hb⟩ := cnt_body
  intro A R h d tk os hA hdep P hlo K
  have hE : h.get? l = some (lst vs n) := P.at_ _ (.head _)
  have hL : h.IsList l vs.toArray := ⟨_, hE, rfl, n, rfl⟩
  have hcs : h.get? cStatics = some (csO w) := P.kt _ _ rfl (cs_at w)
  have htk : 0 < tk := Nat.lt_of_lt_of_le h0 hlo
  refine codeAny_call_plain (binds := [(nmA, .ref l), (nmB, bv)]) (by have := hdep.1; omega) (P.kt 119 _ rfl (cnt_at w)) rfl P.lim ⟨118, cdO w, _, _, rfl, P.kt 118 _ rfl (cd_at w), cd_fields w, cd_one w⟩ rfl (cnt_bind _ _)
    (fun x hx => ?_) (fun x hx => ?_) (fun h₀ hns keep => ?_) cnt_co cnt_gen cnt_fun
  · have := List.all_eq_true.mp cnt_cells x hx
    simpa using this
  · rcases List.mem_cons.mp hx with rfl | hx
    · exact cnt_locA
    · rw [List.mem_singleton.mp hx]; exact cnt_locB
  rw [hb]
  generalize hLd : h.objs.size = L at hns
  have hLn : ∀ b o, h.get? b = some o → b ≠ L := fun b o e q => by
    have := Heap.lt_size e
    rw [q, ← hLd] at this
    exact Nat.lt_irrefl _ this
  refine wpAny_execs_cons (wpAny_Assign_Name (wpAny_Constant_int (wpAny_storeName_local (cnt_kC L 119) hns (fun h1 hn1 hs1 => ?_) (cnt_hp L 119))) (by rfl))
  have keep1 : ∀ b o, h.get? b = some o → h1.get? b = some o := fun b o e => (hs1.2 b (hLn b o e)).trans (keep b o e)
  show wpAny _ _ (execs _ _) _ _ _
  refine wpAny_execs_cons (wpAny_For (wpAny_Name (wpAny_loadName_local (v := .ref l) (cnt_kind L 119) (cnt_kA L 119) hn1 (by rfl) (wpAny_pyIter_list (hL.at fun o e => keep1 l o e) ?_)) (by decide)) (by intro _; rfl))
  have hI0 : L < h1.objs.size := hn1.lt
  generalize hIt : h1.objs.size = It at hI0
  have hIn : ∀ b o, h1.get? b = some o → b ≠ It := fun b o e q => by
    have := Heap.lt_size e
    rw [q, ← hIt] at this
    exact Nat.lt_irrefl _ this
  refine codeAny_forLoop (fun k s => ∃ i h' tk' m' t, s = ⟨h', ⟨gl⟩, d, tk', os⟩ ∧ i + k = vs.length + 1 ∧ i ≤ vs.length ∧ h'.Ns L m' ∧ m' nmB = some bv ∧ m' nmC = some (.int (cntT (bs.take i) : Int) t) ∧ InT tk' t ∧ tk ≤ tk' ∧
    h'.IsListIter It l i ∧ (∀ b o, h.get? b = some o → h'.get? b = some o) ∧ h.objs.size ≤ h'.objs.size) ?_ (vs.length + 1) ?_
  rotate_left
  · refine ⟨0, _, _, _, tk + 2, rfl, by omega, by omega, hn1.at' (fun o e => Heap.get?_push_of_some _ e), by rfl, by rfl, ?_, ?_, ?_, fun b o e => Heap.get?_push_of_some _ (keep1 b o e), ?_⟩
    · exact InT.add (a := 2) (b := 4) (by decide) (by decide)
    · exact Nat.le_add_right tk 4
    · rw [← hIt]
      exact ⟨_, Heap.get?_push_size _ rfl, rfl, rfl⟩
    · rw [hLd]
      show L ≤ (h1.push _).objs.size
      rw [Heap.size_push, hIt]
      exact Nat.le_succ_of_le (Nat.le_of_lt hI0)
  have hLI : L ≠ It := Nat.ne_of_lt hI0
  rintro k s ⟨i, h', tk', m', t, rfl, hk, hi, hn, hmB, hmC, ht, hle, hit, hkeep, hsz⟩
  by_cases hlt : i < vs.length
  · have kk0 : 0 < k := Nat.pos_of_ne_zero fun z => by subst z; exact Nat.not_succ_le_self _ ((show i = vs.length + 1 from hk) ▸ hi)
    have kk1 : k - 1 < k := Nat.sub_lt kk0 Nat.one_pos
    have kk2 : i + 1 + (k - 1) = vs.length + 1 := by rw [← hk, Nat.add_assoc, Nat.add_sub_cancel' kk0]
    have hv : vs[i]? = some vs[i] := List.getElem?_eq_getElem hlt
    have hlt' : i < bs.length := hlen ▸ hlt
    have hβ : bs[i]? = some bs[i] := List.getElem?_eq_getElem hlt'
    have cmp := H i _ _ hv hβ
    have hcnt := cntT_snoc bs i _ hβ
    generalize bs[i] = β at hβ cmp hcnt
    refine wpAny_pyNext_list_item (l := l) hit (hL.at (hkeep l)) (x := vs[i]) (by simp [hlt]) (fun h2 hit2 hs2 => ?_)
    have hn2 := hn.sameBut hs2 hLI
    refine wpAny_assign_Name (wpAny_storeName_local (cnt_kI L 119) hn2 (fun h3 hn3 hs3 => ?_) (cnt_hp L 119))
    have keep3 : ∀ b o, h.get? b = some o → h3.get? b = some o := fun b o e => (hs3.2 b (hLn b o e)).trans ((hs2.2 b (hIn b o (keep1 b o e))).trans (hkeep b o e))
    have nb : NoneBooked h3 := booked (keep3 _ _ hcs)
    have hit3 : h3.IsListIter It l (i + 1) := hit2.at fun o e => (hs3.2 It hLI.symm).trans e
    have size3 : h.objs.size ≤ h3.objs.size := by rw [hs3.1, hs2.1]; exact hsz
    refine wpAny_execs_cons (wpAny_If (isTrue_or (wpAny_isTrue_Compare1 (wpAny_Name (wpAny_loadName_local (v := vs[i]) (cnt_kind L 119) (cnt_kI L 119) hn3 (by rfl) (wpAny_Name (wpAny_loadName_local (v := bv) (cnt_kind L 119) (cnt_kB L 119) hn3 ?_
      (cmp.is _ _ _ _ _ nb fun r hr => wpAny_truthy_bool ?_)) (by decide))) (by decide)) (by rfl))))
    · exact hmB
    have yes : β = true → ∀ (E' : Value → Shared → Prop) (Q' : Flow → Shared → Prop), (∀ h4 t4 m4, h4.Ns L m4 → m4 nmB = some bv → m4 nmC = some (.int (cntT (bs.take (i + 1)) : Int) t4) → InT (tk' + 4) t4 → h4.IsListIter It l (i + 1) → (∀ b o, h.get? b = some o → h4.get? b = some o) → h.objs.size ≤ h4.objs.size → Q' .next ⟨h4, ⟨gl⟩, d, tk' + 4, os⟩) →
        wpAny (model pw w) (A.deeper (callEnv cntFd L 119)) (execs [.AugAssign (.Name nmC p12) .Add (.Constant (.int 1) k1 p13) p14] (callEnv cntFd L 119)) Q' E' ⟨h3, ⟨gl⟩, d, tk' + 1, os⟩ := by
      intro hb' E' Q' hq
      refine wpAny_execs_cons (wpAny_AugAssign_Name (wpAny_loadName_local (v := .int (cntT (bs.take i) : Int) t) (cnt_kind L 119) (cnt_kC L 119) hn3 hmC (wpAny_Constant_int (PyProof.Rows.iadd_int (wpAny_storeName_local (cnt_kC L 119) hn3 (fun h4 hn4 hs4 => wpAny_execs_nil ?_) (cnt_hp L 119))))))
      refine hq h4 (tk' + 2) _ hn4 hmB ?_ ?_ (hit3.at fun o e => (hs4.2 It hLI.symm).trans e) (fun b o e => (hs4.2 b (hLn b o e)).trans (keep3 b o e)) (by rw [hs4.1]; exact size3)
      · rw [hcnt, hb']
        rfl
      · exact InT.add (a := 2) (b := 4) (by decide) (by decide)
    have eqs : β = false ∨ β = true := by cases β <;> simp
    cases r with
    | true =>
      refine yes (hr rfl) _ _ fun h4 t4 m4 a1 a2 a3 a4 a5 a6 a7 => wpAny_execs_nil ⟨k - 1, kk1, i + 1, h4, _, m4, t4, rfl, kk2, hlt, a1, a2, a3, a4, Nat.le_trans hle (Nat.le_add_right _ 4), a5, a6, a7⟩
    | false =>
      refine isTrue_or (wpAny_isTrue_Compare1 (wpAny_Name (wpAny_loadName_local (v := vs[i]) (cnt_kind L 119) (cnt_kI L 119) hn3 (by rfl) (wpAny_Name (wpAny_loadName_local (v := bv) (cnt_kind L 119) (cnt_kB L 119) hn3 ?_
        (cmp.eq _ _ _ _ _ _ (wpAny_truthy_bool ?_))) (by decide))) (by decide)) (by rfl))
      · exact hmB
      cases β with
      | true => exact yes rfl _ _ fun h4 t4 m4 a1 a2 a3 a4 a5 a6 a7 => wpAny_execs_nil ⟨k - 1, kk1, i + 1, h4, _, m4, t4, rfl, kk2, hlt, a1, a2, a3, a4, Nat.le_trans hle (Nat.le_add_right _ 4), a5, a6, a7⟩
      | false =>
        refine isTrue_or_nil (wpAny_execs_nil (wpAny_execs_nil ⟨k - 1, kk1, i + 1, h3, _, _, t, rfl, kk2, hlt, hn3, hmB, ?_, ht.mono (Nat.le_succ _), Nat.le_succ_of_le hle, hit3, keep3, size3⟩))
        rw [hcnt]
        simpa using hmC
  · have hin : i = vs.length := by omega
    subst hin
    refine wpAny_pyNext_list_end (l := l) ?_ hit (hL.at (hkeep l)) (by simp) (fun h2 he => wpAny_execs_nil ?_)
    · exact hA
    have hn2 := hn.extBut he hLI
    refine wpAny_execs_cons (wpAny_Return_some (wpAny_Name (wpAny_loadName_local (v := .int (cntT (bs.take vs.length) : Int) t) (cnt_kind L 119) (cnt_kC L 119) hn2 hmC ?_) (by decide)))
    show R (.ok (.ret (.int (cntT (bs.take vs.length) : Int) t))) _
    have keep2 : ∀ b o, h.get? b = some o → h2.get? b = some o := fun b o e => he b o (hIn b o (keep1 b o e)) (hkeep b o e)
    refine K _ h2 [(l, lst vs n)] gl tk' hle ⟨?_, fun b o e _ => keep2 b o e, fun p hp => ?_, by simp, fun p hp => .inl (List.mem_map_of_mem hp)⟩ ⟨t, ?_, rfl, rfl, ht⟩
    · rw [hLd]; exact Nat.le_of_lt hn2.lt
    · rw [List.mem_singleton.mp hp]; exact keep2 _ _ hE
    · rw [hlen, List.take_length]
end Mine
end
section
set_option maxRecDepth 100000
set_option maxHeartbeats 400000
namespace Mine
open PySem PySem.Spec PySem.Calls PyProof.Rows PySem.W PySem.W.X
noncomputable def retE : Option Stmt → Expr
  | some (.Return (some e) _) => e
  | _ => .Constant .none 0 default
noncomputable def compScope : Expr → Scope
  | .ListComp _ _ sc _ => sc
  | _ => default
/-- the loop of a comprehension e in a function whose code object is cd -/
noncomputable def cmpC (e : Expr) (q : List Nat) (cd it acc dl fr : Nat) : Code :=
  .compLoop e 0 (.ref (it + 178)) (.ref (acc + 178)) { scope := compScope e, locals := dl + 178, globals := 3, cells := [], qual := ⟨q.toArray⟩, func := none, code := .ref cd, frame := some (fr + 178), builtins := 0 }
noncomputable abbrev liX : Expr := retE (stAt 20 5)
noncomputable def itO (l : Value) (j : Nat) : Obj := { cls := .type "list_iterator", data := .fields #[l, .int (.ofNat j) 0] }
noncomputable abbrev sWord : List Nat := [119, 111, 114, 100]
noncomputable def spK : Code → Bool := fun c => match c with | .call (.ref a) _ => Nat.beq a 42 || Nat.beq a 49 || Nat.beq a 119 | .forLoop .. => true | .compLoop .. => true | _ => false
end Mine
end
section
set_option genInjectivity false
set_option maxRecDepth 100000
set_option maxHeartbeats 400000
namespace Mine
open PySem PySem.Spec PySem.Calls PyProof.Rows PySem.W PySem.W.X
/-- what of a comprehension does not turn -/
structure Cf where
  it : Nat
  sl : Nat
  ac : Nat
  dl : Nat
  fr : Nat
noncomputable abbrev cfE (C : Cf) (ws : List Value) (j : Nat) (out : List Value) (od : Obj) : List (Nat × Obj) :=
  [(C.it + 178, itO (.ref (C.sl + 178)) j), (C.sl + 178, lst ws 0), (C.ac + 178, lst out j), (C.dl + 178, od)]
noncomputable abbrev liC (C : Cf) : Code := cmpC liX lnQ 154 C.it C.ac C.dl C.fr
/-- the unknowns of a comprehension's turn -/
structure Cv where
  n : Nat
  tk : Nat
  P : Nat → Pos
  B : Nat → List (Code × Pos)
  hh : Int
  tt : Nat
  xv : Value
  wf : Nat → Value
  ov : Nat → Value
noncomputable abbrev odAt (nm : List Nat) (V : Cv) (j : Nat) : Obj := cond (Nat.beq j 0) (dct [] 0) (dct [(V.hh, nm, V.tt, V.xv)] 1)
noncomputable abbrev odTo (w : World) (nm : List Nat) (V : Cv) (j : Nat) (x : Value) : Obj := dct [(cond (Nat.beq j 0) (PyData.keyHash w.params ⟨nm.toArray⟩) V.hh, nm, cond (Nat.beq j 0) V.tk V.tt, x)] 1
noncomputable def li0 (w : World) (oc : List Nat) (C : Cf) (V : Cv) (gl : List GenState) (j : Nat) (x : Value) : Out :=
  go w spK 1000 (liC C) oc V.P V.B (cfE C (put7 V.wf j x) j (vals V.ov 0 j) (odAt sWord V j)) 4 V.n V.tk gl
noncomputable abbrev ocW : List Nat := [1, 1, 1, 1, 2, 1, 1, 4, 4, 4, 4, 3, 3, 3, 3]
noncomputable abbrev ocX : List Nat := [1, 1, 1, 1, 2, 1, 1, 4, 4, 4, 3, 3, 3, 3]
noncomputable abbrev ocY : List Nat := [1, 1, 1, 1, 2, 1, 1, 6]
noncomputable abbrev i4 : List Nat := [0, 1, 2, 3]
section
variable (b1 b2 : Bool) (w : World) (C : Cf) (V : Cv) (gl : List GenState) (t c : Nat)
theorem li_runsE :
    tab (fun j => vNt i4 (li0 (fol b1 b2 w) ocW C V gl j (emp t))) 7 =
    tab2 (fun j => (vNR (liC C) (cfE C (put7 V.wf j (emp t)) (j + 1) (vals V.ov 0 j ++ [emp t]) (odTo (fol b1 b2 w) sWord V j (emp t))) gl (li0 (fol b1 b2 w) ocW C V gl j (emp t)), V.tk + 2)) 7 := by
  cases b1 <;> kernel_rfl
theorem li_runsL :
    tab (fun j => vNt i4 (li0 (fol b1 b2 w) ocW C V gl j (wdv c t))) 7 =
    tab2 (fun j => (vNR (liC C) (cfE C (put7 V.wf j (wdv c t)) (j + 1) (vals V.ov 0 j ++ [wdv c t]) (odTo (fol b1 b2 w) sWord V j (wdv c t))) gl (li0 (fol b1 b2 w) ocW C V gl j (wdv c t)), V.tk + 2)) 7 := by
  cases b1 <;> kernel_rfl
theorem li_runsD :
    tab (fun j => vNt i4 (li0 (fol b1 b2 w) ocX C V gl j (.str ⟨#[46]⟩ t))) 7 =
    tab2 (fun j => (vNR (liC C) (cfE C (put7 V.wf j (.str ⟨#[46]⟩ t)) (j + 1) (vals V.ov 0 j ++ [emp (V.tk + 2)]) (odTo (fol b1 b2 w) sWord V j (.str ⟨#[46]⟩ t))) gl (li0 (fol b1 b2 w) ocX C V gl j (.str ⟨#[46]⟩ t)), V.tk + 3)) 7 := by
  cases b1 <;> kernel_rfl
noncomputable abbrev itZ (j : Nat) : Obj := { cls := .type "list_iterator", data := .fields #[.none, .int (.ofNat j) 0] }
noncomputable abbrev cfZ (C : Cf) (ws : List Value) (out : List Value) (od : Obj) : List (Nat × Obj) :=
  [(C.it + 178, itZ 7), (C.sl + 178, lst ws 0), (C.ac + 178, lst out 7), (C.dl + 178, od)]
theorem li_runZ (hh : Int) (tt : Nat) (xv : Value) :
    vL i4 (go (fol b1 b2 w) spK 1000 (liC C) ocY V.P V.B (cfE C (vals V.wf 0 7) 7 (vals V.ov 0 7) (dct [(hh, sWord, tt, xv)] 1)) 4 V.n V.tk gl) =
    vR (.ok .next) (cfZ C (vals V.wf 0 7) (vals V.ov 0 7) (dct [(hh, sWord, tt, xv)] 1)) gl (go (fol b1 b2 w) spK 1000 (liC C) ocY V.P V.B (cfE C (vals V.wf 0 7) 7 (vals V.ov 0 7) (dct [(hh, sWord, tt, xv)] 1)) 4 V.n V.tk gl) := by
  kernel_rfl
end
/-- what the line's comprehension makes of a word -/
noncomputable def bare : Wd → Wd
  | .d => .e
  | x => x
noncomputable def OdOk (nm : List Nat) (j : Nat) (od : Obj) : Prop := (j = 0 ∧ od = dct [] 0) ∨ (j ≠ 0 ∧ ∃ hh tt xv, od = dct [(hh, nm, tt, xv)] 1)
theorem odAt_of {nm : List Nat} {j : Nat} {od : Obj} (h : OdOk nm j od) (n tk : Nat) (P : Nat → Pos) (B : Nat → List (Code × Pos)) (wf ov : Nat → Value) : ∃ V : Cv, V.n = n ∧ V.tk = tk ∧ V.P = P ∧ V.B = B ∧ V.wf = wf ∧ V.ov = ov ∧ od = odAt nm V j := by
  rcases h with ⟨rfl, rfl⟩ | ⟨hj, hh, tt, xv, rfl⟩
  · exact ⟨⟨n, tk, P, B, 0, 0, .none, wf, ov⟩, rfl, rfl, rfl, rfl, rfl, rfl, rfl⟩
  · refine ⟨⟨n, tk, P, B, hh, tt, xv, wf, ov⟩, rfl, rfl, rfl, rfl, rfl, rfl, ?_⟩
    have : Nat.beq j 0 = false := by
      cases q : Nat.beq j 0 with
      | false => rfl
      | true => exact absurd (Nat.eq_of_beq_eq_true q) hj
    unfold odAt
    rw [this]
    rfl
theorem odTo_ok (w : World) (nm : List Nat) (V : Cv) (j : Nat) (x : Value) : OdOk nm (j + 1) (odTo w nm V j x) := .inr ⟨by omega, _, _, _, rfl⟩
noncomputable abbrev LiPost (C : Cf) (gl : List GenState) (ws : List Value) (G : List Wd) : Nat → Result → List (Nat × Obj) → List GenState → Prop := fun tk' r E2 gl2 =>
  ∃ (out : List (Wd × Nat)) (hh : Int) (tt : Nat) (xv : Value), r = .ok .next ∧ gl2 = gl ∧ out.map (·.1) = G ∧ E2 = cfZ C ws (out.map wvv) (dct [(hh, sWord, tt, xv)] 1) ∧ ∀ x ∈ out, InT tk' x.2
noncomputable def LiP (C : Cf) (gl : List GenState) (ws : List (Wd × Nat)) (n : Nat) : Prop :=
  ∀ (w : World) (lo j : Nat) (od : Obj) (out : List (Wd × Nat)), j + n = 7 → out.length = j → OdOk sWord j od → (∀ x ∈ out, InT lo x.2) → (∀ x ∈ ws, InT lo x.2) →
    SpcT w 120 lo (liC C) gl (cfE C (ws.map wvv) j (out.map wvv) od) (LiPost C gl (ws.map wvv) (out.map (·.1) ++ (ws.drop j).map fun x => bare x.1))
theorem li_P0 (C : Cf) (gl : List GenState) (ws : List (Wd × Nat)) (hw : ws.length = 7) : LiP C gl ws 0 := by
  intro w lo j od out hj ho hd b1 b2
  have hj : j = 7 := hj
  subst hj
  rcases hd with ⟨h0, _⟩ | ⟨_, hh, tt, xv, rfl⟩
  · exact absurd h0 (by decide)
  refine spcT_fol fun c1 c2 => ?_
  have e1 : vals (fun j => (ws.map wvv).getD j .none) 0 7 = ws.map wvv := by
    have := vals_of (ws.map wvv) (fun j => (ws.map wvv).getD j .none) 0 fun i _ => by rw [Nat.zero_add]
    rw [List.length_map, hw] at this
    exact this
  have e2 : vals (fun j => (out.map wvv).getD j .none) 0 7 = out.map wvv := by
    have := vals_of (out.map wvv) (fun j => (out.map wvv).getD j .none) 0 fun i _ => by rw [Nat.zero_add]
    rw [List.length_map, ho] at this
    exact this
  have R := fun n tk P B => li_runZ c1 c2 w C ⟨n, tk, P, B, 0, 0, .none, fun j => (ws.map wvv).getD j .none, fun j => (out.map wvv).getD j .none⟩ gl hh tt xv
  dsimp only at R
  rw [e1, e2] at R
  refine spcT_of spK 1000 ocY 4 rfl (by kernel_rfl) (by decide) fun A R' h d tk os hA hdep Pr hlo K n' P B => ?_
  refine sat_retV (R n' tk P B) (by decide) fun h' tk' le F' => K _ _ _ _ _ le F' ⟨out, hh, tt, xv, rfl, rfl, ?_, rfl, fun x hx => (b1 x hx).mono (Nat.le_trans hlo le)⟩
  rw [List.drop_eq_nil_of_le (by omega)]
  simp
theorem li_PS (C : Cf) (gl : List GenState) (ws : List (Wd × Nat)) (hw : ws.length = 7) (n : Nat) (IH : LiP C gl ws n) : LiP C gl ws (n + 1) := by
  intro w lo j od out hj ho hd b1 b2
  have j7 : j < 7 := by omega
  have jw : j < ws.length := by omega
  refine spcT_fol fun c1 c2 => ?_
  have pc := put7_self (ws.map wvv) (by simpa using hw) j j7
  have ev : vals (fun j => (out.map wvv).getD j .none) 0 j = out.map wvv := by
    have := vals_of (out.map wvv) (fun j => (out.map wvv).getD j .none) 0 fun i _ => by rw [Nat.zero_add]
    rw [List.length_map, ho] at this
    exact this
  have ec : (ws.map wvv).getD j .none = wv (ws[j].1) (ws[j].2) := by simp [List.getD_eq_getElem?_getD, jw, wvv]
  have it := b2 _ (List.getElem_mem jw)
  have dr : (ws.drop j).map (fun x => bare x.1) = bare ws[j].1 :: (ws.drop (j + 1)).map (fun x => bare x.1) := by
    rw [List.drop_eq_getElem_cons jw, List.map_cons]
  rw [dr]
  generalize ws[j].1 = cw at ec
  generalize ws[j].2 = t at ec it
  rw [ec] at pc
  have nxt : ∀ (lo' : Nat) (od' : Obj) (tx : Nat), OdOk sWord (j + 1) od' → lo ≤ lo' → InT lo' tx →
      SpcT (fol c1 c2 w) 120 lo' (liC C) gl (cfE C (ws.map wvv) (j + 1) (out.map wvv ++ [wv (bare cw) tx]) od') (LiPost C gl (ws.map wvv) (out.map (·.1) ++ bare cw :: (ws.drop (j + 1)).map fun x => bare x.1)) := by
    intro lo' od' tx ho' le ix
    have z := IH (fol c1 c2 w) lo' (j + 1) od' (out ++ [(bare cw, tx)]) (by omega) (by simp [ho]) ho' (fun y hy => by
      rcases List.mem_append.mp hy with hy | hy
      · exact (b1 y hy).mono le
      · rw [List.mem_singleton.mp hy]; exact ix) fun y hy => (b2 y hy).mono le
    rw [List.map_append, List.map_append, List.map_singleton, List.map_singleton, List.append_assoc] at z
    exact z
  cases cw with
  | e =>
    refine spcT_of spK 1000 ocW 4 rfl (by kernel_rfl) (by decide) fun A R h d tk os hA hdep Pr hlo K n' P B => ?_
    obtain ⟨V, v1, v2, v3, v4, v5, v6, rfl⟩ := odAt_of hd n' tk P B (fun j => (ws.map wvv).getD j .none) (fun j => (out.map wvv).getD j .none)
    have h1 := tab_get (li_runsE c1 c2 w C V gl t) j j7
    unfold li0 at h1
    rw [v1, v2, v3, v4, v5, v6, ev] at h1
    rw [show put7 (fun j => (ws.map wvv).getD j .none) j (emp t) = ws.map wvv from pc] at h1
    unfold vNt at h1
    rw [Prod.mk.injEq] at h1
    exact sat_nextT h1.1 (fun _ => Nat.le_of_eq h1.2.symm) (nxt (tk + 2) _ t (odTo_ok ..) (Nat.le_add_right_of_le hlo) (it.mono (Nat.le_add_right_of_le hlo))) (by decide) hA hdep Pr K
  | l c =>
    refine spcT_of spK 1000 ocW 4 rfl (by kernel_rfl) (by decide) fun A R h d tk os hA hdep Pr hlo K n' P B => ?_
    obtain ⟨V, v1, v2, v3, v4, v5, v6, rfl⟩ := odAt_of hd n' tk P B (fun j => (ws.map wvv).getD j .none) (fun j => (out.map wvv).getD j .none)
    have h1 := tab_get (li_runsL c1 c2 w C V gl t c) j j7
    unfold li0 at h1
    rw [v1, v2, v3, v4, v5, v6, ev] at h1
    rw [show put7 (fun j => (ws.map wvv).getD j .none) j (wdv c t) = ws.map wvv from pc] at h1
    unfold vNt at h1
    rw [Prod.mk.injEq] at h1
    exact sat_nextT h1.1 (fun _ => Nat.le_of_eq h1.2.symm) (nxt (tk + 2) _ t (odTo_ok ..) (Nat.le_add_right_of_le hlo) (it.mono (Nat.le_add_right_of_le hlo))) (by decide) hA hdep Pr K
  | d =>
    refine spcT_of spK 1000 ocX 4 rfl (by kernel_rfl) (by decide) fun A R h d tk os hA hdep Pr hlo K n' P B => ?_
    obtain ⟨V, v1, v2, v3, v4, v5, v6, rfl⟩ := odAt_of hd n' tk P B (fun j => (ws.map wvv).getD j .none) (fun j => (out.map wvv).getD j .none)
    have h1 := tab_get (li_runsD c1 c2 w C V gl t) j j7
    unfold li0 at h1
    rw [v1, v2, v3, v4, v5, v6, ev] at h1
    rw [show put7 (fun j => (ws.map wvv).getD j .none) j (.str ⟨#[46]⟩ t) = ws.map wvv from pc] at h1
    unfold vNt at h1
    rw [Prod.mk.injEq] at h1
    exact sat_nextT h1.1 (fun _ => Nat.le_of_eq h1.2.symm) (nxt (tk + 3) _ (tk + 2) (odTo_ok ..) (Nat.le_add_right_of_le hlo) (InT.add (by decide) (by decide))) (by decide) hA hdep Pr K
theorem li_all (C : Cf) (gl : List GenState) (ws : List (Wd × Nat)) (hw : ws.length = 7) : ∀ n, LiP C gl ws n
  | 0 => li_P0 C gl ws hw
  | n + 1 => li_PS C gl ws hw n (li_all C gl ws hw n)
end Mine
end
section
set_option genInjectivity false
set_option maxRecDepth 100000
set_option maxHeartbeats 400000
namespace Mine
open PySem PySem.Spec PySem.Calls PyProof.Rows PySem.W PySem.W.X
noncomputable abbrev tab0 : Obj := { cls := .none, data := .fields #[] }
noncomputable abbrev tab1 (c1 c2 : Nat) : Obj := { cls := .none, data := .fields #[.int 84 0, .int 4 0, .ref (c1 + 178), .int 88 0, .int 13 0, .ref (c2 + 178)] }
noncomputable abbrev lineC (cm fr : Nat) : Code := .call (.ref 155) ⟨[.ref (cm + 178), .ref (fr + 178)], []⟩
noncomputable abbrev ocS (b2 : Bool) : List Nat := [0, 0, 4, 4, 4, 4, 1, 0, 0, 0, 0, 6, 6, 1, 7, 7, 0, 3, 3, 3, 3, 0, 0, 0, 5, 5, 0, 3, 3, 3, 3, 0, 0, 0, 5, 5, 5, 5, 23, 23, 23, 23, 23, 23, 24, 24, 24, 0, 5, 0, 0, 0, 0, 0, 0, 0, 0, 0, 0, 0, 0, 0, 0, 0, 0, 0, 0, 0, 0, 0, 0, 0, 0, 0, 0, 0, 0, 26, 0, 26, 0, 0, 0, 0, 0, 0, 27, 27, 27, 27, 1, 27, 26, 0, 0, 0, 26, 0, 26, 0, 26, 0, 0, 0, 26, 0, 25, 25, 25, 27, 27, 26, 0, 0, 0, 26, 0, 26, 0, 26, 0, 0, 0, 26, 0, 25, 25, 25, 27, 26, 0, 0, 0, 26, 0, 26, 0, 26, 0, 0, 0, 26, 0, 25, 25, 25, 27, 26, 0, 0, 0, 26, 0, 26, 0, 26, 0, 0, 0, 26, 0, 25, 25, 25, 4, 4, 4, 4, 0, 0, 30, 30, 30, 30, 30, 30, 30, 30, 30, 30, 31, 0, 4, 0, 4, 4, 4, 26, 0, 0, 0, 26, 0, 0, 0, 26, 26, 0, 25, 4, 4, 4, 29, 29, 29, 29, 32, 32, 32, 32, 32, 29, 33, 33, 33] ++ cond b2 [34, 36, 36, 36] [34, 34, 34, 34, 34, 36, 36, 36]
noncomputable abbrev ocT (b2 : Bool) : List Nat := ([0, 0, 6, 6, 6, 6, 1, 0, 0, 0, 0, 8, 8, 1, 9, 9, 0, 3, 0, 0, 0, 7, 7, 0, 3, 0, 0, 0, 7, 7, 7, 7, 13, 13, 13, 13, 13, 13, 14, 14, 14, 0, 7, 0, 0, 0, 0, 0, 0, 0, 0, 0, 0, 0, 0, 0, 0, 0, 0, 0, 0, 0, 0, 0, 0, 0, 0, 0, 0, 0, 0, 16, 0, 16, 0, 0, 0, 0, 0, 0, 17, 17, 17, 17, 1, 17, 16, 0, 0, 0, 16, 0, 16, 0, 16, 0, 0, 0, 16, 0, 15, 15, 15, 17, 17, 16, 0, 0, 0, 16, 0, 16, 0, 16, 0, 0, 0, 16, 0, 15, 15, 15, 17, 16, 0, 0, 0, 16, 0, 16, 0, 16, 0, 0, 0, 16, 0, 15, 15, 15, 17, 16, 0, 0, 0, 16, 0, 16, 0, 16, 0, 0, 0, 16, 0, 15, 15, 15, 6, 6, 6, 6, 0, 0, 20, 20, 20, 20, 20, 20, 20, 20, 20, 20, 21, 0, 6, 0, 6, 6, 6, 16, 0, 0, 0, 16, 0, 0, 0, 16, 16, 0, 15, 6, 6, 6, 19, 19, 19, 19, 22, 22, 22, 22, 22, 19, 23, 23, 23] ++ cond b2 [24, 26, 26, 26] [24, 24, 24, 24, 24, 26, 26, 26]).map fun i => cond (Nat.blt 5 i) (i - 1) i
/-- heap, marks and positions behind a call -/
structure Un where
  n : Nat
  tk : Nat
  P : Nat → Pos
  B : Nat → List (Code × Pos)
noncomputable def dtOf (o : Out) (i : Nat) : FuncData := match o.st.T.get i with
  | some q => match q.2.data with
    | .func f => f
    | _ => cntFd
  | none => cntFd
noncomputable def rOf (o : Out) (i : Nat) : List Value := match o.st.T.get i with
  | some q => (fieldsOf q.2.data).toList.drop 2
  | none => []
noncomputable abbrev kh (w : World) (s : List Nat) : Int := PyData.keyHash w.params ⟨s.toArray⟩
noncomputable abbrev sCome : List Nat := [99, 111, 109, 101]
noncomputable abbrev sFree : List Nat := [102, 114, 101, 101]
noncomputable abbrev sLexer : List Nat := [108, 101, 120, 101, 114]
noncomputable abbrev sTold : List Nat := [116, 111, 108, 100]
noncomputable abbrev sLineno : List Nat := [108, 105, 110, 101, 110, 111]
noncomputable abbrev sInstream : List Nat := [105, 110, 115, 116, 114, 101, 97, 109]
noncomputable abbrev sWhite : List Nat := [119, 104, 105, 116, 101, 115, 112, 97, 99, 101]
noncomputable abbrev sPush : List Nat := [112, 117, 115, 104, 98, 97, 99, 107]
noncomputable abbrev sRead : List Nat := [114, 101, 97, 100]
noncomputable def liF (w : World) (cm fr ec ef l it td a c : Nat) : Lf :=
  ⟨l, it, td, cm, fr, kh w sCome, kh w sFree, kh w sLexer, kh w sTold, a, a + 1, c, c + 1, ec, ef⟩
noncomputable def liL (w : World) (x y z f fd rd cp ca al c1 k ct tp ca' cb : Nat) (dt : FuncData) (r : List Value) : Lx :=
  ⟨x, y, z, f, fd, rd, cp, ca, al, c1, kh w sLineno, kh w sInstream, kh w sWhite, kh w sPush, kh w sRead, k + 5, k + 7, k + 10, k + 12, k + 8, k, ct, 328, tp, 0, ca', cb, dt, r⟩
noncomputable abbrev iS : List Nat := [3, 30, 28, 0, 1, 25, 24, 22, 23, 15, 5, 6, 7, 14, 27]
noncomputable abbrev iT : List Nat := [4, 19, 17, 0, 1, 14, 13, 11, 12, 10, 6, 7, 8, 3, 16]
noncomputable def sO0 (b2 : Bool) (w : World) (cm fr : Nat) (cl fl : List Value) (ec ef : Nat) (gl : List GenState) (U : Un) : Out :=
  go w spK 3000 (lineC cm fr) (ocS b2) U.P U.B [(cm + 178, lst cl ec), (fr + 178, lst fl ef), (121, tab0)] 3 U.n U.tk gl
noncomputable abbrev sF (w : World) (cm fr ec ef : Nat) (U : Un) : Lf := liF w cm fr ec ef U.n (U.n + 27) (U.n + 25) U.tk (U.tk + 36)
noncomputable abbrev sL (w : World) (o : Out) (U : Un) : Lx := liL w (U.n + 22) (U.n + 21) (U.n + 24) (U.n + 19) (U.n + 20) (U.n + 12) (U.n + 2) (U.n + 3) (U.n + 4) (U.n + 11) (U.tk + 23) (U.n + 5) (U.tk + 4) (U.tk + 6) (U.tk + 7) (dtOf o 22) (rOf o 14)
noncomputable def tO0 (b2 : Bool) (w : World) (cm fr c1 c2 a b : Nat) (r : List Value) (cl fl : List Value) (ec ef : Nat) (gl : List GenState) (U : Un) : Out :=
  go w spK 3000 (lineC cm fr) (ocT b2) U.P U.B [(cm + 178, lst cl ec), (fr + 178, lst fl ef), (121, tab1 c1 c2), (c1 + 178, codeO a b r)] 4 U.n U.tk gl
noncomputable abbrev tF (w : World) (cm fr ec ef : Nat) (U : Un) : Lf := liF w cm fr ec ef U.n (U.n + 15) (U.n + 13) U.tk (U.tk + 22)
noncomputable abbrev tL (w : World) (o : Out) (c1 a b : Nat) (r : List Value) (U : Un) : Lx := liL w (U.n + 10) (U.n + 9) (U.n + 12) (U.n + 7) (U.n + 8) (U.n + 6) (U.n + 2) (U.n + 3) (U.n + 4) c1 (U.tk + 9) (U.n + 5) (U.tk + 4) a b (dtOf o 11) r
noncomputable abbrev lnS (F : Lf) (L : Lx) (he : Int) (e : Nat) (pm : Int) (te et : Nat) (tv : Nat → Value) (cl fl : List Value) (t5 ta : Nat) (ln p : Int) (oq : Obj) : List (Nat × Obj) :=
  lnE F L (frm5 F L.x he e (.int pm te)) 14 (vals tv 0 14) et cl fl t5 ta ln p oq
section
variable (b1 b2 : Bool) (w : World) (cm fr c1 c2 a b : Nat) (r : List Value) (cl fl : List Value) (ec ef : Nat) (gl : List GenState) (U : Un)
theorem s_run0 : vS iS (sO0 b2 (fol b1 b2 w) cm fr cl fl ec ef gl U) = vSR (lnFor (U.n + 27) U.n) 1 (lnE (sF (fol b1 b2 w) cm fr ec ef U) (sL (fol b1 b2 w) (sO0 b2 (fol b1 b2 w) cm fr cl fl ec ef gl U) U) (frm (frm4 (sF (fol b1 b2 w) cm fr ec ef U) (U.n + 22)) 4) 0 [] 0 cl fl (U.tk + 26) (U.tk + 5) 1 0 (lst [] 0)) gl (sO0 b2 (fol b1 b2 w) cm fr cl fl ec ef gl U) := by
  cases b1 <;> cases b2 <;> kernel_rfl
theorem t_run0 : vS iT (tO0 b2 (fol b1 b2 w) cm fr c1 c2 a b r cl fl ec ef gl U) = vSR (lnFor (U.n + 15) U.n) 1 (lnE (tF (fol b1 b2 w) cm fr ec ef U) (tL (fol b1 b2 w) (tO0 b2 (fol b1 b2 w) cm fr c1 c2 a b r cl fl ec ef gl U) c1 a b r U) (frm (frm4 (tF (fol b1 b2 w) cm fr ec ef U) (U.n + 10)) 4) 0 [] 0 cl fl (U.tk + 12) (U.tk + 5) 1 0 (lst [] 0)) gl (tO0 b2 (fol b1 b2 w) cm fr c1 c2 a b r cl fl ec ef gl U) := by
  cases b1 <;> cases b2 <;> kernel_rfl
end
end Mine
end
section
set_option maxRecDepth 100000
namespace Mine
open PySem PySem.Spec PySem.Calls PyProof.Rows PySem.W PySem.W.X
/-- every number below n names an entry -/
noncomputable def fullGo (T : LT) : Nat → Bool
  | 0 => true
  | n + 1 => (T.get n).isSome && fullGo T n
theorem fullGo_get {T : LT} : ∀ {n : Nat}, fullGo T n = true → ∀ i, i < n → (T.get i).isSome = true
  | n + 1, h, i, hi => by
    have h2 := Bool.and_eq_true_iff.mp h
    by_cases q : i = n
    · rw [q]; exact h2.1
    · exact fullGo_get h2.2 i (by omega)
theorem ins_some (a : Nat) (o : Obj) : ∀ (T : LT) (m : Nat), (∀ i, i < m → (T.get i).isSome = true) → ((T.ins m a o).get m).isSome = true
  | .nil, m, h => by
    cases m with
    | zero => rfl
    | succ m => exact absurd (h 0 (Nat.succ_pos m)) (by simp [LT.get])
  | .node b v l r, m, h => by
    rw [LT.ins_node]
    by_cases hm : m = 0
    · subst hm; rfl
    · rw [if_neg hm]
      by_cases pm : m % 2 = 1
      · rw [if_pos pm, LT.get_node, if_neg hm, if_pos pm]
        refine ins_some a o l (m / 2) fun i hi => ?_
        have := h (2 * i + 1) (by omega)
        rw [LT.get_node, if_neg (Nat.succ_ne_zero _), if_pos (LT.md_mod (by decide))] at this
        have e : (2 * i + 1) / 2 = i := LT.md_div (by decide) (by decide)
        rw [e] at this
        exact this
      · rw [if_neg pm, LT.get_node, if_neg hm, if_neg pm]
        refine ins_some a o r (m / 2 - 1) fun i hi => ?_
        have := h (2 * i + 2) (by omega)
        rw [LT.get_node, if_neg (Nat.succ_ne_zero _), if_neg (by rw [show 2 * i + 2 = 2 * (i + 1) + 0 from rfl, LT.md_mod (by decide)]; decide)] at this
        have e : (2 * i + 2) / 2 - 1 = i := by rw [show 2 * i + 2 = 2 * (i + 1) + 0 from rfl, LT.md_div (by decide) (by decide)]; rfl
        rw [e] at this
        exact this
theorem ltOk_full : ∀ (l : List (Nat × Obj)) (m : Nat) (T : LT), (∀ i, i < m → (T.get i).isSome = true) → ltOk l m T = true
  | [], _, _, _ => rfl
  | p :: l, m, T, h => by
    have h1 := ins_some p.1 p.2 T m h
    refine Bool.and_eq_true_iff.mpr ⟨h1, ltOk_full l (m + 1) _ fun i hi => ?_⟩
    rw [LT.get_ins p.1 p.2 T m h1]
    by_cases q : i = m
    · rw [if_pos q]; rfl
    · rw [if_neg q]; exact h i (by omega)
theorem setL_some : ∀ (idx : List Nat) (E : List (Nat × Obj)) (T : LT) (i : Nat), (T.get i).isSome = true → ((setL T idx E).get i).isSome = true
  | [], _, _, _, h => by unfold setL; exact h
  | j :: idx, [], _, _, h => by unfold setL; exact h
  | j :: idx, p :: E, T, i, h => by
    unfold setL
    refine setL_some idx E _ i ?_
    rw [LT.get_set]
    by_cases q : i = j
    · rw [if_pos q]; subst q; rw [Option.isSome_map]; exact h
    · rw [if_neg q]; exact h
/-- the side condition of a call that makes entries -/
theorem ok_new {E1 E2 : List (Nat × Obj)} {idx : List Nat} {m : Nat} {T : LT} (h : (E2.take idx.length).map (·.1) = E1.map (·.1)) (f : fullGo T m = true) :
    (E2.take idx.length).map (·.1) = E1.map (·.1) ∧ ltOk (E2.drop idx.length) m (setL T idx E2) = true :=
  ⟨h, ltOk_full _ _ _ fun i hi => setL_some idx E2 T i (fullGo_get f i hi)⟩
theorem ltOk_nil (i : Nat) (T : LT) : ltOk [] i T = true := rfl
/-- the side condition of a call that leaves its entries where they are and makes none -/
theorem ok_same {E1 E2 : List (Nat × Obj)} {idx : List Nat} (m : Nat) (T : LT) (h : E2.map (·.1) = E1.map (·.1)) (hl : E1.length = idx.length) :
    (E2.take idx.length).map (·.1) = E1.map (·.1) ∧ ltOk (E2.drop idx.length) m T = true := by
  have hl2 : E2.length = idx.length := by
    have := congrArg List.length h
    rw [List.length_map, List.length_map] at this
    omega
  rw [List.take_of_length_le (Nat.le_of_eq hl2), List.drop_eq_nil_of_le (Nat.le_of_eq hl2)]
  exact ⟨h, ltOk_nil _ _⟩
end Mine
end
section
set_option genInjectivity false
set_option maxRecDepth 100000
set_option maxHeartbeats 400000
namespace Mine
open PySem PySem.Spec PySem.Calls PyProof.Rows PySem.W PySem.W.X
/-- a comprehension's scope in place: the names that are the function's cells -/
noncomputable def scC (s : Scope) : Scope := { s with names := s.names.map fun p => match p.2 with | .free => (p.1, .cell) | _ => p }
noncomputable def cmpK (e : Expr) (q : List Nat) (cd it acc dl fr : Nat) (cells : List (Str × Nat)) : Code :=
  .compLoop e 0 (.ref (it + 178)) (.ref (acc + 178)) { scope := scC (compScope e), locals := dl + 178, globals := 3, cells := cells, qual := ⟨q.toArray⟩, func := none, code := .ref cd, frame := some (fr + 178), builtins := 0 }
theorem vals_map {α : Type} (l : List α) (g : α → Value) {n : Nat} (h : l.length = n) : vals (fun j => (l.map g).getD j .none) 0 n = l.map g := by
  have := vals_of (l.map g) (fun j => (l.map g).getD j .none) 0 fun i _ => by rw [Nat.zero_add]
  rw [List.length_map, h] at this
  exact this
theorem put7_map {α : Type} (l : List α) (g : α → Value) (h : l.length = 7) (j : Nat) (hj : j < 7) : put7 (fun j => (l.map g).getD j .none) j (g (l[j]'(by omega))) = l.map g := by
  have e : (l.map g).getD j .none = g (l[j]'(by omega)) := by
    have : j < l.length := by omega
    simp [List.getD_eq_getElem?_getD, this]
  have p := put7_self (l.map g) (by simpa using h) j hj
  rw [e] at p
  exact p
/-- turn by turn: I lo j E holds of the entries ahead of turn j -/
theorem loop_ind {D : Nat} {C : Code} {gl : List GenState} {Post : Nat → Result → List (Nat × Obj) → List GenState → Prop} {N : Nat} (I : Nat → Nat → List (Nat × Obj) → Prop)
    (step : ∀ w lo j E, j < N → I lo j E → (∀ w lo' E', lo ≤ lo' → I lo' (j + 1) E' → SpcT w D lo' C gl E' Post) → SpcT w D lo C gl E Post)
    (fin : ∀ w lo E, I lo N E → SpcT w D lo C gl E Post) : ∀ n j, j + n = N → ∀ w lo E, I lo j E → SpcT w D lo C gl E Post
  | 0, j, h, w, lo, E, i => fin w lo E (by rw [← h]; exact i)
  | n + 1, j, h, w, lo, E, i => step w lo j E (by omega) i fun w lo' E' _ i' => loop_ind I step fin n (j + 1) (by omega) w lo' E' i'
noncomputable abbrev ndX : Expr := retE (stAt 19 0)
/-- "_law_named.<locals>." -/
noncomputable def ndQ : List Nat := [95, 108, 97, 119, 95, 110, 97, 109, 101, 100, 46, 60, 108, 111, 99, 97, 108, 115, 62, 46]
structure Nf where
  it : Nat
  ac : Nat
  dl : Nat
  cl : Nat
  fl : Nat
  fr : Nat
  ef : Nat
noncomputable abbrev ndC (C : Nf) : Code := cmpK ndX ndQ 149 C.it C.ac C.dl C.fr [(⟨sFree.toArray⟩, C.cl + 178)]
noncomputable abbrev ndE (C : Nf) (j : Nat) (out : List Value) (od : Obj) (fl : List Value) : List (Nat × Obj) :=
  [(C.it + 178, rgI (.ofNat j) (.ofNat (7 - j)) 1), (C.ac + 178, lst out j), (C.dl + 178, od), (C.cl + 178, cellO (.ref (C.fl + 178))), (C.fl + 178, lst fl C.ef)]
noncomputable def nd0 (w : World) (oc : List Nat) (C : Nf) (V : Cv) (gl : List GenState) (j : Nat) (x : Value) : Out :=
  go w spK 1000 (ndC C) oc V.P V.B (ndE C j (vals V.ov 0 j) (odAt sMinute V j) (put7 V.wf j x)) 5 V.n V.tk gl
noncomputable abbrev ndOc1 : List Nat := [1, 1, 1, 1, 1, 1, 1, 1, 1, 3, 3, 4, 3, 5, 5, 5, 5, 5, 3, 2, 2, 2, 2]
noncomputable abbrev ndOc0 : List Nat := [1, 1, 1, 1, 1, 1, 1, 1, 1, 3, 3, 4, 3, 5, 5, 5, 5, 5, 2, 2, 2, 2]
noncomputable abbrev ndOcZ : List Nat := [1, 1, 1, 1, 1, 7]
noncomputable abbrev i5 : List Nat := [0, 1, 2, 3, 4]
end Mine
end
section
set_option maxRecDepth 100000
set_option maxHeartbeats 400000
namespace Mine
open PySem PySem.Spec PySem.Calls PyProof.Rows PySem.W PySem.W.X
/-- a range comprehension's names behind turn j -/
noncomputable abbrev odTo1 (w : World) (nm : List Nat) (V : Cv) (j : Nat) (x : Value) : Obj := dct [(cond (Nat.beq j 0) (PyData.keyHash w.params ⟨nm.toArray⟩) V.hh, nm, cond (Nat.beq j 0) (V.tk + 1) V.tt, x)] 1
theorem odTo1_ok (w : World) (nm : List Nat) (V : Cv) (j : Nat) (x : Value) : OdOk nm (j + 1) (odTo1 w nm V j x) := .inr ⟨by omega, _, _, _, rfl⟩
section
variable (b1 b2 : Bool) (w : World) (C : Nf) (V : Cv) (gl : List GenState) (t : Nat)
theorem nd_runs1 :
    tab (fun j => vNt i5 (nd0 (fol b1 b2 w) ndOc1 C V gl j (.int 1 t))) 7 =
    tab2 (fun j => (vNR (ndC C) (ndE C (j + 1) (vals V.ov 0 j ++ [wdv j (V.tk + 3)]) (odTo1 (fol b1 b2 w) sMinute V j (.int (.ofNat j) V.tk)) (put7 V.wf j (.int 1 t))) gl (nd0 (fol b1 b2 w) ndOc1 C V gl j (.int 1 t)), V.tk + 4)) 7 := by
  kernel_rfl
theorem nd_runs0 :
    tab (fun j => vNt i5 (nd0 (fol b1 b2 w) ndOc0 C V gl j (.int 0 t))) 7 =
    tab2 (fun j => (vNR (ndC C) (ndE C (j + 1) (vals V.ov 0 j ++ [emp (V.tk + 2)]) (odTo1 (fol b1 b2 w) sMinute V j (.int (.ofNat j) V.tk)) (put7 V.wf j (.int 0 t))) gl (nd0 (fol b1 b2 w) ndOc0 C V gl j (.int 0 t)), V.tk + 3)) 7 := by
  kernel_rfl
theorem nd_runZ (od : Obj) :
    vL i5 (go (fol b1 b2 w) spK 1000 (ndC C) ndOcZ V.P V.B (ndE C 7 (vals V.ov 0 7) od (vals V.wf 0 7)) 5 V.n V.tk gl) =
    vR (.ok .next) (ndE C 7 (vals V.ov 0 7) od (vals V.wf 0 7)) gl (go (fol b1 b2 w) spK 1000 (ndC C) ndOcZ V.P V.B (ndE C 7 (vals V.ov 0 7) od (vals V.wf 0 7)) 5 V.n V.tk gl) := by
  kernel_rfl
end
end Mine
end
section
set_option maxRecDepth 100000
set_option maxHeartbeats 400000
namespace Mine
open PySem PySem.Spec PySem.Calls PyProof.Rows PySem.W PySem.W.X
noncomputable def ndW (b : List Bool) (i : Nat) : Wd := if b.getD i false then .l i else .e
noncomputable def namedW (b : List Bool) : List Wd := (List.range 7).map (ndW b)
noncomputable abbrev NdPost (C : Nf) (gl : List GenState) (fl : List Value) (G : List Wd) : Nat → Result → List (Nat × Obj) → List GenState → Prop := fun tk' r E2 gl2 =>
  ∃ (out : List (Wd × Nat)) (hh : Int) (tt : Nat) (xv : Value), r = .ok .next ∧ gl2 = gl ∧ out.map (·.1) = G ∧ E2 = ndE C 7 (out.map wvv) (dct [(hh, sMinute, tt, xv)] 1) fl ∧ ∀ x ∈ out, InT tk' x.2
theorem nd_loop (C : Nf) (gl : List GenState) (free : List (Bool × Nat)) (hf : free.length = 7) (w : World) (lo : Nat) :
    SpcT w 120 lo (ndC C) gl (ndE C 0 [] (dct [] 0) (free.map bvv)) (NdPost C gl (free.map bvv) (namedW (free.map (·.1)))) := by
  refine loop_ind (N := 7) (fun lo j E => ∃ (out : List (Wd × Nat)) (od : Obj), out.map (·.1) = (List.range j).map (ndW (free.map (·.1))) ∧ OdOk sMinute j od ∧ (∀ x ∈ out, InT lo x.2) ∧ E = ndE C j (out.map wvv) od (free.map bvv)) ?_ ?_ 7 0 rfl w lo _ ⟨[], _, rfl, .inl ⟨rfl, rfl⟩, (fun _ h => nomatch h), rfl⟩
  · rintro w lo j E j7 ⟨out, od, ho, hd, bo, rfl⟩ IH
    have lo' : out.length = j := by have := congrArg List.length ho; simpa using this
    refine spcT_fol fun c1 c2 => ?_
    have jf : j < free.length := by omega
    have pc := put7_map free bvv hf j j7
    have ev := vals_map out wvv lo'
    have eb : (free.map (·.1)).getD j false = free[j].1 := by simp [List.getD_eq_getElem?_getD, jf]
    have ew : ndW (free.map (·.1)) j = if free[j].1 then .l j else .e := by unfold ndW; rw [eb]
    generalize hx : free[j] = x at pc ew
    obtain ⟨β, t⟩ := x
    have nxt : ∀ (lo' : Nat) (od' : Obj) (tx : Nat), OdOk sMinute (j + 1) od' → lo ≤ lo' → InT lo' tx →
        SpcT (fol c1 c2 w) 120 lo' (ndC C) gl (ndE C (j + 1) (out.map wvv ++ [wv (ndW (free.map (·.1)) j) tx]) od' (free.map bvv)) (NdPost C gl (free.map bvv) (namedW (free.map (·.1)))) := by
      intro lo' od' tx ho' le ix
      refine IH _ lo' _ le ⟨out ++ [(ndW (free.map (·.1)) j, tx)], od', ?_, ho', fun y hy => ?_, ?_⟩
      · rw [List.map_append, ho, List.range_succ, List.map_append]; rfl
      · rcases List.mem_append.mp hy with hy | hy
        · exact (bo y hy).mono le
        · rw [List.mem_singleton.mp hy]; exact ix
      · rw [List.map_append]; rfl
    rw [ew] at nxt
    cases β with
    | true =>
      refine spcT_of spK 1000 ndOc1 5 rfl (by kernel_rfl) (by decide) fun A R h d tk os hA hdep Pr hlo K n' P B => ?_
      obtain ⟨V, v1, v2, v3, v4, v5, v6, rfl⟩ := odAt_of hd n' tk P B (fun j => (free.map bvv).getD j .none) (fun j => (out.map wvv).getD j .none)
      have h1 := tab_get (nd_runs1 c1 c2 w C V gl t) j j7
      unfold nd0 at h1
      rw [v1, v2, v3, v4, v5, v6, ev] at h1
      rw [show put7 (fun j => (free.map bvv).getD j .none) j (.int 1 t) = free.map bvv from pc] at h1
      unfold vNt at h1
      rw [Prod.mk.injEq] at h1
      exact sat_nextT h1.1 (fun _ => Nat.le_of_eq h1.2.symm) (nxt (tk + 4) _ (tk + 3) (odTo1_ok ..) (Nat.le_add_right_of_le hlo) (InT.add (by decide) (by decide))) (by decide) hA hdep Pr K
    | false =>
      refine spcT_of spK 1000 ndOc0 5 rfl (by kernel_rfl) (by decide) fun A R h d tk os hA hdep Pr hlo K n' P B => ?_
      obtain ⟨V, v1, v2, v3, v4, v5, v6, rfl⟩ := odAt_of hd n' tk P B (fun j => (free.map bvv).getD j .none) (fun j => (out.map wvv).getD j .none)
      have h1 := tab_get (nd_runs0 c1 c2 w C V gl t) j j7
      unfold nd0 at h1
      rw [v1, v2, v3, v4, v5, v6, ev] at h1
      rw [show put7 (fun j => (free.map bvv).getD j .none) j (.int 0 t) = free.map bvv from pc] at h1
      unfold vNt at h1
      rw [Prod.mk.injEq] at h1
      exact sat_nextT h1.1 (fun _ => Nat.le_of_eq h1.2.symm) (nxt (tk + 3) _ (tk + 2) (odTo1_ok ..) (Nat.le_add_right_of_le hlo) (InT.add (by decide) (by decide))) (by decide) hA hdep Pr K
  · rintro w lo E ⟨out, od, ho, hd, bo, rfl⟩
    have lo' : out.length = 7 := by have := congrArg List.length ho; simpa using this
    rcases hd with ⟨h0, _⟩ | ⟨_, hh, tt, xv, rfl⟩
    · exact absurd h0 (by decide)
    refine spcT_fol fun c1 c2 => ?_
    have R := fun n tk P B => nd_runZ c1 c2 w C ⟨n, tk, P, B, 0, 0, .none, fun j => (free.map bvv).getD j .none, fun j => (out.map wvv).getD j .none⟩ gl (dct [(hh, sMinute, tt, xv)] 1)
    dsimp only at R
    rw [vals_map free bvv hf, vals_map out wvv lo'] at R
    refine spcT_of spK 1000 ndOcZ 5 rfl (by kernel_rfl) (by decide) fun A R' h d tk os hA hdep Pr hlo K n' P B => ?_
    exact sat_retV (R n' tk P B) (by decide) fun h' tk' le F' => K _ _ _ _ _ le F' ⟨out, hh, tt, xv, rfl, rfl, ho, rfl, fun x hx => (bo x hx).mono (Nat.le_trans hlo le)⟩
noncomputable abbrev ndOcS (b2 : Bool) : List Nat := [0, 0, 3, 3, 1, 0, 0, 4, 4, 4, 4, 4, 4, 4, 4, 4, 4, 5] ++ cond b2 [7, 7, 7] [5, 5, 5, 5, 7, 7, 7]
noncomputable abbrev namC (fl : Nat) : Code := .call (.ref 150) ⟨[.ref (fl + 178)], []⟩
noncomputable def ndS (b2 : Bool) (w : World) (fl ef : Nat) (vs : List Value) (gl : List GenState) (U : Un) : Out := go w spK 1000 (namC fl) (ndOcS b2) U.P U.B [(fl + 178, lst vs ef)] 1 U.n U.tk gl
noncomputable abbrev ndCf (fl ef : Nat) (U : Un) : Nf := ⟨U.n + 3, U.n + 4, U.n + 5, U.n + 1, fl, U.n, ef⟩
theorem nd_runS (b1 b2 : Bool) (w : World) (fl ef : Nat) (vs : List Value) (gl : List GenState) (U U1 : Un) (ov : Nat → Value) (hh : Int) (tt : Nat) (xv : Value) :
    vS [4, 5, 6, 2, 0] (ndS b2 (fol b1 b2 w) fl ef vs gl U) = vSR (ndC (ndCf fl ef U)) 1 (ndE (ndCf fl ef U) 0 [] (dct [] 0) vs) gl (ndS b2 (fol b1 b2 w) fl ef vs gl U) ∧
    vL [0, 5] ((ndS b2 (fol b1 b2 w) fl ef vs gl U).go (so (ndS b2 (fol b1 b2 w) fl ef vs gl U) [4, 5, 6, 2, 0] (.ok .next) (ndE (ndCf fl ef U) 7 (vals ov 0 7) (dct [(hh, sMinute, tt, xv)] 1) vs) U1.n U1.tk gl) U1.P U1.B) =
      vR (.ok (.ret (.ref (U.n + 4 + 178)))) [(fl + 178, lst vs ef), (U.n + 4 + 178, lst (vals ov 0 7) 7)] gl ((ndS b2 (fol b1 b2 w) fl ef vs gl U).go (so (ndS b2 (fol b1 b2 w) fl ef vs gl U) [4, 5, 6, 2, 0] (.ok .next) (ndE (ndCf fl ef U) 7 (vals ov 0 7) (dct [(hh, sMinute, tt, xv)] 1) vs) U1.n U1.tk gl) U1.P U1.B) := by
  cases b1 <;> cases b2 <;> exact ⟨by kernel_rfl, by kernel_rfl⟩
noncomputable abbrev NamPost (fl ef : Nat) (gl : List GenState) (free : List (Bool × Nat)) : Nat → Result → List (Nat × Obj) → List GenState → Prop := fun tk' x E2 gl2 =>
  ∃ (acc : Nat) (out : List (Wd × Nat)), x = .ok (.ret (.ref (acc + 178))) ∧ gl2 = gl ∧ E2 = [(fl + 178, lst (free.map bvv) ef), (acc + 178, lst (out.map wvv) 7)] ∧ out.map (·.1) = namedW (free.map (·.1)) ∧ ∀ x ∈ out, InT tk' x.2
theorem named_spec (w : World) (lo : Nat) (gl : List GenState) (fl ef : Nat) (free : List (Bool × Nat)) (hf : free.length = 7) :
    SpcT w 130 lo (namC fl) gl [(fl + 178, lst (free.map bvv) ef)] (NamPost fl ef gl free) := by
  refine spcT_fol fun b1 b2 => spcT_of spK 1000 (ndOcS b2) 1 rfl (by kernel_rfl) (by decide) fun A R h d tk os hA hdep Pr hlo K n P B => ?_
  have r := fun U1 ov hh tt xv => nd_runS b1 b2 w fl ef (free.map bvv) gl ⟨n, tk, P, B⟩ U1 ov hh tt xv
  unfold ndS at r
  generalize go (fol b1 b2 w) spK 1000 (namC fl) (ndOcS b2) P B [(fl + 178, lst (free.map bvv) ef)] 1 n tk gl = o at r ⊢
  have C1 := nd_loop (ndCf fl ef ⟨n, tk, P, B⟩) gl free hf (fol b1 b2 w) lo
  refine sat_specT (D := 130) (r ⟨n, tk, P, B⟩ (fun _ => .none) 0 0 .none).1 (fun le => Nat.le_trans hlo le) C1 (by decide) (by decide) hA hdep Pr ?_ ?_
  · rintro _ _ _ _ ⟨out, hh, tt, xv, rfl, rfl, _, rfl, _⟩
    exact ok_same _ _ rfl rfl
  rintro _ _ gl2 n2 tk2 le1 _ ⟨out, hh, tt, xv, rfl, e3, ho, rfl, bo⟩ _ P2 B2
  rw [e3]
  have lo7 : out.length = 7 := by have := congrArg List.length ho; simpa [namedW] using this
  have q := (r ⟨n2, tk2, P2, B2⟩ (fun j => (out.map wvv).getD j .none) hh tt xv).2
  dsimp only at q
  rw [vals_map out wvv lo7] at q
  exact sat_retV q (by decide) fun h' tk' le F' => K _ _ _ _ _ (Nat.le_trans le1 le) F' ⟨n + 4, out, rfl, rfl, rfl, ho, fun x hx => (bo x hx).mono le⟩
end Mine
end
section
set_option genInjectivity false
set_option maxRecDepth 100000
set_option maxHeartbeats 400000
namespace Mine
open PySem PySem.Spec PySem.Calls PyProof.Rows PySem.W PySem.W.X
/-- "_law_packed.<locals>." -/
noncomputable def pkQ : List Nat := [95, 108, 97, 119, 95, 112, 97, 99, 107, 101, 100, 46, 60, 108, 111, 99, 97, 108, 115, 62, 46]
structure Pf where
  l : Nat
  it : Nat
  fl : Nat
  ef : Nat
  ha : Int
  hb : Int
  a : Nat
  b : Nat
noncomputable abbrev pkC (C : Pf) : Code := .forLoop (forTgt (stAt 22 1)) (.ref (C.it + 178)) (forBody (stAt 22 1)) (forElse (stAt 22 1)) (envO 22 167 166 pkQ C.l)
noncomputable def pkF (C : Pf) (x : Int) (t : Nat) : Ent := [(C.ha, sFree, C.a, .ref (C.fl + 178)), (C.hb, sTold, C.b, .int x t)]
noncomputable def pkF' (C : Pf) (x : Int) (t : Nat) (he : Int) (e : Nat) (v : Value) : Obj := frm (pkF C x t ++ [(he, sMinute, e, v)]) 3
structure Pv where
  n : Nat
  tk : Nat
  P : Nat → Pos
  B : Nat → List (Code × Pos)
  he : Int
  e : Nat
  v : Value
  x : Int
  t : Nat
  wf : Nat → Value
noncomputable abbrev pkAt (C : Pf) (V : Pv) (j : Nat) : Obj := cond (Nat.beq j 0) (frm (pkF C V.x V.t) 2) (pkF' C V.x V.t V.he V.e V.v)
noncomputable abbrev pkE (C : Pf) (j : Nat) (fo : Obj) (fl : List Value) : List (Nat × Obj) := [(C.l + 178, fo), (C.it + 178, rgI (.ofNat j) (.ofNat (7 - j)) 1), (C.fl + 178, lst fl C.ef)]
noncomputable abbrev pkOc : List Nat := [2, 2, 2, 2, 2, 2, 2, 2, 2, 1, 1, 0, 1, 0, 1, 1, 3, 3, 3, 3, 3, 1, 0, 0, 0, 4, 4, 4, 4, 1, 4, 4, 0, 0, 0, 5, 5, 5, 5, 1, 5, 5, 1, 1]
noncomputable def pk0 (w : World) (C : Pf) (V : Pv) (gl : List GenState) (j : Nat) (x : Value) : Out :=
  go w spK 1000 (pkC C) pkOc V.P V.B (pkE C j (pkAt C V j) (put7 V.wf j x)) 3 V.n V.tk gl
end Mine
end
section
set_option maxRecDepth 100000
set_option maxHeartbeats 400000
namespace Mine
open PySem PySem.Spec PySem.Calls PyProof.Rows PySem.W PySem.W.X
noncomputable def spF : Code → Bool := fun c => match c with | .forLoop .. => true | .compLoop .. => true | _ => false
noncomputable def pk1 (w : World) (C : Pf) (V : Pv) (gl : List GenState) (j : Nat) (x : Value) : Out :=
  go w spF 1000 (pkC C) pkOc V.P V.B (pkE C j (pkAt C V j) (put7 V.wf j x)) 3 V.n V.tk gl
noncomputable abbrev pkTo (w : World) (C : Pf) (V : Pv) (j : Nat) (x : Int) : Obj := pkF' C x (V.tk + 7) (cond (Nat.beq j 0) (PyData.keyHash w.params ⟨sMinute.toArray⟩) V.he) (cond (Nat.beq j 0) (V.tk + 1) V.e) (.int (.ofNat j) V.tk)
noncomputable abbrev i3 : List Nat := [0, 1, 2]
section
variable (b1 b2 : Bool) (w : World) (C : Pf) (V : Pv) (gl : List GenState) (t : Nat)
theorem pk_runs1 :
    tab (fun j => vNt i3 (pk1 (fol b1 b2 w) C V gl j (.int 1 t))) 7 =
    tab2 (fun j => (vNR (pkC C) (pkE C (j + 1) (pkTo (fol b1 b2 w) C V j (Builtin.bitOr V.x (.ofNat (2 ^ j)))) (put7 V.wf j (.int 1 t))) gl (pk1 (fol b1 b2 w) C V gl j (.int 1 t)), V.tk + 9)) 7 := by
  kernel_rfl
theorem pk_runs0 :
    tab (fun j => vNt i3 (pk1 (fol b1 b2 w) C V gl j (.int 0 t))) 7 =
    tab2 (fun j => (vNR (pkC C) (pkE C (j + 1) (pkTo (fol b1 b2 w) C V j (Builtin.bitOr V.x 0)) (put7 V.wf j (.int 0 t))) gl (pk1 (fol b1 b2 w) C V gl j (.int 0 t)), V.tk + 9)) 7 := by
  kernel_rfl
theorem pk_runZ (fo : Obj) :
    vL i3 (go (fol b1 b2 w) spF 1000 (pkC C) [2, 2, 2, 2, 2, 5] V.P V.B (pkE C 7 fo (vals V.wf 0 7)) 3 V.n V.tk gl) =
    vR (.ok .next) (pkE C 7 fo (vals V.wf 0 7)) gl (go (fol b1 b2 w) spF 1000 (pkC C) [2, 2, 2, 2, 2, 5] V.P V.B (pkE C 7 fo (vals V.wf 0 7)) 3 V.n V.tk gl) := by
  kernel_rfl
end
end Mine
end
section
set_option maxRecDepth 100000
set_option maxHeartbeats 400000
namespace Mine
open PySem PySem.Spec PySem.Calls PyProof.Rows PySem.W PySem.W.X
noncomputable def packI (b : List Bool) : Nat → Int
  | 0 => 0
  | n + 1 => Builtin.bitOr (packI b n) (if b.getD n false then .ofNat (2 ^ n) else 0)
noncomputable def PoOk (C : Pf) (j : Nat) (x : Int) (t : Nat) (fo : Obj) : Prop := (j = 0 ∧ fo = frm (pkF C x t) 2) ∨ (j ≠ 0 ∧ ∃ he e v, fo = pkF' C x t he e v)
theorem pkAt_of {C : Pf} {j : Nat} {x : Int} {t : Nat} {fo : Obj} (h : PoOk C j x t fo) (n tk : Nat) (P : Nat → Pos) (B : Nat → List (Code × Pos)) (wf : Nat → Value) : ∃ V : Pv, V.n = n ∧ V.tk = tk ∧ V.P = P ∧ V.B = B ∧ V.wf = wf ∧ V.x = x ∧ V.t = t ∧ fo = pkAt C V j := by
  rcases h with ⟨rfl, rfl⟩ | ⟨hj, he, e, v, rfl⟩
  · exact ⟨⟨n, tk, P, B, 0, 0, .none, x, t, wf⟩, rfl, rfl, rfl, rfl, rfl, rfl, rfl, rfl⟩
  · refine ⟨⟨n, tk, P, B, he, e, v, x, t, wf⟩, rfl, rfl, rfl, rfl, rfl, rfl, rfl, ?_⟩
    have : Nat.beq j 0 = false := by
      cases q : Nat.beq j 0 with
      | false => rfl
      | true => exact absurd (Nat.eq_of_beq_eq_true q) hj
    unfold pkAt
    rw [this]
    rfl
noncomputable abbrev PkPost (C : Pf) (gl : List GenState) (fl : List Value) (x : Int) : Nat → Result → List (Nat × Obj) → List GenState → Prop := fun tk' r E2 gl2 =>
  ∃ (t : Nat) (he : Int) (e : Nat) (v : Value), r = .ok .next ∧ gl2 = gl ∧ InT tk' t ∧ E2 = pkE C 7 (pkF' C x t he e v) fl
theorem pk_loop (C : Pf) (gl : List GenState) (free : List (Bool × Nat)) (hf : free.length = 7) (w : World) (lo t0 : Nat) (h0 : InT lo t0) :
    SpcT w 110 lo (pkC C) gl (pkE C 0 (frm (pkF C 0 t0) 2) (free.map bvv)) (PkPost C gl (free.map bvv) (packI (free.map (·.1)) 7)) := by
  refine loop_ind (N := 7) (fun lo j E => ∃ (t : Nat) (fo : Obj), PoOk C j (packI (free.map (·.1)) j) t fo ∧ InT lo t ∧ E = pkE C j fo (free.map bvv)) ?_ ?_ 7 0 rfl w lo _ ⟨t0, _, .inl ⟨rfl, rfl⟩, h0, rfl⟩
  · rintro w lo j E j7 ⟨t, fo, ho, it, rfl⟩ IH
    refine spcT_fol fun c1 c2 => ?_
    have jf : j < free.length := by omega
    have pc := put7_map free bvv hf j j7
    have eb : (free.map (·.1)).getD j false = free[j].1 := by simp [List.getD_eq_getElem?_getD, jf]
    have ew : packI (free.map (·.1)) (j + 1) = Builtin.bitOr (packI (free.map (·.1)) j) (if free[j].1 then .ofNat (2 ^ j) else 0) := by rw [← eb]; rfl
    generalize hx : free[j] = x at pc ew
    obtain ⟨β, u⟩ := x
    refine spcT_of spF 1000 pkOc 3 rfl (by kernel_rfl) (by decide) fun A R h d tk os hA hdep Pr hlo K n' P B => ?_
    obtain ⟨V, v1, v2, v3, v4, v5, v6, v7, rfl⟩ := pkAt_of ho n' tk P B (fun j => (free.map bvv).getD j .none)
    have nxt : ∀ y, packI (free.map (·.1)) (j + 1) = y → SpcT (fol c1 c2 w) 110 (tk + 9) (pkC C) gl (pkE C (j + 1) (pkTo (fol c1 c2 w) C V j y) (free.map bvv)) (PkPost C gl (free.map bvv) (packI (free.map (·.1)) 7)) :=
      fun y e => IH _ (tk + 9) _ (Nat.le_add_right_of_le hlo) ⟨V.tk + 7, _, .inr ⟨by omega, _, _, _, by rw [e]⟩, by rw [v2]; exact InT.add (by decide) (by decide), rfl⟩
    cases β with
    | true =>
      have h1 := tab_get (pk_runs1 c1 c2 w C V gl u) j j7
      unfold pk1 at h1
      rw [v1, v2, v3, v4, v5, v6] at h1
      rw [show put7 (fun j => (free.map bvv).getD j .none) j (.int 1 u) = free.map bvv from pc] at h1
      unfold vNt at h1
      rw [Prod.mk.injEq] at h1
      exact sat_nextT h1.1 (fun _ => Nat.le_of_eq h1.2.symm) (nxt _ ew) (by decide) hA hdep Pr K
    | false =>
      have h1 := tab_get (pk_runs0 c1 c2 w C V gl u) j j7
      unfold pk1 at h1
      rw [v1, v2, v3, v4, v5, v6] at h1
      rw [show put7 (fun j => (free.map bvv).getD j .none) j (.int 0 u) = free.map bvv from pc] at h1
      unfold vNt at h1
      rw [Prod.mk.injEq] at h1
      exact sat_nextT h1.1 (fun _ => Nat.le_of_eq h1.2.symm) (nxt _ ew) (by decide) hA hdep Pr K
  · rintro w lo E ⟨t, fo, ho, it, rfl⟩
    rcases ho with ⟨h0, _⟩ | ⟨_, he, e, v, rfl⟩
    · exact absurd h0 (by decide)
    refine spcT_fol fun c1 c2 => ?_
    have R := fun n tk P B => pk_runZ c1 c2 w C ⟨n, tk, P, B, 0, 0, .none, 0, 0, fun j => (free.map bvv).getD j .none⟩ gl (pkF' C (packI (free.map (·.1)) 7) t he e v)
    dsimp only at R
    rw [vals_map free bvv hf] at R
    refine spcT_of spF 1000 [2, 2, 2, 2, 2, 5] 3 rfl (by kernel_rfl) (by decide) fun A R' h d tk os hA hdep Pr hlo K n' P B => ?_
    exact sat_retV (R n' tk P B) (by decide) fun h' tk' le F' => K _ _ _ _ _ le F' ⟨t, he, e, v, rfl, rfl, it.mono (Nat.le_trans hlo le), rfl⟩
noncomputable abbrev pkOcS : List Nat := [0, 0, 2, 2, 1, 2, 2, 0, 0, 3, 3, 3, 3, 3, 3, 3, 3, 3, 3, 4, 2]
noncomputable abbrev pakC (fl : Nat) : Code := .call (.ref 167) ⟨[.ref (fl + 178)], []⟩
noncomputable def pkS (w : World) (fl ef : Nat) (vs : List Value) (gl : List GenState) (U : Un) : Out := go w spF 1000 (pakC fl) pkOcS U.P U.B [(fl + 178, lst vs ef)] 1 U.n U.tk gl
noncomputable abbrev pkCf (w : World) (fl ef : Nat) (U : Un) : Pf := ⟨U.n, U.n + 2, fl, ef, kh w sFree, kh w sTold, U.tk, U.tk + 2⟩
theorem pk_runS (b1 b2 : Bool) (w : World) (fl ef : Nat) (vs : List Value) (gl : List GenState) (U U1 : Un) (x : Int) (t : Nat) (he : Int) (e : Nat) (v : Value) :
    vS [1, 3, 0] (pkS (fol b1 b2 w) fl ef vs gl U) = vSR (pkC (pkCf (fol b1 b2 w) fl ef U)) 1 (pkE (pkCf (fol b1 b2 w) fl ef U) 0 (frm (pkF (pkCf (fol b1 b2 w) fl ef U) 0 (U.tk + 1)) 2) vs) gl (pkS (fol b1 b2 w) fl ef vs gl U) ∧
    (pkS (fol b1 b2 w) fl ef vs gl U).st.tk = U.tk + 6 ∧
    vL [0] ((pkS (fol b1 b2 w) fl ef vs gl U).go (so (pkS (fol b1 b2 w) fl ef vs gl U) [1, 3, 0] (.ok .next) (pkE (pkCf (fol b1 b2 w) fl ef U) 7 (pkF' (pkCf (fol b1 b2 w) fl ef U) x t he e v) vs) U1.n U1.tk gl) U1.P U1.B) =
      vR (.ok (.ret (.int x t))) [(fl + 178, lst vs ef)] gl ((pkS (fol b1 b2 w) fl ef vs gl U).go (so (pkS (fol b1 b2 w) fl ef vs gl U) [1, 3, 0] (.ok .next) (pkE (pkCf (fol b1 b2 w) fl ef U) 7 (pkF' (pkCf (fol b1 b2 w) fl ef U) x t he e v) vs) U1.n U1.tk gl) U1.P U1.B) := by
  cases b1 <;> exact ⟨by kernel_rfl, by kernel_rfl, by kernel_rfl⟩
noncomputable abbrev PakPost (fl ef : Nat) (gl : List GenState) (free : List (Bool × Nat)) : Nat → Result → List (Nat × Obj) → List GenState → Prop := fun tk' x E2 gl2 =>
  ∃ (t : Nat), x = .ok (.ret (.int (packI (free.map (·.1)) 7) t)) ∧ gl2 = gl ∧ E2 = [(fl + 178, lst (free.map bvv) ef)] ∧ InT tk' t
theorem packed_spec (w : World) (lo : Nat) (gl : List GenState) (fl ef : Nat) (free : List (Bool × Nat)) (hf : free.length = 7) :
    SpcT w 120 lo (pakC fl) gl [(fl + 178, lst (free.map bvv) ef)] (PakPost fl ef gl free) := by
  refine spcT_fol fun b1 b2 => spcT_of spF 1000 pkOcS 1 rfl (by kernel_rfl) (by decide) fun A R h d tk os hA hdep Pr hlo K n P B => ?_
  have r := fun U1 x t he e v => pk_runS b1 b2 w fl ef (free.map bvv) gl ⟨n, tk, P, B⟩ U1 x t he e v
  unfold pkS at r
  generalize go (fol b1 b2 w) spF 1000 (pakC fl) pkOcS P B [(fl + 178, lst (free.map bvv) ef)] 1 n tk gl = o at r ⊢
  have C1 := pk_loop (pkCf (fol b1 b2 w) fl ef ⟨n, tk, P, B⟩) gl free hf (fol b1 b2 w) (tk + 6) (tk + 1) (InT.add (by decide) (by decide))
  have r0 := r ⟨n, tk, P, B⟩ 0 0 0 0 .none
  refine sat_specT (D := 120) r0.1 (fun _ => Nat.le_of_eq r0.2.1.symm) C1 (by decide) (by decide) hA hdep Pr ?_ ?_
  · rintro _ _ _ _ ⟨t, he, e, v, rfl, rfl, _, rfl⟩
    exact ok_same _ _ rfl rfl
  rintro _ _ gl2 n2 tk2 le1 _ ⟨t, he, e, v, rfl, e3, it, rfl⟩ _ P2 B2
  rw [e3]
  exact sat_retV (r ⟨n2, tk2, P2, B2⟩ _ t he e v).2.2 (by decide) fun h' tk' le F' => K _ _ _ _ _ (Nat.le_trans le1 le) F' ⟨t, rfl, rfl, rfl, it.mono le⟩
end Mine
end
section
set_option genInjectivity false
set_option maxRecDepth 100000
set_option maxHeartbeats 400000
namespace Mine
open PySem PySem.Spec PySem.Calls PyProof.Rows PySem.W PySem.W.X
/-- "_law_parked.<locals>." -/
noncomputable def prQ : List Nat := [95, 108, 97, 119, 95, 112, 97, 114, 107, 101, 100, 46, 60, 108, 111, 99, 97, 108, 115, 62, 46]
noncomputable abbrev sLeft : List Nat := [108, 101, 102, 116]
noncomputable abbrev sOver : List Nat := [111, 118, 101, 114]
noncomputable abbrev sPlace : List Nat := [112, 108, 97, 99, 101]
/-- the frame of _law_parked: what does not turn -/
structure Rf where
  l : Nat
  cm : Nat
  fr : Nat
  lf : Nat
  ha : Int
  hb : Int
  hc : Int
  hd : Int
  a : Nat
  b : Nat
  c : Nat
  d : Nat
/-- names that come in time: minute, place -/
structure Rn where
  hm : Int
  m : Nat
  hp : Int
  p : Nat
noncomputable def prB (F : Rf) (ov : Int) (to : Nat) : Ent := [(F.ha, sCome, F.a, .ref (F.cm + 178)), (F.hb, sFree, F.b, .ref (F.fr + 178)), (F.hc, sLeft, F.c, .ref (F.lf + 178)), (F.hd, sOver, F.d, .int ov to)]
noncomputable def prF4 (F : Rf) (ov : Int) (to : Nat) : Obj := frm (prB F ov to) 4
noncomputable def prF5 (F : Rf) (ov : Int) (to : Nat) (N : Rn) (mv : Value) : Obj := frm (prB F ov to ++ [(N.hm, sMinute, N.m, mv)]) 5
noncomputable def prF6 (F : Rf) (ov : Int) (to : Nat) (N : Rn) (mv pv : Value) : Obj := frm (prB F ov to ++ [(N.hm, sMinute, N.m, mv), (N.hp, sPlace, N.p, pv)]) 6
noncomputable abbrev prEnv (l : Nat) : Env := envO 21 160 159 prQ l
/-- the outer loop, the inner loop, the last loop -/
noncomputable def ifBody : Option Stmt → List Stmt
  | some (.If _ b ..) => b
  | _ => []
noncomputable abbrev prO : Option Stmt := stAt 21 2
noncomputable abbrev prI : Option Stmt := (ifBody ((forBody prO)[0]?))[0]?
noncomputable def prOC (it l : Nat) : Code := .forLoop (forTgt prO) (.ref (it + 178)) (forBody prO) (forElse prO) (prEnv l)
noncomputable def prIC (it l : Nat) : Code := .forLoop (forTgt prI) (.ref (it + 178)) (forBody prI) (forElse prI) (prEnv l)
structure Rv where
  n : Nat
  tk : Nat
  P : Nat → Pos
  B : Nat → List (Code × Pos)
  ov : Int
  to : Nat
  N : Rn
  mv : Value
  pv : Value
  lv : Nat → Value
  cv : Nat → Value
  τ : Nat → Nat
noncomputable abbrev prIE (F : Rf) (it : Nat) (fo : Obj) (p k : Nat) (lf : List Value) (el : Nat) : List (Nat × Obj) := [(F.l + 178, fo), (it + 178, rgI (.ofNat p) (.ofNat k) 1), (F.lf + 178, lst lf el)]
noncomputable abbrev prOc0 : List Nat := [2, 2, 2, 2, 2, 2, 2, 2, 2, 1, 1, 1, 1, 3, 3, 3, 3, 3]
noncomputable abbrev prOc1 : List Nat := [2, 2, 2, 2, 2, 2, 2, 2, 2, 1, 1, 1, 1, 3, 3, 3, 3, 3, 1, 1, 3, 3, 3, 3, 3, 3, 1, 1, 1, 1]
noncomputable def prI0 (w : World) (oc : List Nat) (F : Rf) (it el : Nat) (V : Rv) (gl : List GenState) (fo : Obj) (p k : Nat) (x : Value) : Out :=
  go w spF 1000 (prIC it F.l) oc V.P V.B (prIE F it fo p k (put7 V.lv (p % 7) x) el) 3 V.n V.tk gl
end Mine
end
section
set_option maxRecDepth 100000
set_option maxHeartbeats 400000
namespace Mine
open PySem PySem.Spec PySem.Calls PyProof.Rows PySem.W PySem.W.X
/-- the names behind an inner turn -/
noncomputable abbrev rnTo (w : World) (V : Rv) (s : Bool) : Rn := ⟨V.N.hm, V.N.m, cond s (PyData.keyHash w.params ⟨sPlace.toArray⟩) V.N.hp, cond s (V.tk + 1) V.N.p⟩
noncomputable abbrev prIF (F : Rf) (V : Rv) (s : Bool) : Obj := cond s (prF5 F V.ov V.to V.N V.mv) (prF6 F V.ov V.to V.N V.mv V.pv)
section
variable (b1 b2 : Bool) (w : World) (F : Rf) (it el : Nat) (V : Rv) (gl : List GenState) (t : Nat)
/-- an opening that is not free: i = 7 * m + k -/
theorem pr_runsI0 :
    tab (fun i => vNt i3 (prI0 (fol b1 b2 w) prOc0 F it el V gl (prIF F V false) (i / 7 + i % 7) (7 - i % 7) (.int 0 t))) 49 =
    tab2 (fun i => (vNR (prIC it F.l) (prIE F it (prF6 F V.ov V.to (rnTo (fol b1 b2 w) V false) V.mv (.int (.ofNat (i / 7 + i % 7)) V.tk)) (i / 7 + i % 7 + 1) (7 - i % 7 - 1) (put7 V.lv ((i / 7 + i % 7) % 7) (.int 0 t)) el) gl (prI0 (fol b1 b2 w) prOc0 F it el V gl (prIF F V false) (i / 7 + i % 7) (7 - i % 7) (.int 0 t)), V.tk + 4)) 49 := by
  kernel_rfl
theorem pr_runsI0s :
    tab (fun m => vNt i3 (prI0 (fol b1 b2 w) prOc0 F it el V gl (prIF F V true) m 7 (.int 0 t))) 7 =
    tab2 (fun m => (vNR (prIC it F.l) (prIE F it (prF6 F V.ov V.to (rnTo (fol b1 b2 w) V true) V.mv (.int (.ofNat m) V.tk)) (m + 1) 6 (put7 V.lv (m % 7) (.int 0 t)) el) gl (prI0 (fol b1 b2 w) prOc0 F it el V gl (prIF F V true) m 7 (.int 0 t)), V.tk + 4)) 7 := by
  kernel_rfl
/-- a free one -/
theorem pr_runsI1 :
    tab (fun i => vLt i3 (prI0 (fol b1 b2 w) prOc1 F it el V gl (prIF F V false) (i / 7 + i % 7) (7 - i % 7) (.int 1 t))) 49 =
    tab2 (fun i => (vR (.ok .next) (prIE F it (prF6 F (V.ov + .ofNat ((i / 7 + i % 7) / 7)) (V.tk + 9) (rnTo (fol b1 b2 w) V false) V.mv (.int (.ofNat (i / 7 + i % 7)) V.tk)) (i / 7 + i % 7 + 1) (7 - i % 7 - 1) (put7 V.lv ((i / 7 + i % 7) % 7) (.int 0 (V.tk + 4))) el) gl (prI0 (fol b1 b2 w) prOc1 F it el V gl (prIF F V false) (i / 7 + i % 7) (7 - i % 7) (.int 1 t)), V.tk + 11)) 49 := by
  kernel_rfl
theorem pr_runsI1s :
    tab (fun m => vLt i3 (prI0 (fol b1 b2 w) prOc1 F it el V gl (prIF F V true) m 7 (.int 1 t))) 7 =
    tab2 (fun m => (vR (.ok .next) (prIE F it (prF6 F (V.ov + .ofNat (m / 7)) (V.tk + 9) (rnTo (fol b1 b2 w) V true) V.mv (.int (.ofNat m) V.tk)) (m + 1) 6 (put7 V.lv (m % 7) (.int 0 (V.tk + 4))) el) gl (prI0 (fol b1 b2 w) prOc1 F it el V gl (prIF F V true) m 7 (.int 1 t)), V.tk + 11)) 7 := by
  kernel_rfl
theorem pr_runIZ (fo : Obj) (p : Nat) (lf : List Value) :
    vL i3 (go (fol b1 b2 w) spF 1000 (prIC it F.l) [2, 2, 2, 2, 2, 5] V.P V.B (prIE F it fo p 0 lf el) 3 V.n V.tk gl) =
    vR (.ok .next) (prIE F it fo p 0 lf el) gl (go (fol b1 b2 w) spF 1000 (prIC it F.l) [2, 2, 2, 2, 2, 5] V.P V.B (prIE F it fo p 0 lf el) 3 V.n V.tk gl) := by
  kernel_rfl
end
end Mine
end
section
set_option maxRecDepth 100000
set_option maxHeartbeats 400000
namespace Mine
open PySem PySem.Spec PySem.Calls PyProof.Rows PySem.W PySem.W.X
/-- a guest looks for an opening from place p on, n places at most -/
noncomputable def parkIn (left : List Bool) : Nat → Nat → List Bool × Nat
  | _, 0 => (left, 0)
  | p, n + 1 => if left.getD (p % 7) false then (left.set (p % 7) false, p / 7) else parkIn left (p + 1) n
theorem vals_set (v : Nat → Value) (j : Nat) (x : Value) (hj : j < 7) : put7 v j x = (vals v 0 7).set j x := by
  match j, hj with
  | 0, _ => rfl
  | 1, _ => rfl
  | 2, _ => rfl
  | 3, _ => rfl
  | 4, _ => rfl
  | 5, _ => rfl
  | 6, _ => rfl
/-- the frame at an inner turn -/
noncomputable def FiOk (F : Rf) (ov : Int) (to : Nat) (k : Nat) (fo : Obj) : Prop := (k = 0 ∧ ∃ N mv, fo = prF5 F ov to N mv) ∨ ∃ N mv pv, fo = prF6 F ov to N mv pv
noncomputable abbrev PiPost (F : Rf) (it el : Nat) (gl : List GenState) (ov : Int) (L : List Bool × Nat) : Nat → Result → List (Nat × Obj) → List GenState → Prop := fun _ r E2 gl2 =>
  ∃ (left : List (Bool × Nat)) (to p k : Nat) (N : Rn) (mv pv : Value), r = .ok .next ∧ gl2 = gl ∧ left.map (·.1) = L.1 ∧ E2 = prIE F it (prF6 F (ov + .ofNat L.2) to N mv pv) p k (left.map bvv) el
theorem pr_inner (F : Rf) (it el : Nat) (gl : List GenState) (left : List (Bool × Nat)) (hl : left.length = 7) (m : Nat) (hm : m < 7) (ov : Int) (to : Nat) (fo : Obj) (hfo : FiOk F ov to 0 fo) (w : World) (lo : Nat) :
    SpcT w 110 lo (prIC it F.l) gl (prIE F it fo m 7 (left.map bvv) el) (PiPost F it el gl ov (parkIn (left.map (·.1)) m 7)) := by
  refine loop_ind (N := 7) (fun lo k E => ∃ fo, FiOk F ov to k fo ∧ parkIn (left.map (·.1)) m 7 = parkIn (left.map (·.1)) (m + k) (7 - k) ∧ E = prIE F it fo (m + k) (7 - k) (left.map bvv) el) ?_ ?_ 7 0 rfl w lo _ ⟨fo, hfo, rfl, rfl⟩
  · rintro w lo k E k7 ⟨fo, ho, hp, rfl⟩ IH
    refine spcT_fol fun c1 c2 => ?_
    have j7 : (m + k) % 7 < 7 := Nat.mod_lt _ (by decide)
    have jf : (m + k) % 7 < left.length := hl ▸ j7
    have pc := put7_map left bvv hl _ j7
    have eb : (left.map (·.1)).getD ((m + k) % 7) false = left[(m + k) % 7].1 := by simp [List.getD_eq_getElem?_getD, jf]
    have e7 : 7 - k = (7 - k - 1) + 1 := (Nat.sub_add_cancel (Nat.sub_pos_of_lt k7)).symm
    rw [hp, e7]
    show SpcT _ _ _ _ _ _ (PiPost F it el gl ov (if (left.map (·.1)).getD ((m + k) % 7) false then ((left.map (·.1)).set ((m + k) % 7) false, (m + k) / 7) else parkIn (left.map (·.1)) (m + k + 1) (7 - k - 1)))
    rw [← e7, eb]
    have hp' : (left.map (·.1)).getD ((m + k) % 7) false = false → parkIn (left.map (·.1)) m 7 = parkIn (left.map (·.1)) (m + k + 1) (7 - k - 1) := fun h => by
      rw [hp, e7]
      show (if (left.map (·.1)).getD ((m + k) % 7) false then _ else parkIn (left.map (·.1)) (m + k + 1) (7 - k - 1)) = _
      rw [h]; rfl
    rw [eb] at hp'
    generalize hx : left[(m + k) % 7] = x at pc hp' ⊢
    obtain ⟨β, u⟩ := x
    have i49 : 7 * m + k < 49 := LT.md_lt k7 hm
    have ei : (7 * m + k) / 7 + (7 * m + k) % 7 = m + k := by rw [LT.md_div (by decide) k7, LT.md_mod k7]
    have ei2 : (7 * m + k) % 7 = k := LT.md_mod k7
    have nxt : parkIn (left.map (·.1)) m 7 = parkIn (left.map (·.1)) (m + k + 1) (7 - k - 1) → ∀ (lo' : Nat) (fo' : Obj), lo ≤ lo' → FiOk F ov to (k + 1) fo' → SpcT (fol c1 c2 w) 110 lo' (prIC it F.l) gl (prIE F it fo' (m + k + 1) (7 - k - 1) (left.map bvv) el) (PiPost F it el gl ov (parkIn (left.map (·.1)) (m + k + 1) (7 - k - 1))) := fun h9 lo' fo' le h => by
      have z := IH (fol c1 c2 w) lo' _ le ⟨fo', h, by rw [h9, Nat.add_assoc, Nat.sub_sub], by rw [← Nat.add_assoc, ← Nat.sub_sub]⟩
      rw [h9] at z
      exact z
    have sv : ∀ v : Nat, (left.map bvv).set ((m + k) % 7) (bvv (false, v)) = (left.set ((m + k) % 7) (false, v)).map bvv := fun v => by rw [List.map_set]
    have ss : ∀ v : Nat, (left.set ((m + k) % 7) (false, v)).map (·.1) = (left.map (·.1)).set ((m + k) % 7) false := fun v => by rw [List.map_set]
    cases β with
    | false =>
      refine spcT_of spF 1000 prOc0 3 rfl (by kernel_rfl) (by decide) fun A R h d tk os hA hdep Pr hlo K n' P B => ?_
      rcases ho with ⟨rfl, N, mv, rfl⟩ | ⟨N, mv, pv, rfl⟩
      · have h1 := tab_get (pr_runsI0s c1 c2 w F it el ⟨n', tk, P, B, ov, to, N, mv, .none, fun j => (left.map bvv).getD j .none, fun _ => .none, fun _ => 0⟩ gl u) m hm
        unfold prI0 at h1
        dsimp only at h1
        rw [show put7 (fun j => (left.map bvv).getD j .none) (m % 7) (.int 0 u) = left.map bvv from pc] at h1
        unfold vNt at h1
        rw [Prod.mk.injEq] at h1
        exact sat_nextT h1.1 (fun _ => Nat.le_of_eq h1.2.symm) (nxt (hp' rfl) (tk + 4) _ (Nat.le_add_right_of_le hlo) (.inr ⟨_, _, _, rfl⟩)) (by decide) hA hdep Pr K
      · have h1 := tab_get (pr_runsI0 c1 c2 w F it el ⟨n', tk, P, B, ov, to, N, mv, pv, fun j => (left.map bvv).getD j .none, fun _ => .none, fun _ => 0⟩ gl u) _ i49
        dsimp only at h1
        rw [ei, ei2] at h1
        unfold prI0 at h1
        dsimp only at h1
        rw [show put7 (fun j => (left.map bvv).getD j .none) ((m + k) % 7) (.int 0 u) = left.map bvv from pc] at h1
        unfold vNt at h1
        rw [Prod.mk.injEq] at h1
        exact sat_nextT h1.1 (fun _ => Nat.le_of_eq h1.2.symm) (nxt (hp' rfl) (tk + 4) _ (Nat.le_add_right_of_le hlo) (.inr ⟨_, _, _, rfl⟩)) (by decide) hA hdep Pr K
    | true =>
      refine spcT_of spF 1000 prOc1 3 rfl (by kernel_rfl) (by decide) fun A R h d tk os hA hdep Pr hlo K n' P B => ?_
      rcases ho with ⟨rfl, N, mv, rfl⟩ | ⟨N, mv, pv, rfl⟩
      · have h1 := tab_get (pr_runsI1s c1 c2 w F it el ⟨n', tk, P, B, ov, to, N, mv, .none, fun j => (left.map bvv).getD j .none, fun _ => .none, fun _ => 0⟩ gl u) m hm
        unfold prI0 at h1
        dsimp only at h1
        rw [show put7 (fun j => (left.map bvv).getD j .none) (m % 7) (.int 1 u) = left.map bvv from pc, vals_set _ _ _ (Nat.mod_lt _ (by decide)), vals_map left bvv hl, show (left.map bvv).set (m % 7) (.int 0 (tk + 4)) = _ from sv (tk + 4)] at h1
        refine sat_retT h1 (by decide) fun h' le F' => K _ _ _ _ _ le F' ⟨left.set (m % 7) (false, tk + 4), _, _, _, _, _, _, rfl, rfl, ss _, rfl⟩
      · have h1 := tab_get (pr_runsI1 c1 c2 w F it el ⟨n', tk, P, B, ov, to, N, mv, pv, fun j => (left.map bvv).getD j .none, fun _ => .none, fun _ => 0⟩ gl u) _ i49
        dsimp only at h1
        rw [ei, ei2] at h1
        unfold prI0 at h1
        dsimp only at h1
        rw [show put7 (fun j => (left.map bvv).getD j .none) ((m + k) % 7) (.int 1 u) = left.map bvv from pc, vals_set _ _ _ (Nat.mod_lt _ (by decide)), vals_map left bvv hl, show (left.map bvv).set ((m + k) % 7) (.int 0 (tk + 4)) = _ from sv (tk + 4)] at h1
        refine sat_retT h1 (by decide) fun h' le F' => K _ _ _ _ _ le F' ⟨left.set ((m + k) % 7) (false, tk + 4), _, _, _, _, _, _, rfl, rfl, ss _, rfl⟩
  · rintro w lo E ⟨fo, ho, hp, rfl⟩
    rcases ho with ⟨h0, _⟩ | ⟨N, mv, pv, rfl⟩
    · exact absurd h0 (by decide)
    rw [hp]
    refine spcT_fol fun c1 c2 => ?_
    refine spcT_of spF 1000 [2, 2, 2, 2, 2, 5] 3 rfl (by kernel_rfl) (by decide) fun A R' h d tk os hA hdep Pr hlo K n' P B => ?_
    have R := pr_runIZ c1 c2 w F it el ⟨n', tk, P, B, ov, to, N, mv, pv, fun j => (left.map bvv).getD j .none, fun _ => .none, fun _ => 0⟩ gl (prF6 F ov to N mv pv) (m + 7) (left.map bvv)
    refine sat_retV R (by decide) fun h' tk' le F' => K _ _ _ _ _ le F' ⟨left, to, m + 7, 0, N, mv, pv, rfl, rfl, rfl, ?_⟩
    show _ = prIE F it (prF6 F (ov + 0) to N mv pv) _ _ _ _
    rw [Int.add_zero]
end Mine
end
section
set_option maxRecDepth 100000
set_option maxHeartbeats 400000
namespace Mine
open PySem PySem.Spec PySem.Calls PyProof.Rows PySem.W PySem.W.X
noncomputable def tupO (vs : List Value) : Obj := { cls := .type "tuple", data := .seq vs.toArray 0 }
noncomputable def tupI (tp : Nat) (j : Nat) : Obj := { cls := .type "tuple_iterator", data := .fields #[.ref (tp + 178), .int (.ofNat j) 0] }
noncomputable def tupZ (j : Nat) : Obj := { cls := .type "tuple_iterator", data := .fields #[.none, .int (.ofNat j) 0] }
/-- the outer loop's items: 6 down to 0 -/
noncomputable def downV (τ : Nat → Nat) : List Value := [0, 1, 2, 3, 4, 5, 6].map fun k => .int (.ofNat (6 - k)) (τ k)
noncomputable abbrev prOE (F : Rf) (it tp : Nat) (fo : Obj) (io : Obj) (τ : Nat → Nat) (cl : List Value) (ec : Nat) (lf : List Value) (el : Nat) : List (Nat × Obj) :=
  [(F.l + 178, fo), (it + 178, io), (tp + 178, tupO (downV τ)), (F.cm + 178, lst cl ec), (F.lf + 178, lst lf el)]
/-- the frame at an outer turn: s = 0 first, 1 a minute, 2 a place too -/
noncomputable abbrev prOF (F : Rf) (V : Rv) (s : Nat) : Obj := cond (Nat.beq s 0) (prF4 F V.ov V.to) (cond (Nat.beq s 1) (prF5 F V.ov V.to V.N V.mv) (prF6 F V.ov V.to V.N V.mv V.pv))
noncomputable abbrev prOcE : List Nat := [2, 2, 2, 2, 3, 2, 2, 1, 1, 1, 1, 4, 4, 4, 4, 4]
noncomputable abbrev prOcW : List Nat := [2, 2, 2, 2, 3, 2, 2, 1, 1, 1, 1, 4, 4, 4, 4, 4, 0, 0, 1, 1, 6, 6, 6, 6, 6, 6, 6, 6, 6, 6, 7]
noncomputable def prO0 (w : World) (oc : List Nat) (F : Rf) (it tp ec el : Nat) (V : Rv) (gl : List GenState) (s j : Nat) (x : Value) (lf : List Value) : Out :=
  go w spF 1000 (prOC it F.l) oc V.P V.B (prOE F it tp (prOF F V s) (tupI tp j) V.τ (put7 V.cv (6 - j) x) ec lf el) 5 V.n V.tk gl
end Mine
end
section
set_option maxRecDepth 100000
set_option maxHeartbeats 400000
namespace Mine
open PySem PySem.Spec PySem.Calls PyProof.Rows PySem.W PySem.W.X
noncomputable abbrev rmTo (w : World) (V : Rv) (s : Nat) : Rn := ⟨cond (Nat.beq s 0) (PyData.keyHash w.params ⟨sMinute.toArray⟩) V.N.hm, cond (Nat.beq s 0) V.tk V.N.m, V.N.hp, V.N.p⟩
/-- the frame when the turn's minute is named -/
noncomputable abbrev prOFm (w : World) (F : Rf) (V : Rv) (s j : Nat) : Obj := cond (Nat.beq s 2) (prF6 F V.ov V.to (rmTo w V s) (.int (.ofNat (6 - j)) (V.τ j)) V.pv) (prF5 F V.ov V.to (rmTo w V s) (.int (.ofNat (6 - j)) (V.τ j)))
noncomputable abbrev iW : List Nat := [0, 6, 4]
section
variable (b1 b2 : Bool) (w : World) (F : Rf) (it tp ec el : Nat) (V : Rv) (gl : List GenState) (t c : Nat) (lf : List Value)
theorem pr_runsE :
    tab (fun i => vN i5 (prO0 (fol b1 b2 w) prOcE F it tp ec el V gl (i / 7) (i % 7) (emp t) lf)) 21 =
    tab2 (fun i => vNR (prOC it F.l) (prOE F it tp (prOFm (fol b1 b2 w) F V (i / 7) (i % 7)) (tupI tp (i % 7 + 1)) V.τ (put7 V.cv (6 - i % 7) (emp t)) ec lf el) gl (prO0 (fol b1 b2 w) prOcE F it tp ec el V gl (i / 7) (i % 7) (emp t) lf)) 21 := by
  cases b1 <;> kernel_rfl
/-- what the inner loop leaves, laid into an outer turn -/
noncomputable def prOW (w : World) (F : Rf) (it tp ec el : Nat) (V : Rv) (gl : List GenState) (s j : Nat) (x : Value) (lf lf' : List Value) (ov : Int) (to : Nat) (N : Rn) (mv pv : Value) (p k : Nat) (U : Un) : Out :=
  (prO0 w prOcW F it tp ec el V gl s j x lf).go (so (prO0 w prOcW F it tp ec el V gl s j x lf) iW (.ok .next) (prIE F (V.n + 1) (prF6 F ov to N mv pv) p k lf' el) U.n U.tk gl) U.P U.B
theorem pr_runsW (lf' : List Value) (ov : Int) (to : Nat) (N : Rn) (mv pv : Value) (p k : Nat) (U : Un) :
    tab (fun i => vS iW (prO0 (fol b1 b2 w) prOcW F it tp ec el V gl (i / 7 + 1) (i % 7) (wdv c t) lf)) 14 =
    tab2 (fun i => vSR (prIC (V.n + 1) F.l) 0 (prIE F (V.n + 1) (prOFm (fol b1 b2 w) F V (i / 7 + 1) (i % 7)) (6 - i % 7) 7 lf el) gl (prO0 (fol b1 b2 w) prOcW F it tp ec el V gl (i / 7 + 1) (i % 7) (wdv c t) lf)) 14 ∧
    tab (fun i => vN i5 (prOW (fol b1 b2 w) F it tp ec el V gl (i / 7 + 1) (i % 7) (wdv c t) lf lf' ov to N mv pv p k U)) 14 =
    tab2 (fun i => vNR (prOC it F.l) (prOE F it tp (prF6 F ov to N mv pv) (tupI tp (i % 7 + 1)) V.τ (put7 V.cv (6 - i % 7) (wdv c t)) ec lf' el) gl (prOW (fol b1 b2 w) F it tp ec el V gl (i / 7 + 1) (i % 7) (wdv c t) lf lf' ov to N mv pv p k U)) 14 := by
  cases b1 <;> exact ⟨by kernel_rfl, by kernel_rfl⟩
theorem pr_runsW0 (lf' : List Value) (ov : Int) (to : Nat) (N : Rn) (mv pv : Value) (p k : Nat) (U : Un) :
    vS iW (prO0 (fol b1 b2 w) prOcW F it tp ec el V gl 0 0 (wdv c t) lf) =
      vSR (prIC (V.n + 1) F.l) 0 (prIE F (V.n + 1) (prOFm (fol b1 b2 w) F V 0 0) 6 7 lf el) gl (prO0 (fol b1 b2 w) prOcW F it tp ec el V gl 0 0 (wdv c t) lf) ∧
    vN i5 (prOW (fol b1 b2 w) F it tp ec el V gl 0 0 (wdv c t) lf lf' ov to N mv pv p k U) =
      vNR (prOC it F.l) (prOE F it tp (prF6 F ov to N mv pv) (tupI tp 1) V.τ (put7 V.cv 6 (wdv c t)) ec lf' el) gl (prOW (fol b1 b2 w) F it tp ec el V gl 0 0 (wdv c t) lf lf' ov to N mv pv p k U) := by
  cases b1 <;> exact ⟨by kernel_rfl, by kernel_rfl⟩
noncomputable abbrev prOcZ : List Nat := [2, 2, 2, 2, 3, 2, 2, 7]
theorem pr_runOZ (fo : Obj) (cl : List Value) :
    vL i5 (go (fol b1 b2 w) spF 1000 (prOC it F.l) prOcZ V.P V.B (prOE F it tp fo (tupI tp 7) V.τ cl ec lf el) 5 V.n V.tk gl) =
    vR (.ok .next) (prOE F it tp fo (tupZ 7) V.τ cl ec lf el) gl (go (fol b1 b2 w) spF 1000 (prOC it F.l) prOcZ V.P V.B (prOE F it tp fo (tupI tp 7) V.τ cl ec lf el) 5 V.n V.tk gl) := by
  kernel_rfl
end
end Mine
end
section
set_option genInjectivity false
set_option maxRecDepth 100000
set_option maxHeartbeats 400000
namespace Mine
open PySem PySem.Spec PySem.Calls PyProof.Rows PySem.W PySem.W.X
/-- the guests of the minutes below n look for openings, the last one first -/
noncomputable def parkOut (come : List Wd) : Nat → List Bool × Nat → List Bool × Nat
  | 0, st => st
  | n + 1, st => parkOut come n (if come.getD n .e = .e then st else ((parkIn st.1 n 7).1, st.2 + (parkIn st.1 n 7).2))
/-- the frame at an outer turn -/
noncomputable def FoutOk (come : List Wd) (F : Rf) (ov : Nat) (to : Nat) (j : Nat) (fo : Obj) : Prop := (j = 0 ∧ fo = prF4 F (.ofNat ov) to) ∨ ((∀ k, 7 - j ≤ k → k < 7 → come.getD k .e = .e) ∧ ∃ N mv, fo = prF5 F (.ofNat ov) to N mv) ∨ ∃ N mv pv, fo = prF6 F (.ofNat ov) to N mv pv
/-- the frame behind the outer loop -/
noncomputable def FendOk (come : List Wd) (F : Rf) (ov : Nat) (fo : Obj) : Prop := ∃ to N mv, ((∀ k, k < 7 → come.getD k .e = .e) ∧ fo = prF5 F (.ofNat ov) to N mv) ∨ ∃ pv, fo = prF6 F (.ofNat ov) to N mv pv
theorem parkIn_len (left : List Bool) : ∀ n p, (parkIn left p n).1.length = left.length
  | 0, _ => rfl
  | n + 1, p => by
    show (if left.getD (p % 7) false then (left.set (p % 7) false, p / 7) else parkIn left (p + 1) n).1.length = _
    split
    · rw [List.length_set]
    · exact parkIn_len left n (p + 1)
noncomputable abbrev PoPost (F : Rf) (it tp ec el : Nat) (τ : Nat → Nat) (gl : List GenState) (come : List (Wd × Nat)) (L : List Bool × Nat) : Nat → Result → List (Nat × Obj) → List GenState → Prop := fun _ r E2 gl2 =>
  ∃ (left : List (Bool × Nat)) (fo : Obj), r = .ok .next ∧ gl2 = gl ∧ left.map (·.1) = L.1 ∧ FendOk (come.map (·.1)) F L.2 fo ∧ E2 = prOE F it tp fo (tupZ 7) τ (come.map wvv) ec (left.map bvv) el
/-- an outer turn's record V and the form s of its frame -/
structure PrV (come : List Wd) (F : Rf) (ov to j : Nat) (fo : Obj) (n tk : Nat) (P : Nat → Pos) (B : Nat → List (Code × Pos)) (cv : Nat → Value) (τ : Nat → Nat) (V : Rv) (s : Nat) : Prop where
  v1 : V.n = n
  v2 : V.tk = tk
  v3 : V.P = P
  v4 : V.B = B
  v5 : V.cv = cv
  v6 : V.τ = τ
  v7 : V.ov = .ofNat ov
  v8 : V.to = to
  eq : fo = prOF F V s
  s3 : s < 3
  s0 : s = 0 → j = 0
  sh : s < 2 → ∀ k, 7 - j ≤ k → k < 7 → come.getD k .e = .e
theorem prOF_of {come : List Wd} {F : Rf} {ov to j : Nat} {fo : Obj} (h : FoutOk come F ov to j fo) (n tk : Nat) (P : Nat → Pos) (B : Nat → List (Code × Pos)) (cv : Nat → Value) (τ : Nat → Nat) :
    ∃ (V : Rv) (s : Nat), PrV come F ov to j fo n tk P B cv τ V s := by
  rcases h with ⟨rfl, rfl⟩ | ⟨hh, N, mv, rfl⟩ | ⟨N, mv, pv, rfl⟩
  · exact ⟨⟨n, tk, P, B, .ofNat ov, to, ⟨0, 0, 0, 0⟩, .none, .none, fun _ => .none, cv, τ⟩, 0, rfl, rfl, rfl, rfl, rfl, rfl, rfl, rfl, rfl, by decide, fun _ => rfl, fun _ k h1 h2 => absurd h2 (Nat.not_lt_of_le h1)⟩
  · exact ⟨⟨n, tk, P, B, .ofNat ov, to, N, mv, .none, fun _ => .none, cv, τ⟩, 1, rfl, rfl, rfl, rfl, rfl, rfl, rfl, rfl, rfl, by decide, (fun h => nomatch h), fun _ => hh⟩
  · exact ⟨⟨n, tk, P, B, .ofNat ov, to, N, mv, pv, fun _ => .none, cv, τ⟩, 2, rfl, rfl, rfl, rfl, rfl, rfl, rfl, rfl, rfl, by decide, (fun h => nomatch h), fun h => absurd h (by decide)⟩
theorem prOFm_ok (w : World) (F : Rf) (V : Rv) (s j ov : Nat) (h : V.ov = .ofNat ov) (h3 : s < 3) : (∀ come : List Wd, (s < 2 → ∀ k, 7 - (j + 1) ≤ k → k < 7 → come.getD k .e = .e) → FoutOk come F ov V.to (j + 1) (prOFm w F V s j)) ∧ FiOk F (.ofNat ov) V.to 0 (prOFm w F V s j) := by
  unfold prOFm
  rw [h]
  match s, h3 with
  | 0, _ => exact ⟨fun come q => .inr (.inl ⟨q (by decide), _, _, rfl⟩), .inl ⟨rfl, _, _, rfl⟩⟩
  | 1, _ => exact ⟨fun come q => .inr (.inl ⟨q (by decide), _, _, rfl⟩), .inl ⟨rfl, _, _, rfl⟩⟩
  | 2, _ => exact ⟨fun come q => .inr (.inr ⟨_, _, _, rfl⟩), .inr ⟨_, _, _, rfl⟩⟩
theorem pr_outer (F : Rf) (it tp ec el : Nat) (τ : Nat → Nat) (gl : List GenState) (come : List (Wd × Nat)) (hc : come.length = 7) (hd : ∀ x ∈ come, x.1 ≠ .d) (left : List (Bool × Nat)) (hl : left.length = 7) (to : Nat) (w : World) (lo : Nat) :
    SpcT w 115 lo (prOC it F.l) gl (prOE F it tp (prF4 F 0 to) (tupI tp 0) τ (come.map wvv) ec (left.map bvv) el) (PoPost F it tp ec el τ gl come (parkOut (come.map (·.1)) 7 (left.map (·.1), 0))) := by
  refine loop_ind (N := 7) (fun lo j E => ∃ (lf : List (Bool × Nat)) (ov to : Nat) (fo : Obj), lf.length = 7 ∧ FoutOk (come.map (·.1)) F ov to j fo ∧ parkOut (come.map (·.1)) 7 (left.map (·.1), 0) = parkOut (come.map (·.1)) (7 - j) (lf.map (·.1), ov) ∧
    E = prOE F it tp fo (tupI tp j) τ (come.map wvv) ec (lf.map bvv) el) ?_ ?_ 7 0 rfl w lo _ ⟨left, 0, to, _, hl, .inl ⟨rfl, rfl⟩, rfl, rfl⟩
  · rintro w lo j E j7 ⟨lf, ov, to, fo, hlf, ho, hp, rfl⟩ IH
    refine spcT_fol fun c1 c2 => ?_
    have m7 : 6 - j < 7 := Nat.lt_of_le_of_lt (Nat.sub_le 6 j) (by decide)
    have jf : 6 - j < come.length := hc ▸ m7
    have pc := put7_map come wvv hc _ m7
    have eb : (come.map (·.1)).getD (6 - j) .e = come[6 - j].1 := by simp [List.getD_eq_getElem?_getD, jf]
    have hnd := hd _ (List.getElem_mem jf)
    have e7 : 7 - j = (6 - j) + 1 := Nat.succ_sub (Nat.le_of_lt_succ j7)
    rw [e7] at hp
    have hp' : parkOut (come.map (·.1)) 7 (left.map (·.1), 0) = parkOut (come.map (·.1)) (6 - j) (if come[6 - j].1 = .e then (lf.map (·.1), ov) else ((parkIn (lf.map (·.1)) (6 - j) 7).1, ov + (parkIn (lf.map (·.1)) (6 - j) 7).2)) := by
      rw [hp, ← eb]; rfl
    have e8 : 6 - j = 7 - (j + 1) := (Nat.succ_sub_succ 6 j).symm
    generalize hx : come[6 - j] = x at pc hp' hnd eb
    obtain ⟨cw, t⟩ := x
    cases cw with
    | d => exact absurd rfl hnd
    | e =>
      have pc' : put7 (fun j => (come.map wvv).getD j .none) (6 - j) (emp t) = come.map wvv := pc
      refine spcT_of spF 1000 prOcE 5 rfl (by kernel_rfl) (by decide) fun A R h d tk os hA hdep Pr hlo K n' P B => ?_
      obtain ⟨V, s, X⟩ := prOF_of ho n' tk P B (fun j => (come.map wvv).getD j .none) τ
      obtain rfl := X.eq
      have h1 := tab_get (pr_runsE c1 c2 w F it tp ec el V gl t (lf.map bvv)) (7 * s + j) (LT.md_lt j7 X.s3)
      have ei : (7 * s + j) / 7 = s := LT.md_div (by decide) j7
      have ei2 : (7 * s + j) % 7 = j := LT.md_mod j7
      try dsimp only at h1
      rw [ei, ei2] at h1
      unfold prO0 at h1
      rw [X.v1, X.v2, X.v3, X.v4, X.v5, X.v6, pc'] at h1
      refine sat_nextT h1 id (IH _ tk _ hlo ⟨lf, ov, V.to, _, hlf, (prOFm_ok _ F V s j ov X.v7 X.s3).1 _ fun q k k1 k2 => ?_, by rw [hp', ← e8]; rfl, rfl⟩) (by decide) hA hdep Pr K
      by_cases hk : 7 - j ≤ k
      · exact X.sh q k hk k2
      · have : k = 6 - j := by omega
        rw [this, eb]
    | l c =>
      have pc' : put7 (fun j => (come.map wvv).getD j .none) (6 - j) (wdv c t) = come.map wvv := pc
      refine spcT_of spF 1000 prOcW 5 rfl (by kernel_rfl) (by decide) fun A R h d tk os hA hdep Pr hlo K n' P B => ?_
      obtain ⟨V, s, X⟩ := prOF_of ho n' tk P B (fun j => (come.map wvv).getD j .none) τ
      obtain rfl := X.eq
      have key : ∀ (lf' : List Value) (ov : Int) (to : Nat) (N : Rn) (mv pv : Value) (p k : Nat) (U : Un),
          vS iW (prO0 (fol c1 c2 w) prOcW F it tp ec el V gl s j (wdv c t) (lf.map bvv)) = vSR (prIC (V.n + 1) F.l) 0 (prIE F (V.n + 1) (prOFm (fol c1 c2 w) F V s j) (6 - j) 7 (lf.map bvv) el) gl (prO0 (fol c1 c2 w) prOcW F it tp ec el V gl s j (wdv c t) (lf.map bvv)) ∧
          vN i5 (prOW (fol c1 c2 w) F it tp ec el V gl s j (wdv c t) (lf.map bvv) lf' ov to N mv pv p k U) =
            vNR (prOC it F.l) (prOE F it tp (prF6 F ov to N mv pv) (tupI tp (j + 1)) V.τ (put7 V.cv (6 - j) (wdv c t)) ec lf' el) gl (prOW (fol c1 c2 w) F it tp ec el V gl s j (wdv c t) (lf.map bvv) lf' ov to N mv pv p k U) := by
        intro lf' ov to N mv pv p k U
        cases s with
        | zero =>
          have := X.s0 rfl
          subst this
          exact pr_runsW0 c1 c2 w F it tp ec el V gl t c (lf.map bvv) lf' ov to N mv pv p k U
        | succ s' =>
          have z := pr_runsW c1 c2 w F it tp ec el V gl t c (lf.map bvv) lf' ov to N mv pv p k U
          have ei : (7 * s' + j) / 7 = s' := LT.md_div (by decide) j7
          have ei2 : (7 * s' + j) % 7 = j := LT.md_mod j7
          have z1 := tab_get z.1 (7 * s' + j) (LT.md_lt j7 (Nat.lt_of_succ_lt_succ X.s3))
          have z2 := tab_get z.2 (7 * s' + j) (LT.md_lt j7 (Nat.lt_of_succ_lt_succ X.s3))
          (try dsimp only at z1 z2)
          rw [ei, ei2] at z1 z2
          exact ⟨z1, z2⟩
      have C1 := pr_inner F (V.n + 1) el gl lf hlf (6 - j) m7 (.ofNat ov) V.to _ (prOFm_ok (fol c1 c2 w) F V s j ov X.v7 X.s3).2 (fol c1 c2 w) lo
      have h1 := (key [] 0 0 ⟨0, 0, 0, 0⟩ .none .none 0 0 ⟨0, 0, P, B⟩).1
      unfold prOW at key
      unfold prO0 at h1 key
      rw [X.v1, X.v2, X.v3, X.v4, X.v5, X.v6, pc'] at h1 key
      rw [X.v1] at C1
      refine sat_specT (D := 115) h1 (fun le => Nat.le_trans hlo le) C1 (by decide) (by decide) hA hdep Pr ?_ ?_
      · rintro _ _ _ _ ⟨left, to, p, k, N, mv, pv, rfl, rfl, _, rfl⟩
        exact ok_same _ _ rfl rfl
      rintro _ _ gl2 n2 tk2 le1 _ ⟨lf2, to2, p2, k2, N2, mv2, pv2, rfl, e3, hl2, rfl⟩ _ P2 B2
      rw [e3]
      have h2 := (key (lf2.map bvv) (.ofNat ov + .ofNat (parkIn (lf.map (·.1)) (6 - j) 7).2) to2 N2 mv2 pv2 p2 k2 ⟨n2, tk2, P2, B2⟩).2
      have ll : lf2.length = 7 := by
        have := congrArg List.length hl2
        rw [List.length_map, parkIn_len, List.length_map] at this
        omega
      refine sat_nextT h2 id (IH _ tk2 _ (Nat.le_trans hlo le1) ⟨lf2, ov + (parkIn (lf.map (·.1)) (6 - j) 7).2, to2, _, ll, .inr (.inr ⟨N2, mv2, pv2, rfl⟩), ?_, rfl⟩) (by decide) hA hdep Pr fun r h' E2 gl2 tk' le' => K r h' E2 gl2 tk' (Nat.le_trans le1 le')
      rw [hp', ← e8, hl2]
      rfl
  · rintro w lo E ⟨lf, ov, to, fo, hlf, ho, hp, rfl⟩
    rw [hp]
    refine spcT_fol fun c1 c2 => ?_
    refine spcT_of spF 1000 prOcZ 5 rfl (by kernel_rfl) (by decide) fun A R' h d tk os hA hdep Pr hlo K n' P B => ?_
    have R := pr_runOZ c1 c2 w F it tp ec el ⟨n', tk, P, B, 0, 0, ⟨0, 0, 0, 0⟩, .none, .none, fun _ => .none, fun _ => .none, τ⟩ gl (lf.map bvv) fo (come.map wvv)
    refine sat_retV R (by decide) fun h' tk' le F' => K _ _ _ _ _ le F' ⟨lf, fo, rfl, rfl, rfl, ?_, rfl⟩
    rcases ho with ⟨h0, _⟩ | ⟨hall, N, mv, rfl⟩ | ⟨N, mv, pv, rfl⟩
    · exact absurd h0 (by decide)
    · exact ⟨_, _, _, .inl ⟨fun k hk => hall k (Nat.zero_le _) hk, rfl⟩⟩
    · exact ⟨_, _, _, .inr ⟨_, rfl⟩⟩
end Mine
end
section
set_option maxRecDepth 100000
set_option maxHeartbeats 400000
namespace Mine
open PySem PySem.Spec PySem.Calls PyProof.Rows PySem.W PySem.W.X
noncomputable def asE : Option Stmt → Expr
  | some (.Assign _ e _) => e
  | _ => .Constant .none 0 default
noncomputable abbrev guX : Expr := asE (stAt 21 3)
noncomputable abbrev guC (C : Cf) : Code := cmpK guX prQ 159 C.it C.ac C.dl C.fr []
noncomputable abbrev guE (C : Cf) (io : Obj) (ws : List Value) (ec : Nat) (out : List Value) (m : Nat) (od : Obj) : List (Nat × Obj) :=
  [(C.it + 178, io), (C.sl + 178, lst ws ec), (C.ac + 178, lst out m), (C.dl + 178, od)]
noncomputable def gu0 (w : World) (oc : List Nat) (C : Cf) (V : Cv) (gl : List GenState) (ec j m : Nat) (x : Value) : Out :=
  go w spF 1000 (guC C) oc V.P V.B (guE C (itO (.ref (C.sl + 178)) j) (put7 V.wf j x) ec (vals V.ov 0 m) m (odAt sWord V j)) 4 V.n V.tk gl
noncomputable abbrev ocGe : List Nat := [1, 1, 1, 1, 2, 1, 1, 4, 4, 4]
section
variable (b1 b2 : Bool) (w : World) (C : Cf) (V : Cv) (gl : List GenState) (t c ec : Nat)
theorem gu_runsE :
    tab (fun i => vNt i4 (gu0 (fol b1 b2 w) ocGe C V gl ec (i / 7) (i % 7) (emp t))) 49 =
    tab2 (fun i => (vNR (guC C) (guE C (itO (.ref (C.sl + 178)) (i / 7 + 1)) (put7 V.wf (i / 7) (emp t)) ec (vals V.ov 0 (i % 7)) (i % 7) (odTo (fol b1 b2 w) sWord V (i / 7) (emp t))) gl (gu0 (fol b1 b2 w) ocGe C V gl ec (i / 7) (i % 7) (emp t)), V.tk + 2)) 49 := by
  cases b1 <;> kernel_rfl
theorem gu_runsL :
    tab (fun i => vNt i4 (gu0 (fol b1 b2 w) ocW C V gl ec (i / 7) (i % 7) (wdv c t))) 49 =
    tab2 (fun i => (vNR (guC C) (guE C (itO (.ref (C.sl + 178)) (i / 7 + 1)) (put7 V.wf (i / 7) (wdv c t)) ec (vals V.ov 0 (i % 7) ++ [wdv c t]) (i % 7 + 1) (odTo (fol b1 b2 w) sWord V (i / 7) (wdv c t))) gl (gu0 (fol b1 b2 w) ocW C V gl ec (i / 7) (i % 7) (wdv c t)), V.tk + 2)) 49 := by
  cases b1 <;> kernel_rfl
theorem gu_runZ (od : Obj) (out ws : List Value) (m : Nat) :
    vL i4 (go (fol b1 b2 w) spF 1000 (guC C) ocY V.P V.B (guE C (itO (.ref (C.sl + 178)) 7) (vals V.wf 0 7) ec out m od) 4 V.n V.tk gl) =
    vR (.ok .next) (guE C (itZ 7) (vals V.wf 0 7) ec out m od) gl (go (fol b1 b2 w) spF 1000 (guC C) ocY V.P V.B (guE C (itO (.ref (C.sl + 178)) 7) (vals V.wf 0 7) ec out m od) 4 V.n V.tk gl) := by
  kernel_rfl
end
end Mine
end
section
set_option maxRecDepth 100000
set_option maxHeartbeats 400000
namespace Mine
open PySem PySem.Spec PySem.Calls PyProof.Rows PySem.W PySem.W.X
noncomputable def isW (x : Wd × Nat) : Bool := match x.1 with | .e => false | _ => true
noncomputable abbrev GuPost (C : Cf) (gl : List GenState) (ws : List Value) (ec : Nat) (out : List Value) : Nat → Result → List (Nat × Obj) → List GenState → Prop := fun _ r E2 gl2 =>
  ∃ (hh : Int) (tt : Nat) (xv : Value), r = .ok .next ∧ gl2 = gl ∧ E2 = guE C (itZ 7) ws ec out out.length (dct [(hh, sWord, tt, xv)] 1)
theorem gu_loop (C : Cf) (gl : List GenState) (come : List (Wd × Nat)) (hc : come.length = 7) (hd : ∀ x ∈ come, x.1 ≠ .d) (ec : Nat) (w : World) (lo : Nat) :
    SpcT w 110 lo (guC C) gl (guE C (itO (.ref (C.sl + 178)) 0) (come.map wvv) ec [] 0 (dct [] 0)) (GuPost C gl (come.map wvv) ec ((come.filter isW).map wvv)) := by
  refine loop_ind (N := 7) (fun lo j E => ∃ od, OdOk sWord j od ∧ E = guE C (itO (.ref (C.sl + 178)) j) (come.map wvv) ec (((come.take j).filter isW).map wvv) ((come.take j).filter isW).length od) ?_ ?_ 7 0 rfl w lo _ ⟨_, .inl ⟨rfl, rfl⟩, rfl⟩
  · rintro w lo j E j7 ⟨od, ho, rfl⟩ IH
    refine spcT_fol fun c1 c2 => ?_
    have jf : j < come.length := hc ▸ j7
    have pc := put7_map come wvv hc j j7
    have hnd := hd _ (List.getElem_mem jf)
    have et : (come.take (j + 1)).filter isW = (come.take j).filter isW ++ (if isW come[j] then [come[j]] else []) := by
      rw [List.take_add_one, List.getElem?_eq_getElem jf, List.filter_append]
      cases h : isW come[j] <;> simp [h]
    have hm : ((come.take j).filter isW).length ≤ j := Nat.le_trans (List.length_filter_le _ _) (List.length_take_le _ _)
    generalize hout : (come.take j).filter isW = out at et hm ⊢
    have o7 : out.length < 7 := Nat.lt_of_le_of_lt hm j7
    have i49 : 7 * j + out.length < 49 := LT.md_lt o7 j7
    have ei : (7 * j + out.length) / 7 = j := LT.md_div (by decide) o7
    have ei2 : (7 * j + out.length) % 7 = out.length := LT.md_mod o7
    have ev := vals_map out wvv rfl
    generalize hx : come[j] = x at pc hnd et
    obtain ⟨cw, t⟩ := x
    have nxt : ∀ (lo' : Nat) (od' : Obj) (o2 : List Value) (m2 : Nat), lo ≤ lo' → OdOk sWord (j + 1) od' → ((come.take (j + 1)).filter isW).map wvv = o2 → ((come.take (j + 1)).filter isW).length = m2 →
        SpcT (fol c1 c2 w) 110 lo' (guC C) gl (guE C (itO (.ref (C.sl + 178)) (j + 1)) (come.map wvv) ec o2 m2 od') (GuPost C gl (come.map wvv) ec ((come.filter isW).map wvv)) :=
      fun lo' od' o2 m2 le h e1 e2 => IH _ lo' _ le ⟨od', h, by rw [e1, e2]⟩
    cases cw with
    | d => exact absurd rfl hnd
    | e =>
      refine spcT_of spF 1000 ocGe 4 rfl (by kernel_rfl) (by decide) fun A R h d tk os hA hdep Pr hlo K n' P B => ?_
      obtain ⟨V, v1, v2, v3, v4, v5, v6, rfl⟩ := odAt_of ho n' tk P B (fun j => (come.map wvv).getD j .none) (fun j => (out.map wvv).getD j .none)
      have h1 := tab_get (gu_runsE c1 c2 w C V gl t ec) (7 * j + out.length) i49
      (try dsimp only at h1)
      rw [ei, ei2] at h1
      unfold gu0 at h1
      rw [v1, v2, v3, v4, v5, v6, ev] at h1
      rw [show put7 (fun j => (come.map wvv).getD j .none) j (emp t) = come.map wvv from pc] at h1
      unfold vNt at h1
      rw [Prod.mk.injEq] at h1
      refine sat_nextT h1.1 (fun _ => Nat.le_of_eq h1.2.symm) (nxt (tk + 2) _ _ _ (Nat.le_add_right_of_le hlo) (odTo_ok ..) ?_ ?_) (by decide) hA hdep Pr K
      · rw [et]; simp [isW]
      · rw [et]; simp [isW]
    | l c =>
      refine spcT_of spF 1000 ocW 4 rfl (by kernel_rfl) (by decide) fun A R h d tk os hA hdep Pr hlo K n' P B => ?_
      obtain ⟨V, v1, v2, v3, v4, v5, v6, rfl⟩ := odAt_of ho n' tk P B (fun j => (come.map wvv).getD j .none) (fun j => (out.map wvv).getD j .none)
      have h1 := tab_get (gu_runsL c1 c2 w C V gl t c ec) (7 * j + out.length) i49
      (try dsimp only at h1)
      rw [ei, ei2] at h1
      unfold gu0 at h1
      rw [v1, v2, v3, v4, v5, v6, ev] at h1
      rw [show put7 (fun j => (come.map wvv).getD j .none) j (wdv c t) = come.map wvv from pc] at h1
      unfold vNt at h1
      rw [Prod.mk.injEq] at h1
      refine sat_nextT h1.1 (fun _ => Nat.le_of_eq h1.2.symm) (nxt (tk + 2) _ _ _ (Nat.le_add_right_of_le hlo) (odTo_ok ..) ?_ ?_) (by decide) hA hdep Pr K
      · rw [et]; simp [isW]; rfl
      · rw [et]; simp [isW]
  · rintro w lo E ⟨od, ho, rfl⟩
    rcases ho with ⟨h0, _⟩ | ⟨_, hh, tt, xv, rfl⟩
    · exact absurd h0 (by decide)
    have e7 : come.take 7 = come := List.take_of_length_le (Nat.le_of_eq hc)
    rw [e7]
    refine spcT_fol fun c1 c2 => ?_
    refine spcT_of spF 1000 ocY 4 rfl (by kernel_rfl) (by decide) fun A R' h d tk os hA hdep Pr hlo K n' P B => ?_
    have R := gu_runZ c1 c2 w C ⟨n', tk, P, B, 0, 0, .none, fun j => (come.map wvv).getD j .none, fun _ => .none⟩ gl ec (dct [(hh, sWord, tt, xv)] 1) ((come.filter isW).map wvv) [] (come.filter isW).length
    dsimp only at R
    rw [vals_map come wvv hc] at R
    exact sat_retV R (by decide) fun h' tk' le F' => K _ _ _ _ _ le F' ⟨hh, tt, xv, rfl, rfl, by rw [List.length_map]⟩
end Mine
end
section
set_option genInjectivity false
set_option maxRecDepth 100000
set_option maxHeartbeats 400000
namespace Mine
open PySem PySem.Spec PySem.Calls PyProof.Rows PySem.W PySem.W.X
noncomputable abbrev sGuests : List Nat := [103, 117, 101, 115, 116, 115]
noncomputable abbrev sGone : List Nat := [103, 111, 110, 101]
/-- the last loop's own: iterator, guests, gone -/
structure Rl where
  it : Nat
  ef : Nat
  el : Nat
  gu : Nat
  go : Nat
  hg : Int
  g : Nat
  hn : Int
  n : Nat
noncomputable def prG (X : Rl) : Ent := [(X.hg, sGuests, X.g, .ref (X.gu + 178)), (X.hn, sGone, X.n, .ref (X.go + 178))]
noncomputable def prL5 (F : Rf) (X : Rl) (ov : Int) (to : Nat) (N : Rn) (mv : Value) : Obj := frm (prB F ov to ++ [(N.hm, sMinute, N.m, mv)] ++ prG X) 7
noncomputable def prL6 (F : Rf) (X : Rl) (ov : Int) (to : Nat) (N : Rn) (mv pv : Value) : Obj := frm (prB F ov to ++ [(N.hm, sMinute, N.m, mv), (N.hp, sPlace, N.p, pv)] ++ prG X) 8
noncomputable abbrev prLF (F : Rf) (X : Rl) (V : Rv) (s : Nat) (mv : Value) : Obj := cond (Nat.beq s 1) (prL5 F X V.ov V.to V.N mv) (prL6 F X V.ov V.to V.N mv V.pv)
noncomputable abbrev prL : Option Stmt := stAt 21 6
noncomputable def prLC (it l : Nat) : Code := .forLoop (forTgt prL) (.ref (it + 178)) (forBody prL) (forElse prL) (prEnv l)
noncomputable abbrev prLE (F : Rf) (X : Rl) (fo : Obj) (j : Nat) (fl lf : List Value) (og : Obj) (gv : List Value) : List (Nat × Obj) :=
  [(F.l + 178, fo), (X.it + 178, rgI (.ofNat j) (.ofNat (7 - j)) 1), (F.fr + 178, lst fl X.ef), (F.lf + 178, lst lf X.el), (X.gu + 178, og), (X.go + 178, lst gv j)]
noncomputable abbrev prLp : List Nat := [2, 2, 2, 2, 2, 2, 2, 2, 2, 1, 1, 1, 6, 6, 6, 6, 1, 1, 3, 3, 3, 3, 3, 1, 1, 4, 4, 4, 4, 4, 1, 5, 5, 5, 5, 5, 5, 5, 5, 5, 6, 6, 6, 6]
noncomputable abbrev prLn : List Nat := [2, 2, 2, 2, 2, 2, 2, 2, 2, 1, 1, 1, 6, 6, 6, 6, 1, 1, 3, 3, 3, 3, 3, 1, 1, 4, 4, 4, 4, 4, 6, 6, 6, 6]
noncomputable abbrev i6 : List Nat := [0, 1, 2, 3, 4, 5]
noncomputable def prL0 (w : World) (oc : List Nat) (F : Rf) (X : Rl) (V : Rv) (fv gv : Nat → Value) (gl : List GenState) (s j : Nat) (x y : Value) (og : Obj) : Out :=
  go w spF 1000 (prLC X.it F.l) oc V.P V.B (prLE F X (prLF F X V s V.mv) j (put7 fv j x) (put7 V.lv j y) og (vals gv 0 j)) 6 V.n V.tk gl
section
variable (b1 b2 : Bool) (w : World) (F : Rf) (X : Rl) (V : Rv) (fv gv : Nat → Value) (gl : List GenState) (t u k : Nat) (xs : Str) (xt : Nat) (og : Obj)
theorem pr_runsLp :
    tab (fun i => vN i6 (prL0 (fol b1 b2 w) prLp F X V fv gv gl 2 (i / 7) (.int 1 t) (.int 0 u) (lst (.str xs xt :: vals V.cv 0 (i % 7)) k))) 49 =
    tab2 (fun i => vNR (prLC X.it F.l) (prLE F X (prLF F X V 2 (.int (.ofNat (i / 7)) V.tk)) (i / 7 + 1) (put7 fv (i / 7) (.int 1 t)) (put7 V.lv (i / 7) (.int 0 u)) (lst (vals V.cv 0 (i % 7)) (k + 1)) (vals gv 0 (i / 7) ++ [.str xs xt])) gl
      (prL0 (fol b1 b2 w) prLp F X V fv gv gl 2 (i / 7) (.int 1 t) (.int 0 u) (lst (.str xs xt :: vals V.cv 0 (i % 7)) k))) 49 := by
  cases b1 <;> kernel_rfl
theorem pr_runsLn :
    tab (fun i => vNt i6 (prL0 (fol b1 b2 w) prLn F X V fv gv gl (1 + i / 7 % 2) (i % 7) (.int (.ofNat (i / 14)) t) (.int (.ofNat (i / 14)) u) og)) 28 =
    tab2 (fun i => (vNR (prLC X.it F.l) (prLE F X (prLF F X V (1 + i / 7 % 2) (.int (.ofNat (i % 7)) V.tk)) (i % 7 + 1) (put7 fv (i % 7) (.int (.ofNat (i / 14)) t)) (put7 V.lv (i % 7) (.int (.ofNat (i / 14)) u)) og (vals gv 0 (i % 7) ++ [emp (V.tk + 2)])) gl
      (prL0 (fol b1 b2 w) prLn F X V fv gv gl (1 + i / 7 % 2) (i % 7) (.int (.ofNat (i / 14)) t) (.int (.ofNat (i / 14)) u) og), V.tk + 3)) 28 := by
  cases b1 <;> kernel_rfl
theorem pr_runLZ (fo : Obj) (fl lf gv : List Value) :
    vL i6 (go (fol b1 b2 w) spF 1000 (prLC X.it F.l) [2, 2, 2, 2, 2, 8] V.P V.B (prLE F X fo 7 fl lf og gv) 6 V.n V.tk gl) =
    vR (.ok .next) (prLE F X fo 7 fl lf og gv) gl (go (fol b1 b2 w) spF 1000 (prLC X.it F.l) [2, 2, 2, 2, 2, 8] V.P V.B (prLE F X fo 7 fl lf og gv) 6 V.n V.tk gl) := by
  kernel_rfl
end
end Mine
end
section
set_option maxRecDepth 100000
set_option maxHeartbeats 400000
namespace Mine
open PySem PySem.Spec PySem.Calls PyProof.Rows PySem.W PySem.W.X
noncomputable def nonE (x : Wd) : Bool := match x with | .e => false | _ => true
noncomputable def wstr : Wd → Str
  | .e => ⟨#[]⟩
  | .d => ⟨#[46]⟩
  | .l c => ⟨#[c + 97]⟩
theorem wvv_str (p : Wd × Nat) : wvv p = .str (wstr p.1) p.2 := by
  obtain ⟨x, t⟩ := p
  cases x <;> rfl
/-- a minute whose opening is taken -/
noncomputable def took (free left : List Bool) (j : Nat) : Bool := free.getD j false && !left.getD j false
noncomputable def goneGo (free left : List Bool) : Nat → Nat → List Wd → List Wd
  | 0, _, _ => []
  | n + 1, j, gs => if took free left j then gs.headD .e :: goneGo free left n (j + 1) gs.tail else .e :: goneGo free left n (j + 1) gs
noncomputable def pops (free left : List Bool) : Nat → Nat → Nat
  | 0, _ => 0
  | n + 1, j => pops free left n (j + 1) + if took free left j then 1 else 0
noncomputable abbrev PlPost (F : Rf) (X : Rl) (s : Nat) (gl : List GenState) (fl lf : List Value) (G : List Wd) : Nat → Result → List (Nat × Obj) → List GenState → Prop := fun tk' r E2 gl2 =>
  ∃ (gone gq : List (Wd × Nat)) (k : Nat) (V : Rv) (mv : Value), r = .ok .next ∧ gl2 = gl ∧ gone.map (·.1) = G ∧ (∀ x ∈ gone, InT tk' x.2) ∧ E2 = prLE F X (prLF F X V s mv) 7 fl lf (lst (gq.map wvv) k) (gone.map wvv)
theorem at28 : ∀ b : Fin 2, ∀ s : Fin 2, ∀ j : Fin 7, 14 * b.1 + 7 * s.1 + j.1 < 28 ∧ (14 * b.1 + 7 * s.1 + j.1) % 7 = j.1 ∧ 1 + (14 * b.1 + 7 * s.1 + j.1) / 7 % 2 = s.1 + 1 ∧ (14 * b.1 + 7 * s.1 + j.1) / 14 = b.1 := by decide +kernel
theorem at28' (β : Bool) {s j : Nat} (hs : s = 1 ∨ s = 2) (hj : j < 7) : 14 * β.toNat + 7 * (s - 1) + j < 28 ∧ (14 * β.toNat + 7 * (s - 1) + j) % 7 = j ∧ 1 + (14 * β.toNat + 7 * (s - 1) + j) / 7 % 2 = s ∧ (14 * β.toNat + 7 * (s - 1) + j) / 14 = β.toNat := by
  rcases hs with rfl | rfl <;> cases β
  · exact at28 0 0 ⟨j, hj⟩
  · exact at28 1 0 ⟨j, hj⟩
  · exact at28 0 1 ⟨j, hj⟩
  · exact at28 1 1 ⟨j, hj⟩
theorem at49 : ∀ j r : Fin 7, 7 * j.1 + r.1 < 49 ∧ (7 * j.1 + r.1) / 7 = j.1 ∧ (7 * j.1 + r.1) % 7 = r.1 := by decide +kernel
theorem sub7 {j : Nat} (h : j < 7) : 7 - j = (7 - (j + 1)) + 1 := (Nat.sub_add_cancel (Nat.sub_pos_of_lt h)).symm
theorem pr_last (F : Rf) (X : Rl) (s : Nat) (hs : s = 1 ∨ s = 2) (gl : List GenState) (free left : List (Bool × Nat)) (hf : free.length = 7) (hl : left.length = 7) (hlr : ∀ j, j < 7 → (left.map (·.1)).getD j false = true → (free.map (·.1)).getD j false = true)
    (gs : List (Wd × Nat)) (hg7 : gs.length ≤ 7) (hpop : pops (free.map (·.1)) (left.map (·.1)) 7 0 ≤ gs.length) (hs1 : s = 1 → gs = []) (V : Rv) (mv : Value) (k : Nat) (w : World) (lo : Nat) (bg : ∀ x ∈ gs, InT lo x.2) :
    SpcT w 110 lo (prLC X.it F.l) gl (prLE F X (prLF F X V s mv) 0 (free.map bvv) (left.map bvv) (lst (gs.map wvv) k) []) (PlPost F X s gl (free.map bvv) (left.map bvv) (goneGo (free.map (·.1)) (left.map (·.1)) 7 0 (gs.map (·.1)))) := by
  refine loop_ind (N := 7) (fun lo j E => ∃ (gone gq : List (Wd × Nat)) (k : Nat) (V : Rv) (mv : Value), gone.length = j ∧ gone.map (·.1) ++ goneGo (free.map (·.1)) (left.map (·.1)) (7 - j) j (gq.map (·.1)) = goneGo (free.map (·.1)) (left.map (·.1)) 7 0 (gs.map (·.1)) ∧
    gq.length ≤ 7 ∧ pops (free.map (·.1)) (left.map (·.1)) (7 - j) j ≤ gq.length ∧ (s = 1 → gq = []) ∧ (∀ x ∈ gone, InT lo x.2) ∧ (∀ x ∈ gq, InT lo x.2) ∧ E = prLE F X (prLF F X V s mv) j (free.map bvv) (left.map bvv) (lst (gq.map wvv) k) (gone.map wvv)) ?_ ?_ 7 0 rfl w lo _
    ⟨[], gs, k, V, mv, rfl, rfl, hg7, hpop, hs1, (fun _ h => nomatch h), bg, rfl⟩
  · rintro w lo j E j7 ⟨gone, gq, k, V0, mv, hgl, hG, hq7, hp, hq1, bgo, bgq, rfl⟩ IH
    refine spcT_fol fun c1 c2 => ?_
    have jf : j < free.length := hf ▸ j7
    have jl : j < left.length := hl ▸ j7
    have pf := put7_map free bvv hf j j7
    have pl := put7_map left bvv hl j j7
    have ef : (free.map (·.1)).getD j false = free[j].1 := by simp [List.getD_eq_getElem?_getD, jf]
    have el : (left.map (·.1)).getD j false = left[j].1 := by simp [List.getD_eq_getElem?_getD, jl]
    have hsub := hlr j j7
    have htk : took (free.map (·.1)) (left.map (·.1)) j = (free[j].1 && !left[j].1) := by unfold took; rw [ef, el]
    rw [ef, el] at hsub
    have ev := vals_map gone wvv hgl
    have e7 := sub7 j7
    rw [e7] at hG hp
    have hG' : gone.map (·.1) ++ (if (free[j].1 && !left[j].1) then (gq.map (·.1)).headD .e :: goneGo (free.map (·.1)) (left.map (·.1)) (7 - (j + 1)) (j + 1) (gq.map (·.1)).tail else .e :: goneGo (free.map (·.1)) (left.map (·.1)) (7 - (j + 1)) (j + 1) (gq.map (·.1))) = goneGo (free.map (·.1)) (left.map (·.1)) 7 0 (gs.map (·.1)) := by
      rw [← hG, ← htk]; rfl
    have hp' : pops (free.map (·.1)) (left.map (·.1)) (7 - (j + 1)) (j + 1) + (if (free[j].1 && !left[j].1) then 1 else 0) ≤ gq.length := by
      rw [← htk]; exact hp
    generalize hx : free[j] = x at pf hsub hG' hp'
    generalize hy : left[j] = y at pl hsub hG' hp'
    obtain ⟨β, t⟩ := x
    obtain ⟨γ, u⟩ := y
    have no : β = γ → SpcT (fol c1 c2 w) 110 lo (prLC X.it F.l) gl (prLE F X (prLF F X V0 s mv) j (free.map bvv) (left.map bvv) (lst (gq.map wvv) k) (gone.map wvv)) (PlPost F X s gl (free.map bvv) (left.map bvv) (goneGo (free.map (·.1)) (left.map (·.1)) 7 0 (gs.map (·.1)))) := by
      intro hbg
      subst hbg
      have hbb : (β && !β) = false := by cases β <;> rfl
      dsimp only at hG' hp'
      rw [hbb] at hG' hp'
      refine spcT_of spF 1000 prLn 6 rfl (by kernel_rfl) (by decide) fun A R h d tk os hA hdep Pr hlo K n' P B => ?_
      obtain ⟨i28, ea, eb, ec⟩ := at28' β hs j7
      have h1 := tab_get (pr_runsLn c1 c2 w F X { V0 with n := n', tk := tk, P := P, B := B, mv := mv, lv := fun j => (left.map bvv).getD j .none } (fun j => (free.map bvv).getD j .none) (fun j => (gone.map wvv).getD j .none) gl t u (lst (gq.map wvv) k)) _ i28
      (try dsimp only at h1)
      rw [ea, eb, ec] at h1
      unfold prL0 at h1
      dsimp only at h1
      rw [ev] at h1
      have pf' : put7 (fun j => (free.map bvv).getD j .none) j (.int (.ofNat β.toNat) t) = free.map bvv := by rw [show (Value.int (.ofNat β.toNat) t) = bvv (β, t) from by cases β <;> rfl]; exact pf
      have pl' : put7 (fun j => (left.map bvv).getD j .none) j (.int (.ofNat β.toNat) u) = left.map bvv := by rw [show (Value.int (.ofNat β.toNat) u) = bvv (β, u) from by cases β <;> rfl]; exact pl
      rw [pf', pl'] at h1
      unfold vNt at h1
      rw [Prod.mk.injEq] at h1
      refine sat_nextT h1.1 (fun _ => Nat.le_of_eq h1.2.symm) (IH _ (tk + 3) _ (Nat.le_add_right_of_le hlo) ⟨gone ++ [(.e, tk + 2)], gq, k, { V0 with n := n', tk := tk, P := P, B := B, mv := mv, lv := fun j => (left.map bvv).getD j .none }, .int (.ofNat j) tk, by simp [hgl], ?_, hq7, by simpa using hp', hq1, fun z hz => ?_, fun z hz => (bgq z hz).mono (Nat.le_add_right_of_le hlo), ?_⟩) (by decide) hA hdep Pr K
      · rw [← hG', List.map_append, List.append_assoc]; rfl
      · rcases List.mem_append.mp hz with hz | hz
        · exact (bgo z hz).mono (Nat.le_add_right_of_le hlo)
        · rw [List.mem_singleton.mp hz]; exact InT.add (by decide) (by decide)
      · rw [List.map_append]; rfl
    cases β with
    | false =>
      cases γ with
      | false => exact no rfl
      | true => exact Bool.noConfusion (hsub rfl : false = true)
    | true =>
      cases γ with
      | true => exact no rfl
      | false =>
        have hp1 : pops (free.map (·.1)) (left.map (·.1)) (7 - (j + 1)) (j + 1) + 1 ≤ gq.length := hp'
        have s2 : s = 2 := by
          rcases hs with h | h
          · rw [hq1 h] at hp1; simp at hp1
          · exact h
        subst s2
        cases gq with
        | nil => simp at hp1
        | cons g r =>
          rw [List.length_cons] at hp1 hq7
          refine spcT_of spF 1000 prLp 6 rfl (by kernel_rfl) (by decide) fun A R h d tk os hA hdep Pr hlo K n' P B => ?_
          have r7 : r.length < 7 := hq7
          obtain ⟨i49, ea, eb⟩ := at49 ⟨j, j7⟩ ⟨r.length, r7⟩
          have h1 := tab_get (pr_runsLp c1 c2 w F X { V0 with n := n', tk := tk, P := P, B := B, mv := mv, lv := fun j => (left.map bvv).getD j .none, cv := fun j => (r.map wvv).getD j .none } (fun j => (free.map bvv).getD j .none) (fun j => (gone.map wvv).getD j .none) gl t u k (wstr g.1) g.2) _ i49
          replace h1 := h1
          (try dsimp only at h1)
          rw [ea, eb] at h1
          unfold prL0 at h1
          dsimp only at h1
          rw [ev, vals_map r wvv rfl, show put7 (fun j => (free.map bvv).getD j .none) j (.int 1 t) = free.map bvv from pf, show put7 (fun j => (left.map bvv).getD j .none) j (.int 0 u) = left.map bvv from pl, ← wvv_str] at h1
          refine sat_nextT h1 id (IH _ tk _ hlo ⟨gone ++ [g], r, k + 1, { V0 with n := n', tk := tk, P := P, B := B, mv := mv, lv := fun j => (left.map bvv).getD j .none, cv := fun j => (r.map wvv).getD j .none }, .int (.ofNat j) tk, by simp [hgl], ?_, Nat.le_of_lt r7, Nat.le_of_succ_le_succ hp1, (fun h => absurd h (by decide)), fun z hz => ?_, fun z hz => (bgq z (.tail _ hz)).mono hlo, ?_⟩) (by decide) hA hdep Pr K
          · rw [← hG', List.map_append, List.append_assoc]; rfl
          · rcases List.mem_append.mp hz with hz | hz
            · exact (bgo z hz).mono hlo
            · rw [List.mem_singleton.mp hz]; exact (bgq g (.head _)).mono hlo
          · rw [List.map_append]; rfl
  · rintro w lo E ⟨gone, gq, k, V0, mv, hgl, hG, hq7, hp, hq1, bgo, bgq, rfl⟩
    refine spcT_fol fun c1 c2 => ?_
    refine spcT_of spF 1000 [2, 2, 2, 2, 2, 8] 6 rfl (by kernel_rfl) (by decide) fun A R' h d tk os hA hdep Pr hlo K n' P B => ?_
    have R := pr_runLZ c1 c2 w F X { V0 with n := n', tk := tk, P := P, B := B } gl (lst (gq.map wvv) k) (prLF F X V0 s mv) (free.map bvv) (left.map bvv) (gone.map wvv)
    refine sat_retV R (by decide) fun h' tk' le F' => K _ _ _ _ _ le F' ⟨gone, gq, k, V0, mv, rfl, rfl, ?_, fun x hx => (bgo x hx).mono (Nat.le_trans hlo le), rfl⟩
    rw [← hG]
    show _ = _ ++ []
    rw [List.append_nil]
end Mine
end
section
set_option maxRecDepth 100000
set_option maxHeartbeats 400000
namespace Mine
open PySem PySem.Spec PySem.Calls PyProof.Rows PySem.W PySem.W.X
/-- list(..): the new, empty list -/
theorem list_new_spec (w : World) (lo : Nat) (gl : List GenState) (a : Value) :
    SpcT w 105 lo (.call (.builtin "list.__new__") ⟨[.type "list", a], []⟩) gl [] (fun _ r E2 gl2 => ∃ x, r = .ok (.ret (.ref x)) ∧ E2 = [(x, lst [] 0)] ∧ gl2 = gl) := by
  intro A R h d tk os hA hdep P hlo K
  refine codeAny_mono (code_list_new (E := fun _ _ => False) a (Q₁ := fun v s' => v = .ref h.objs.size ∧ s' = ⟨h.push (lst [] 0), ⟨gl⟩, d, tk, os⟩) ⟨rfl, rfl⟩) ?_
  intro r s hr
  cases r with
  | error e => exact hr.elim
  | ok f =>
    cases f with
    | ret v =>
      obtain ⟨rfl, rfl⟩ := hr
      refine K _ _ [(h.objs.size, lst [] 0)] gl tk (Nat.le_refl _) ⟨by rw [Heap.size_push]; exact Nat.le_succ _, fun b o e _ => Heap.get?_push_of_some _ e, fun p hp => ?_, by simp, fun p hp => .inr ?_⟩ ⟨_, rfl, rfl, rfl⟩
      · rw [List.mem_singleton.mp hp]; exact Heap.get?_push_size _ rfl
      · rw [List.mem_singleton.mp hp]; exact Nat.le_refl _
    | _ => exact hr.elim
/-- list(l): the new list is filled -/
theorem list_init_spec (w : World) (lo : Nat) (gl : List GenState) (S it : Nat) (items : List Value) (n : Nat) (hsz : items.length ≤ 1000) :
    SpcT w 105 lo (.call (.builtin "list.__init__") ⟨[.ref S, .ref it], []⟩) gl [(S, lst [] 0), (it, lst items n)] (fun _ r E2 gl2 => ∃ c, r = .ok (.ret .none) ∧ E2 = [(S, lst items c), (it, lst items n)] ∧ gl2 = gl) := by
  intro A R h d tk os hA hdep P hlo K
  have hS : h.get? S = some (lst [] 0) := P.at_ _ (.head _)
  have hI : h.get? it = some (lst items n) := P.at_ _ (.tail _ (.head _))
  have hne : it ≠ S := fun e => by have := P.nd; simp [e] at this
  refine codeAny_call_builtin PySem.F.slot_list_init.plain PySem.F.entry_list_init (PySem.F.slot_list_init.check _ _ _ _ _ _ _ _ ⟨_, hS, rfl⟩ (PySem.F.args_list_init_2 _ _) ?_)
  refine wpAny_list_init_seq S it (.inl rfl) hne hS hI rfl rfl ?_ (hsz := ?_)
  · have hS2 := Heap.get?_update_self (Obj.mapSeq (fun _ => (#[] : Array Value))) hS rfl
    have hS3 := Heap.get?_update_self (Obj.mapSeq (· ++ items.toArray)) hS2 rfl
    obtain ⟨c, hc⟩ : ∃ c, Obj.mapSeq (fun x => x ++ items.toArray) (Obj.mapSeq (fun _ => (#[] : Array Value)) (lst [] 0)) = lst items c := ⟨_, by simp [Obj.mapSeq, lst]; rfl⟩
    rw [hc] at hS3
    refine K _ _ [(S, lst items c), (it, lst items n)] gl tk (Nat.le_refl _) ⟨?_, fun b o e hb => ?_, fun p hp => ?_, P.nd, fun p hp => .inl (List.mem_map_of_mem (f := (·.1)) hp)⟩ ⟨c, rfl, rfl, rfl⟩
    · rw [(Heap.SameBut.update ..).1, (Heap.SameBut.update ..).1]; exact Nat.le_refl _
    · have hb' : S ≠ b := fun e => hb (by rw [e]; exact .head _)
      exact (Heap.get?_update_other _ _ hb').trans ((Heap.get?_update_other _ _ hb').trans e)
    · rcases List.mem_cons.mp hp with rfl | hp
      · exact hS3
      · rw [List.mem_singleton.mp hp]
        exact (Heap.get?_update_other _ _ (Ne.symm hne)).trans ((Heap.get?_update_other _ _ (Ne.symm hne)).trans hI)
  · show items.toArray.size ≤ 2 ^ 24
    rw [List.size_toArray]; omega
noncomputable def isId (id s : String) : Bool := match S.strDecS id s with | .isTrue _ => true | .isFalse _ => false
noncomputable def spP : Code → Bool := fun c => match c with
  | .forLoop .. => true
  | .compLoop .. => true
  | .call f _ => match f with
    | .builtin id => isId id "list.__new__" || isId id "list.__init__"
    | _ => false
  | _ => false
noncomputable abbrev parC (cm fr : Nat) : Code := .call (.ref 160) ⟨[.ref (cm + 178), .ref (fr + 178)], []⟩
noncomputable abbrev paOc (b2 : Bool) : List Nat := [0, 0, 3, 3, 3, 3, 1, 0, 0, 3, 4, 4, 3, 3, 3, 3, 5, 5, 5, 6, 3, 1, 1, 1, 7] ++ cond b2 [] [7, 7, 7, 7] ++ [3, 3, 9, 9, 9, 3, 0, 0, 3, 8, 8, 8, 3, 8, 8, 8, 8, 10, 10, 10, 10, 10, 8, 3, 0, 0, 3, 8, 8, 8, 3, 8, 8, 8, 8, 12, 12, 12, 12, 12, 8, 11, 13, 11, 11, 13, 11, 13, 3, 3, 3, 3, 0, 0, 16, 16, 16, 16, 16, 16, 16, 16, 16, 16, 17, 3]
noncomputable def pa0 (b2 : Bool) (w : World) (cm fr ec ef : Nat) (cl : List Value) (fv : Nat → Value) (gl : List GenState) (U : Un) : Out :=
  go w spP 3000 (parC cm fr) (paOc b2) U.P U.B [(cm + 178, lst cl ec), (fr + 178, lst (vals fv 0 7) ef)] 2 U.n U.tk gl
noncomputable def pa1 (o : Out) (y : Nat) (gl : List GenState) (U : Un) : Out := o.go (so o [] (.ok (.ret (.ref (y + 178)))) [(y + 178, lst [] 0)] U.n U.tk gl) U.P U.B
noncomputable def paN (o : Out) (y fr : Nat) (vs : List Value) (c ef : Nat) (gl : List GenState) (U : Un) : Out := o.go (so o [3, 1] (.ok (.ret .none)) [(y + 178, lst vs c), (fr + 178, lst vs ef)] U.n U.tk gl) U.P U.B
noncomputable abbrev paI : List Nat := [2, 5, 4, 0, 3]
noncomputable def pa2 (o : Out) (F : Rf) (it tp : Nat) (fo : Obj) (τ : Nat → Nat) (cl : List Value) (ec : Nat) (lf : List Value) (el : Nat) (gl : List GenState) (U : Un) : Out :=
  o.go (so o paI (.ok .next) (prOE F it tp fo (tupZ 7) τ cl ec lf el) U.n U.tk gl) U.P U.B
noncomputable abbrev paG : List Nat := [6, 0, 7, 8]
noncomputable def pa3 (o : Out) (C : Cf) (ws : List Value) (ec : Nat) (out : List Value) (m : Nat) (od : Obj) (gl : List GenState) (U : Un) : Out :=
  o.go (so o paG (.ok .next) (guE C (itZ 7) ws ec out m od) U.n U.tk gl) U.P U.B
noncomputable abbrev paL : List Nat := [2, 16, 1, 3, 13, 14]
noncomputable def pa4 (o : Out) (F : Rf) (X : Rl) (fo : Obj) (fl lf : List Value) (og : Obj) (gv : List Value) (gl : List GenState) (U : Un) : Out :=
  o.go (so o paL (.ok .next) (prLE F X fo 7 fl lf og gv) U.n U.tk gl) U.P U.B
noncomputable abbrev paF (w : World) (cm fr y : Nat) (U : Un) (t1 t2 : Nat) : Rf := ⟨U.n, cm, fr, y, kh w sCome, kh w sFree, kh w sLeft, kh w sOver, U.tk, U.tk + 1, t1, t2⟩
end Mine
end
section
set_option genInjectivity false
set_option maxRecDepth 100000
set_option maxHeartbeats 400000
namespace Mine
open PySem PySem.Spec PySem.Calls PyProof.Rows PySem.W PySem.W.X
/-- what the pieces of _law_parked hang on -/
structure Pq where
  cm : Nat
  fr : Nat
  ec : Nat
  ef : Nat
  cl : List Value
  fv : Nat → Value
  gl : List GenState
  y : Nat
  c : Nat
  lf : List Value
  N : Rn
  to : Nat
  mv : Value
  pv : Value
  U : Un
  U1 : Un
  U2 : Un
  U3 : Un
  U4 : Un
  gv : Nat → Value
  hh : Int
  tt : Nat
  xv : Value
noncomputable abbrev qF (w : World) (Q : Pq) : Rf := paF w Q.cm Q.fr Q.y Q.U Q.U2.tk (Q.U2.tk + 2)
noncomputable abbrev qC (Q : Pq) : Cf := ⟨Q.U3.n, Q.cm, Q.U3.n + 1, Q.U3.n + 2, Q.U.n⟩
noncomputable abbrev qX (w : World) (Q : Pq) : Rl := ⟨Q.U4.n + 7, Q.ef, Q.c, Q.U4.n + 4, Q.U4.n + 5, kh w sGuests, Q.U4.tk, kh w sGone, Q.U4.tk + 8⟩
noncomputable abbrev qO0 (b2 : Bool) (w : World) (Q : Pq) : Out := pa0 b2 w Q.cm Q.fr Q.ec Q.ef Q.cl Q.fv Q.gl Q.U
noncomputable abbrev qO1 (b2 : Bool) (w : World) (Q : Pq) : Out := pa1 (qO0 b2 w Q) Q.y Q.gl Q.U1
noncomputable abbrev qO2 (b2 : Bool) (w : World) (Q : Pq) : Out := paN (qO1 b2 w Q) Q.y Q.fr (vals Q.fv 0 7) Q.c Q.ef Q.gl Q.U2
noncomputable abbrev qfo (w : World) (Q : Pq) (s : Nat) (ov : Int) : Obj := cond (Nat.beq s 1) (prF5 (qF w Q) ov Q.to Q.N Q.mv) (prF6 (qF w Q) ov Q.to Q.N Q.mv Q.pv)
noncomputable abbrev qO3 (b2 : Bool) (w : World) (Q : Pq) (s : Nat) (ov : Int) : Out := pa2 (qO2 b2 w Q) (qF w Q) (Q.U2.n + 1) Q.U2.n (qfo w Q s ov) (fun k => Q.U2.tk + 3 + k) Q.cl Q.ec Q.lf Q.c Q.gl Q.U3
noncomputable abbrev qO4 (b2 : Bool) (w : World) (Q : Pq) (s : Nat) (ov : Int) (m : Nat) : Out := pa3 (qO3 b2 w Q s ov) (qC Q) Q.cl Q.ec (vals Q.gv 0 m) m (dct [(Q.hh, sWord, Q.tt, Q.xv)] 1) Q.gl Q.U4
noncomputable def rotL (g : Nat → Value) (m ov : Nat) : List Value := vals g (m - ov) ov ++ vals g 0 (m - ov)
noncomputable abbrev qlo (w : World) (Q : Pq) (s : Nat) (ov : Int) : Obj := cond (Nat.beq s 1) (prL5 (qF w Q) (qX w Q) ov Q.to Q.N Q.mv) (prL6 (qF w Q) (qX w Q) ov Q.to Q.N Q.mv Q.pv)
/-- frame form, guests, those over the day's end -/
noncomputable def triL : List (Nat × Nat × Nat) := [(1, 0, 0), (2, 1, 0), (2, 1, 1), (2, 2, 0), (2, 2, 1), (2, 2, 2), (2, 3, 0), (2, 3, 1), (2, 3, 2), (2, 3, 3), (2, 4, 0), (2, 4, 1), (2, 4, 2), (2, 4, 3), (2, 4, 4), (2, 5, 0), (2, 5, 1), (2, 5, 2), (2, 5, 3), (2, 5, 4), (2, 5, 5), (2, 6, 0), (2, 6, 1), (2, 6, 2), (2, 6, 3), (2, 6, 4), (2, 6, 5), (2, 6, 6), (2, 7, 0), (2, 7, 1), (2, 7, 2), (2, 7, 3), (2, 7, 4), (2, 7, 5), (2, 7, 6), (2, 7, 7), (2, 0, 0)]
noncomputable def tri (i : Nat) : Nat × Nat × Nat := triL.getD i (0, 0, 0)
section
variable (b1 b2 : Bool) (w : World) (Q : Pq)
theorem pa_runs0 :
    vS [] (qO0 b2 (fol b1 b2 w) Q) = vSR (.call (.builtin "list.__new__") ⟨[.type "list", .ref (Q.fr + 178)], []⟩) 6 [] Q.gl (qO0 b2 (fol b1 b2 w) Q) ∧
    vS [3, 1] (qO1 b2 (fol b1 b2 w) Q) = vSR (.call (.builtin "list.__init__") ⟨[.ref (Q.y + 178), .ref (Q.fr + 178)], []⟩) 6 [(Q.y + 178, lst [] 0), (Q.fr + 178, lst (vals Q.fv 0 7) Q.ef)] Q.gl (qO1 b2 (fol b1 b2 w) Q) ∧
    vS paI (qO2 b2 (fol b1 b2 w) Q) = vSR (prOC (Q.U2.n + 1) Q.U.n) 1 (prOE (qF (fol b1 b2 w) Q) (Q.U2.n + 1) Q.U2.n (prF4 (qF (fol b1 b2 w) Q) 0 (Q.U2.tk + 1)) (tupI Q.U2.n 0) (fun k => Q.U2.tk + 3 + k) Q.cl Q.ec (vals Q.fv 0 7) Q.c) Q.gl (qO2 b2 (fol b1 b2 w) Q) ∧
    (∀ ov, vS paG (qO3 b2 (fol b1 b2 w) Q 1 ov) = vSR (guC (qC Q)) 1 (guE (qC Q) (itO (.ref (Q.cm + 178)) 0) Q.cl Q.ec [] 0 (dct [] 0)) Q.gl (qO3 b2 (fol b1 b2 w) Q 1 ov)) ∧
    (∀ ov, vS paG (qO3 b2 (fol b1 b2 w) Q 2 ov) = vSR (guC (qC Q)) 1 (guE (qC Q) (itO (.ref (Q.cm + 178)) 0) Q.cl Q.ec [] 0 (dct [] 0)) Q.gl (qO3 b2 (fol b1 b2 w) Q 2 ov)) := by
  cases b1 <;> cases b2 <;> exact ⟨by kernel_rfl, by kernel_rfl, by kernel_rfl, by intro ov; kernel_rfl, by intro ov; kernel_rfl⟩
end
end Mine
end
section
set_option maxRecDepth 100000
set_option maxHeartbeats 400000
namespace Mine
open PySem PySem.Spec PySem.Calls PyProof.Rows PySem.W PySem.W.X PySem.SeqAt
theorem Fra.refl {kt : KT} {h : Heap} {E : List (Nat × Obj)} (P : Pre kt h E) : Fra h h E E :=
  ⟨Nat.le_refl _, fun _ _ e _ => e, P.at_, P.nd, fun p hp => .inl (List.mem_map_of_mem (f := (·.1)) hp)⟩
/-- a claim of a built-in, by the library's rule for it -/
theorem spc_meets {w : World} {lo : Nat} {gl : List GenState} {E : List (Nat × Obj)} {Post : Nat → Result → List (Nat × Obj) → List GenState → Prop} {T id : String} {name : Str} {B : Builtin} {self : Value} {rest : List Value} {S : PySem.Spec}
    (slot : Slot T name id) (entry : entryFor table id = some B) (ok : argsOk id ⟨self :: rest, []⟩) (g : Meets (B ⟨self :: rest, []⟩) S)
    (H : ∀ A R h d tk os, A.handled = none → Room A 110 → Pre (ktw w) h E → lo ≤ tk → (∀ r h' E' gl' tk', tk ≤ tk' → Fra h h' E E' → Post tk' r E' gl' → R r ⟨h', ⟨gl'⟩, d, tk', os⟩) → (⟨h, ⟨gl⟩, d, tk, os⟩ : Shared).TypeIs self T ∧ S A R ⟨h, ⟨gl⟩, d, tk, os⟩) :
    SpcT w 110 lo (.call (.builtin id) ⟨self :: rest, []⟩) gl E Post := by
  intro A R h d tk os hA hdep P hlo K
  have z := H A R h d tk os hA hdep P hlo K
  exact codeAny_call_builtin slot.plain entry (slot.check _ _ _ _ _ _ _ _ z.1 ok (g pw w A R _ z.2))
theorem all_true (n : Nat) : (List.range n).all (fun _ => true) = true := by rw [List.all_eq_true]; intro _ _; rfl
section
variable (w : World) (lo : Nat) (gl : List GenState) (a b : Nat) (xs ys : List Value) (n m : Nat) (rest : List (Nat × Obj)) (hl : xs.length = ys.length)
  (H : ∀ (A : Around) (s : Shared), A.units + 1 < cLine → (∀ p ∈ rest, s.heap.get? p.1 = some p.2) → ∀ j (h1 : j < xs.length) (h2 : j < ys.length), EqAt A s xs[j] ys[j] true)
include hl H
/-- l != m, of lists of equal items -/
theorem list_ne_spec : SpcT w 110 lo (.call (.builtin "list.__ne__") ⟨[.ref a, .ref b], []⟩) gl ((a, lst xs n) :: (b, lst ys m) :: rest)
    (fun _ r E2 gl2 => r = .ok (.ret (.bool false)) ∧ E2 = (a, lst xs n) :: (b, lst ys m) :: rest ∧ gl2 = gl) :=
  spc_meets PySem.F.slot_list_ne PySem.F.entry_list_ne (PySem.F.args_list_ne_2 _ _) (list_neAt a b xs.toArray ys.toArray n m none none #[] #[] (by simpa using hl) (fun _ => true)) fun A R h d tk os hA hdep P hlo K =>
    ⟨⟨_, P.at_ _ (.head _), rfl⟩, P.at_ _ (.head _), P.at_ _ (.tail _ (.head _)), fun j h1 h2 => by
      have := H A.in1 ⟨h, ⟨gl⟩, d, tk, os⟩ (by have := hdep.2; show A.units + 1 + 1 < cLine; omega) (fun p hp => P.at_ _ (.tail _ (.tail _ hp))) j (by simpa using h1) (by simpa using h2)
      simpa using this, by
      rw [all_true]
      exact K _ h _ gl tk (Nat.le_refl _) (Fra.refl P) ⟨rfl, rfl, rfl⟩⟩
/-- l == m, of lists of equal items -/
theorem list_eq_spec : SpcT w 110 lo (.call (.builtin "list.__eq__") ⟨[.ref a, .ref b], []⟩) gl ((a, lst xs n) :: (b, lst ys m) :: rest)
    (fun _ r E2 gl2 => r = .ok (.ret (.bool true)) ∧ E2 = (a, lst xs n) :: (b, lst ys m) :: rest ∧ gl2 = gl) :=
  spc_meets PySem.F.slot_list_eq PySem.F.entry_list_eq (PySem.F.args_list_eq_2 _ _) (list_eqAt a b xs.toArray ys.toArray n m none none #[] #[] (by simpa using hl) (fun _ => true)) fun A R h d tk os hA hdep P hlo K =>
    ⟨⟨_, P.at_ _ (.head _), rfl⟩, P.at_ _ (.head _), P.at_ _ (.tail _ (.head _)), fun j h1 h2 => by
      have := H A.in1 ⟨h, ⟨gl⟩, d, tk, os⟩ (by have := hdep.2; show A.units + 1 + 1 < cLine; omega) (fun p hp => P.at_ _ (.tail _ (.tail _ hp))) j (by simpa using h1) (by simpa using h2)
      simpa using this, by
      rw [all_true]
      exact K _ h _ gl tk (Nat.le_refl _) (Fra.refl P) ⟨rfl, rfl, rfl⟩⟩
end
theorem eq_words (u v : List (Wd × Nat)) (h : u.map (·.1) = v.map (·.1)) : (u.map wvv).length = (v.map wvv).length ∧ ∀ (A : Around) (s : Shared) j (h1 : j < (u.map wvv).length) (h2 : j < (v.map wvv).length), EqAt A s (u.map wvv)[j] (v.map wvv)[j] true := by
  have hl := congrArg List.length h
  rw [List.length_map, List.length_map] at hl
  refine ⟨by rw [List.length_map, List.length_map, hl], fun A s j h1 h2 => ?_⟩
  rw [List.length_map] at h1 h2
  rw [List.getElem_map, List.getElem_map, wvv_str, wvv_str]
  have e : u[j].1 = v[j].1 := by
    have e1 : (u.map (·.1))[j]? = some u[j].1 := by rw [List.getElem?_map, List.getElem?_eq_getElem h1]; rfl
    have e2 : (v.map (·.1))[j]? = some v[j].1 := by rw [List.getElem?_map, List.getElem?_eq_getElem h2]; rfl
    rw [h, e2] at e1
    exact (Option.some.inj e1).symm
  have z := EqAt.str_str (A := A) (s := s) (wstr u[j].1) u[j].2 (wstr v[j].1) v[j].2
  rw [e] at z ⊢
  have q : (wstr v[j].1 == wstr v[j].1) = true := by rw [beq_iff_eq]
  rw [q] at z
  exact z
theorem words_ne (w : World) (lo : Nat) (gl : List GenState) (a b n m : Nat) (u v : List (Wd × Nat)) (h : u.map (·.1) = v.map (·.1)) :
    SpcT w 110 lo (.call (.builtin "list.__ne__") ⟨[.ref (a + 178), .ref (b + 178)], []⟩) gl [(a + 178, lst (u.map wvv) n), (b + 178, lst (v.map wvv) m)]
      (fun _ r E2 gl2 => r = .ok (.ret (.bool false)) ∧ E2 = [(a + 178, lst (u.map wvv) n), (b + 178, lst (v.map wvv) m)] ∧ gl2 = gl) :=
  list_ne_spec w lo gl _ _ _ _ n m [] (eq_words u v h).1 fun A s _ _ => (eq_words u v h).2 A s
theorem words_eq (w : World) (lo : Nat) (gl : List GenState) (a b n m : Nat) (u v : List (Wd × Nat)) (h : u.map (·.1) = v.map (·.1)) :
    SpcT w 110 lo (.call (.builtin "list.__eq__") ⟨[.ref (a + 178), .ref (b + 178)], []⟩) gl [(a + 178, lst (u.map wvv) n), (b + 178, lst (v.map wvv) m)]
      (fun _ r E2 gl2 => r = .ok (.ret (.bool true)) ∧ E2 = [(a + 178, lst (u.map wvv) n), (b + 178, lst (v.map wvv) m)] ∧ gl2 = gl) :=
  list_eq_spec w lo gl _ _ _ _ n m [] (eq_words u v h).1 fun A s _ _ => (eq_words u v h).2 A s
end Mine
end
section
set_option maxRecDepth 100000
set_option maxHeartbeats 400000
namespace Mine
open PySem PySem.Spec PySem.Calls PyProof.Rows PySem.W PySem.W.X
noncomputable def slO (vl vu vs : Value) : Obj := { cls := .type "slice", data := .fields #[vl, vu, vs] }
/-- l[lo:hi], made -/
theorem slice_spec (w : World) (lo0 : Nat) (gl : List GenState) (l sl : Nat) (items : List Value) (n : Nat) (vl vu : Value) (lo hi : Option Int) (pl : IsPart vl lo) (pu : IsPart vu hi) (hsz : items.length ≤ 1000) :
    SpcT w 110 lo0 (.call (.builtin "list.__getitem__") ⟨[.ref l, .ref sl], []⟩) gl [(l, lst items n), (sl, slO vl vu .none)]
      (fun _ r E2 gl2 => ∃ x, r = .ok (.ret (.ref x)) ∧ E2 = [(l, lst items n), (sl, slO vl vu .none), (x, lst (slicePick items.toArray lo hi none).toList 0)] ∧ gl2 = gl) := by
  intro A R h d tk os hA hdep P hlo K
  have hL : h.get? l = some (lst items n) := P.at_ _ (.head _)
  have hS : h.get? sl = some (slO vl vu .none) := P.at_ _ (.tail _ (.head _))
  have hz : items.toArray.size ≤ sizeLine := by
    show items.toArray.size ≤ 2 ^ 24
    rw [List.size_toArray]; omega
  have hTs : (⟨h, ⟨gl⟩, d, tk, os⟩ : Shared).TypeIs (.ref sl) "slice" := ⟨_, hS, rfl⟩
  refine codeAny_call_builtin slot_list_getitem.plain entry_list_getitem (slot_list_getitem.check _ _ _ _ _ _ _ _ ⟨_, hL, rfl⟩ (args_list_getitem _ _) ?_)
  show wpAny _ _ (Builtin.List.listSubscript? (.ref sl) >>= _) _ _ _
  refine wpAny_bind ?_
  unfold Builtin.List.listSubscript?
  refine wpAny_bind (wpAny_specialOf hTs slice_no_index ?_)
  simp only [Option.isNone_none, if_true]
  refine wpAny_pure ?_
  show wpAny _ _ (typeOf (.ref sl) >>= _) _ _ _
  refine wpAny_bind (wpAny_typeOf hTs ?_)
  rw [if_neg (by decide), listSliceParts_eq]
  refine wpAny_bind (wpAny_bind (wpAny_field hS rfl (x := .none) rfl (wpAny_bind (wpAny_listPart .none ?_))))
  rw [if_neg (show ¬ ((rawPart none == rawInt 0) = true) from Bool.false_ne_true)]
  refine wpAny_bind (wpAny_field hS rfl (x := vl) rfl (wpAny_bind (wpAny_listPart pl ?_)))
  refine wpAny_bind (wpAny_field hS rfl (x := vu) rfl (wpAny_bind (wpAny_listPart pu (wpAny_pure ?_))))
  refine wpAny_bind (m := Builtin.List.listItems (.ref l)) ?_
  unfold Builtin.List.listItems
  refine wpAny_bind (wpAny_seqItems hL rfl (wpAny_pure ?_))
  refine wpAny_bind (wpAny_of_eq (sliceIndices_raw lo hi none items.toArray.size (by simp)) ?_)
  refine wpAny_bind (wpAny_newObj_type (wpAny_pure ?_) (Nat.le_trans (slicePick_size_le items.toArray lo hi none) hz))
  refine K _ _ [(l, lst items n), (sl, slO vl vu .none), (h.objs.size, lst (slicePick items.toArray lo hi none).toList 0)] gl tk (Nat.le_refl _) ⟨?_, fun b o e _ => Heap.get?_push_of_some _ e, fun p hp => ?_, ?_, fun p hp => ?_⟩ ⟨_, rfl, rfl, rfl⟩
  · rw [Heap.size_push]; exact Nat.le_succ _
  · rcases List.mem_cons.mp hp with rfl | hp
    · exact Heap.get?_push_of_some _ hL
    · rcases List.mem_cons.mp hp with rfl | hp
      · exact Heap.get?_push_of_some _ hS
      · rw [List.mem_singleton.mp hp]; exact Heap.get?_push_size _ rfl
  · have h1 := Heap.lt_size hL
    have h2 := Heap.lt_size hS
    have h3 : l ≠ sl := fun e => by have := P.nd; simp [e] at this
    have h4 : l ≠ h.objs.size := Nat.ne_of_lt h1
    have h5 : sl ≠ h.objs.size := Nat.ne_of_lt h2
    simp [h3, h4, h5]
  · rcases List.mem_cons.mp hp with rfl | hp
    · exact .inl (.head _)
    · rcases List.mem_cons.mp hp with rfl | hp
      · exact .inl (.tail _ (.head _))
      · rw [List.mem_singleton.mp hp]; exact .inr (Nat.le_refl _)
end Mine
end
section
set_option maxRecDepth 100000
set_option maxHeartbeats 400000
namespace Mine
open PySem PySem.Spec PySem.Calls PyProof.Rows PySem.W PySem.W.X
/-! _law_marks: what is read of a ruler, the marks made of it (with the tokens' offsets), the tokens drawn -/
noncomputable def mkTab : List (List Int × List (Nat × Nat) × Nat) := [
  ([0], [(1, 14), (1, 14), (1, 14), (1, 14), (1, 14), (1, 14), (1, 14)], 16),
  ([1, 0], [(1, 17), (1, 25), (1, 30), (1, 35), (1, 40), (1, 45), (1, 50)], 55),
  ([1, 1, 0], [(1, 17), (1, 25), (1, 33), (1, 38), (1, 43), (1, 48), (1, 53)], 58),
  ([1, 1, 1, 1], [(1, 17), (1, 25), (1, 33), (1, 41), (0, 1), (0, 1), (0, 1)], 43),
  ([1, 1, 1, 2], [(1, 17), (1, 25), (1, 33), (0, 1), (1, 41), (0, 1), (0, 1)], 43),
  ([1, 1, 1, 3], [(1, 17), (1, 25), (1, 33), (0, 1), (0, 1), (1, 41), (0, 1)], 43),
  ([1, 1, 1, 127], [(1, 17), (1, 25), (1, 33), (0, 1), (0, 1), (0, 1), (0, 1)], 36),
  ([1, 1, 2, 1], [(1, 17), (1, 25), (0, 1), (1, 33), (1, 41), (0, 1), (0, 1)], 43),
  ([1, 1, 2, 2], [(1, 17), (1, 25), (0, 1), (1, 33), (0, 1), (1, 41), (0, 1)], 43),
  ([1, 1, 2, 3], [(1, 17), (1, 25), (0, 1), (1, 33), (0, 1), (0, 1), (1, 41)], 43),
  ([1, 1, 2, 127], [(1, 17), (1, 25), (0, 1), (1, 33), (0, 1), (0, 1), (0, 1)], 36),
  ([1, 1, 3, 1], [(1, 17), (1, 25), (0, 1), (0, 1), (1, 33), (1, 41), (0, 1)], 43),
  ([1, 1, 3, 2], [(1, 17), (1, 25), (0, 1), (0, 1), (1, 33), (0, 1), (1, 41)], 43),
  ([1, 1, 3, 3], [(1, 17), (1, 25), (0, 1), (0, 1), (1, 33), (0, 1), (0, 1)], 41),
  ([1, 1, 3, 127], [(1, 17), (1, 25), (0, 1), (0, 1), (1, 33), (0, 1), (0, 1)], 36),
  ([1, 1, 127], [(1, 17), (1, 25), (0, 1), (0, 1), (0, 1), (0, 1), (0, 1)], 28),
  ([1, 2, 0], [(1, 17), (0, 1), (1, 25), (0, 1), (1, 33), (0, 1), (1, 38)], 43),
  ([1, 2, 1, 1], [(1, 17), (0, 1), (1, 25), (1, 33), (1, 41), (0, 1), (0, 1)], 43),
  ([1, 2, 1, 2], [(1, 17), (0, 1), (1, 25), (1, 33), (0, 1), (1, 41), (0, 1)], 43),
  ([1, 2, 1, 3], [(1, 17), (0, 1), (1, 25), (1, 33), (0, 1), (0, 1), (1, 41)], 43),
  ([1, 2, 1, 127], [(1, 17), (0, 1), (1, 25), (1, 33), (0, 1), (0, 1), (0, 1)], 36),
  ([1, 2, 2, 1], [(1, 17), (0, 1), (1, 25), (0, 1), (1, 33), (1, 41), (0, 1)], 43),
  ([1, 2, 2, 2], [(1, 17), (0, 1), (1, 25), (0, 1), (1, 33), (0, 1), (1, 41)], 43),
  ([1, 2, 2, 3], [(1, 17), (0, 1), (1, 25), (0, 1), (1, 33), (0, 1), (0, 1)], 41),
  ([1, 2, 2, 127], [(1, 17), (0, 1), (1, 25), (0, 1), (1, 33), (0, 1), (0, 1)], 36),
  ([1, 2, 3, 1], [(1, 17), (0, 1), (1, 25), (0, 1), (0, 1), (1, 33), (1, 41)], 43),
  ([1, 2, 3, 2], [(1, 17), (0, 1), (1, 25), (0, 1), (0, 1), (1, 33), (0, 1)], 41),
  ([1, 2, 3, 3], [(1, 17), (0, 1), (1, 25), (0, 1), (0, 1), (1, 33), (0, 1)], 41),
  ([1, 2, 3, 127], [(1, 17), (0, 1), (1, 25), (0, 1), (0, 1), (1, 33), (0, 1)], 36),
  ([1, 2, 127], [(1, 17), (0, 1), (1, 25), (0, 1), (0, 1), (0, 1), (0, 1)], 28),
  ([1, 3, 0], [(1, 17), (0, 1), (0, 1), (1, 25), (0, 1), (0, 1), (1, 33)], 38),
  ([1, 3, 1, 1], [(1, 17), (0, 1), (0, 1), (1, 25), (1, 33), (1, 41), (0, 1)], 43),
  ([1, 3, 1, 2], [(1, 17), (0, 1), (0, 1), (1, 25), (1, 33), (0, 1), (1, 41)], 43),
  ([1, 3, 1, 3], [(1, 17), (0, 1), (0, 1), (1, 25), (1, 33), (0, 1), (0, 1)], 41),
  ([1, 3, 1, 127], [(1, 17), (0, 1), (0, 1), (1, 25), (1, 33), (0, 1), (0, 1)], 36),
  ([1, 3, 2, 1], [(1, 17), (0, 1), (0, 1), (1, 25), (0, 1), (1, 33), (1, 41)], 43),
  ([1, 3, 2, 2], [(1, 17), (0, 1), (0, 1), (1, 25), (0, 1), (1, 33), (0, 1)], 41),
  ([1, 3, 2, 3], [(1, 17), (0, 1), (0, 1), (1, 25), (0, 1), (1, 33), (0, 1)], 41),
  ([1, 3, 2, 127], [(1, 17), (0, 1), (0, 1), (1, 25), (0, 1), (1, 33), (0, 1)], 36),
  ([1, 3, 3, 1], [(1, 17), (0, 1), (0, 1), (1, 25), (0, 1), (0, 1), (1, 33)], 41),
  ([1, 3, 3, 2], [(1, 17), (0, 1), (0, 1), (1, 25), (0, 1), (0, 1), (1, 33)], 41),
  ([1, 3, 3, 3], [(1, 17), (0, 1), (0, 1), (1, 25), (0, 1), (0, 1), (1, 33)], 41),
  ([1, 3, 3, 127], [(1, 17), (0, 1), (0, 1), (1, 25), (0, 1), (0, 1), (1, 33)], 36),
  ([1, 3, 127], [(1, 17), (0, 1), (0, 1), (1, 25), (0, 1), (0, 1), (0, 1)], 28),
  ([1, 127], [(1, 17), (0, 1), (0, 1), (0, 1), (0, 1), (0, 1), (0, 1)], 20),
  ([2, 0], [(0, 1), (1, 17), (0, 1), (1, 25), (0, 1), (1, 30), (0, 1)], 35),
  ([2, 1, 0], [(0, 1), (1, 17), (1, 25), (1, 33), (1, 38), (1, 43), (1, 48)], 53),
  ([2, 1, 1, 1], [(0, 1), (1, 17), (1, 25), (1, 33), (1, 41), (0, 1), (0, 1)], 43),
  ([2, 1, 1, 2], [(0, 1), (1, 17), (1, 25), (1, 33), (0, 1), (1, 41), (0, 1)], 43),
  ([2, 1, 1, 3], [(0, 1), (1, 17), (1, 25), (1, 33), (0, 1), (0, 1), (1, 41)], 43),
  ([2, 1, 1, 127], [(0, 1), (1, 17), (1, 25), (1, 33), (0, 1), (0, 1), (0, 1)], 36),
  ([2, 1, 2, 1], [(0, 1), (1, 17), (1, 25), (0, 1), (1, 33), (1, 41), (0, 1)], 43),
  ([2, 1, 2, 2], [(0, 1), (1, 17), (1, 25), (0, 1), (1, 33), (0, 1), (1, 41)], 43),
  ([2, 1, 2, 3], [(0, 1), (1, 17), (1, 25), (0, 1), (1, 33), (0, 1), (0, 1)], 41),
  ([2, 1, 2, 127], [(0, 1), (1, 17), (1, 25), (0, 1), (1, 33), (0, 1), (0, 1)], 36),
  ([2, 1, 3, 1], [(0, 1), (1, 17), (1, 25), (0, 1), (0, 1), (1, 33), (1, 41)], 43),
  ([2, 1, 3, 2], [(0, 1), (1, 17), (1, 25), (0, 1), (0, 1), (1, 33), (0, 1)], 41),
  ([2, 1, 3, 3], [(0, 1), (1, 17), (1, 25), (0, 1), (0, 1), (1, 33), (0, 1)], 41),
  ([2, 1, 3, 127], [(0, 1), (1, 17), (1, 25), (0, 1), (0, 1), (1, 33), (0, 1)], 36),
  ([2, 1, 127], [(0, 1), (1, 17), (1, 25), (0, 1), (0, 1), (0, 1), (0, 1)], 28),
  ([2, 2, 0], [(0, 1), (1, 17), (0, 1), (1, 25), (0, 1), (1, 33), (0, 1)], 38),
  ([2, 2, 1, 1], [(0, 1), (1, 17), (0, 1), (1, 25), (1, 33), (1, 41), (0, 1)], 43),
  ([2, 2, 1, 2], [(0, 1), (1, 17), (0, 1), (1, 25), (1, 33), (0, 1), (1, 41)], 43),
  ([2, 2, 1, 3], [(0, 1), (1, 17), (0, 1), (1, 25), (1, 33), (0, 1), (0, 1)], 41),
  ([2, 2, 1, 127], [(0, 1), (1, 17), (0, 1), (1, 25), (1, 33), (0, 1), (0, 1)], 36),
  ([2, 2, 2, 1], [(0, 1), (1, 17), (0, 1), (1, 25), (0, 1), (1, 33), (1, 41)], 43),
  ([2, 2, 2, 2], [(0, 1), (1, 17), (0, 1), (1, 25), (0, 1), (1, 33), (0, 1)], 41),
  ([2, 2, 2, 3], [(0, 1), (1, 17), (0, 1), (1, 25), (0, 1), (1, 33), (0, 1)], 41),
  ([2, 2, 2, 127], [(0, 1), (1, 17), (0, 1), (1, 25), (0, 1), (1, 33), (0, 1)], 36),
  ([2, 2, 3, 1], [(0, 1), (1, 17), (0, 1), (1, 25), (0, 1), (0, 1), (1, 33)], 41),
  ([2, 2, 3, 2], [(0, 1), (1, 17), (0, 1), (1, 25), (0, 1), (0, 1), (1, 33)], 41),
  ([2, 2, 3, 3], [(0, 1), (1, 17), (0, 1), (1, 25), (0, 1), (0, 1), (1, 33)], 41),
  ([2, 2, 3, 127], [(0, 1), (1, 17), (0, 1), (1, 25), (0, 1), (0, 1), (1, 33)], 36),
  ([2, 2, 127], [(0, 1), (1, 17), (0, 1), (1, 25), (0, 1), (0, 1), (0, 1)], 28),
  ([2, 3, 0], [(0, 1), (1, 17), (0, 1), (0, 1), (1, 25), (0, 1), (0, 1)], 33),
  ([2, 3, 1, 1], [(0, 1), (1, 17), (0, 1), (0, 1), (1, 25), (1, 33), (1, 41)], 43),
  ([2, 3, 1, 2], [(0, 1), (1, 17), (0, 1), (0, 1), (1, 25), (1, 33), (0, 1)], 41),
  ([2, 3, 1, 3], [(0, 1), (1, 17), (0, 1), (0, 1), (1, 25), (1, 33), (0, 1)], 41),
  ([2, 3, 1, 127], [(0, 1), (1, 17), (0, 1), (0, 1), (1, 25), (1, 33), (0, 1)], 36),
  ([2, 3, 2, 1], [(0, 1), (1, 17), (0, 1), (0, 1), (1, 25), (0, 1), (1, 33)], 41),
  ([2, 3, 2, 2], [(0, 1), (1, 17), (0, 1), (0, 1), (1, 25), (0, 1), (1, 33)], 41),
  ([2, 3, 2, 3], [(0, 1), (1, 17), (0, 1), (0, 1), (1, 25), (0, 1), (1, 33)], 41),
  ([2, 3, 2, 127], [(0, 1), (1, 17), (0, 1), (0, 1), (1, 25), (0, 1), (1, 33)], 36),
  ([2, 3, 3], [(0, 1), (1, 17), (0, 1), (0, 1), (1, 25), (0, 1), (0, 1)], 33),
  ([2, 3, 127], [(0, 1), (1, 17), (0, 1), (0, 1), (1, 25), (0, 1), (0, 1)], 28),
  ([2, 127], [(0, 1), (1, 17), (0, 1), (0, 1), (0, 1), (0, 1), (0, 1)], 20),
  ([3, 0], [(0, 1), (0, 1), (1, 17), (0, 1), (0, 1), (1, 25), (0, 1)], 30),
  ([3, 1, 0], [(0, 1), (0, 1), (1, 17), (1, 25), (1, 33), (1, 38), (1, 43)], 48),
  ([3, 1, 1, 1], [(0, 1), (0, 1), (1, 17), (1, 25), (1, 33), (1, 41), (0, 1)], 43),
  ([3, 1, 1, 2], [(0, 1), (0, 1), (1, 17), (1, 25), (1, 33), (0, 1), (1, 41)], 43),
  ([3, 1, 1, 3], [(0, 1), (0, 1), (1, 17), (1, 25), (1, 33), (0, 1), (0, 1)], 41),
  ([3, 1, 1, 127], [(0, 1), (0, 1), (1, 17), (1, 25), (1, 33), (0, 1), (0, 1)], 36),
  ([3, 1, 2, 1], [(0, 1), (0, 1), (1, 17), (1, 25), (0, 1), (1, 33), (1, 41)], 43),
  ([3, 1, 2, 2], [(0, 1), (0, 1), (1, 17), (1, 25), (0, 1), (1, 33), (0, 1)], 41),
  ([3, 1, 2, 3], [(0, 1), (0, 1), (1, 17), (1, 25), (0, 1), (1, 33), (0, 1)], 41),
  ([3, 1, 2, 127], [(0, 1), (0, 1), (1, 17), (1, 25), (0, 1), (1, 33), (0, 1)], 36),
  ([3, 1, 3, 1], [(0, 1), (0, 1), (1, 17), (1, 25), (0, 1), (0, 1), (1, 33)], 41),
  ([3, 1, 3, 2], [(0, 1), (0, 1), (1, 17), (1, 25), (0, 1), (0, 1), (1, 33)], 41),
  ([3, 1, 3, 3], [(0, 1), (0, 1), (1, 17), (1, 25), (0, 1), (0, 1), (1, 33)], 41),
  ([3, 1, 3, 127], [(0, 1), (0, 1), (1, 17), (1, 25), (0, 1), (0, 1), (1, 33)], 36),
  ([3, 1, 127], [(0, 1), (0, 1), (1, 17), (1, 25), (0, 1), (0, 1), (0, 1)], 28),
  ([3, 2, 0], [(0, 1), (0, 1), (1, 17), (0, 1), (1, 25), (0, 1), (1, 33)], 38),
  ([3, 2, 1, 1], [(0, 1), (0, 1), (1, 17), (0, 1), (1, 25), (1, 33), (1, 41)], 43),
  ([3, 2, 1, 2], [(0, 1), (0, 1), (1, 17), (0, 1), (1, 25), (1, 33), (0, 1)], 41),
  ([3, 2, 1, 3], [(0, 1), (0, 1), (1, 17), (0, 1), (1, 25), (1, 33), (0, 1)], 41),
  ([3, 2, 1, 127], [(0, 1), (0, 1), (1, 17), (0, 1), (1, 25), (1, 33), (0, 1)], 36),
  ([3, 2, 2, 1], [(0, 1), (0, 1), (1, 17), (0, 1), (1, 25), (0, 1), (1, 33)], 41),
  ([3, 2, 2, 2], [(0, 1), (0, 1), (1, 17), (0, 1), (1, 25), (0, 1), (1, 33)], 41),
  ([3, 2, 2, 3], [(0, 1), (0, 1), (1, 17), (0, 1), (1, 25), (0, 1), (1, 33)], 41),
  ([3, 2, 2, 127], [(0, 1), (0, 1), (1, 17), (0, 1), (1, 25), (0, 1), (1, 33)], 36),
  ([3, 2, 3], [(0, 1), (0, 1), (1, 17), (0, 1), (1, 25), (0, 1), (0, 1)], 33),
  ([3, 2, 127], [(0, 1), (0, 1), (1, 17), (0, 1), (1, 25), (0, 1), (0, 1)], 28),
  ([3, 3, 0], [(0, 1), (0, 1), (1, 17), (0, 1), (0, 1), (1, 25), (0, 1)], 33),
  ([3, 3, 1, 1], [(0, 1), (0, 1), (1, 17), (0, 1), (0, 1), (1, 25), (1, 33)], 41),
  ([3, 3, 1, 2], [(0, 1), (0, 1), (1, 17), (0, 1), (0, 1), (1, 25), (1, 33)], 41),
  ([3, 3, 1, 3], [(0, 1), (0, 1), (1, 17), (0, 1), (0, 1), (1, 25), (1, 33)], 41),
  ([3, 3, 1, 127], [(0, 1), (0, 1), (1, 17), (0, 1), (0, 1), (1, 25), (1, 33)], 36),
  ([3, 3, 2], [(0, 1), (0, 1), (1, 17), (0, 1), (0, 1), (1, 25), (0, 1)], 33),
  ([3, 3, 3], [(0, 1), (0, 1), (1, 17), (0, 1), (0, 1), (1, 25), (0, 1)], 33),
  ([3, 3, 127], [(0, 1), (0, 1), (1, 17), (0, 1), (0, 1), (1, 25), (0, 1)], 28),
  ([3, 127], [(0, 1), (0, 1), (1, 17), (0, 1), (0, 1), (0, 1), (0, 1)], 20)]
noncomputable abbrev mkS : List Nat := [0, 0, 2, 2, 1, 3, 3, 3, 3, 3, 2, 2, 2, 2, 0, 2, 0, 0, 0, 5, 5, 1, 6, 6, 6, 6, 6, 6, 6, 0, 2, 0]
noncomputable abbrev mkF : List Nat := [5, 5, 5, 1, 1, 1, 7, 7, 7, 7, 7, 1, 7, 7, 5, 5, 5, 0]
noncomputable abbrev mkN : List Nat := [5, 5, 5, 7, 7, 7, 7, 1, 7, 7, 5, 5, 5, 0]
noncomputable abbrev mkC : List Nat := [0, 2, 2, 2, 2, 2, 2, 2, 2, 2, 4, 4, 4, 4, 4, 4, 6, 6, 6, 0, 2, 0]
noncomputable abbrev mkR : List Nat := [5, 5, 0, 0, 0, 9, 9, 9, 9, 9, 9, 9, 9, 9, 9, 9, 9, 9, 0, 5, 5, 2, 0, 2, 0, 9, 9, 0, 9, 9, 11, 11, 9, 11, 9, 11, 11, 6, 9, 9, 9, 9, 11, 11, 11, 0, 2, 0, 9, 9, 0, 9, 9, 12, 12, 9, 12, 9, 12, 12, 0, 0, 9, 9, 12, 12, 13, 13, 13, 13, 13]
/-- the generator goes on for ever with the last size -/
noncomputable def ocEver (last : Nat) : Nat → Nat → List Nat
  | 0, _ => []
  | f + 1, m => if m + last > 7 then [0, 2, 2, 2, 2, 2, 2, 2, 2] else mkC ++ 5 :: ocEver last f (m + last)
/-- which entries a run of _law_marks asks for; m: the minute, counted from 1 -/
noncomputable def ocMk : List Int → Nat → Nat → Nat → List Nat
  | [], _, _, _ => [5, 5, 5, 7, 7, 7, 7, 1, 7, 7, 9, 0, 11, 2]
  | x :: c, i, m, last => (if i = 0 then mkF else mkN) ++
    (if x = 127 then [0, 9, 2] else if x = 0 then (if i = 0 then mkR else [5, 5, 5] ++ ocEver last 9 m)
     else [5, 5] ++ (if m + x.toNat > 7 then [0, 2, 2, 2, 2, 2, 2, 2, 2] else mkC ++ ocMk c (i + 1) (m + x.toNat) x.toNat))
noncomputable def mkC1 (i : Nat) : List Int := (mkTab.getD i ([], [], 0)).1
noncomputable def mkB (i : Nat) : List (Nat × Nat) := (mkTab.getD i ([], [], 0)).2.1
noncomputable def mkT (i : Nat) : Nat := (mkTab.getD i ([], [], 0)).2.2
noncomputable def mkOc (i : Nat) : List Nat := mkS ++ ocMk (mkC1 i) 0 0 0
end Mine
end
section
set_option maxRecDepth 100000
set_option maxHeartbeats 400000
namespace Mine
open PySem PySem.Spec PySem.Calls PyProof.Rows PySem.W PySem.W.X
/-- a ruler that begins with c -/
noncomputable def mkVals (c : List Int) (tv : Nat → Nat) (rv : Nat → Value) : List Value := [0, 1, 2, 3].map fun j => match c[j]? with | some x => .int x (tv j) | none => rv j
noncomputable abbrev marC (r : Nat) : Code := .call (.ref 140) ⟨[.ref (r + 178)], []⟩
noncomputable def mk0 (w : World) (gb r er : Nat) (tv : Nat → Nat) (rv : Nat → Value) (U : Un) (i : Nat) : Out :=
  goB w gb [] none 9000 (marC r) (mkOc i) U.P U.B [(r + 178, lst (mkVals (mkC1 i) tv rv) er)] 1 U.n U.tk
noncomputable def mkOut (i tk : Nat) : List Value := (mkB i).map fun p => .int (.ofNat p.1) (tk + p.2)
/-- no generator waits in a try -/
noncomputable def bareL (gl : List GenState) : Bool := gl.all fun g => g.bare
noncomputable def mkV (i : Nat) (o : Out) : (Vw × Nat) × Bool := (vLt [0, 3] o, bareL o.st.gl)
noncomputable def mkW (r er : Nat) (tv : Nat → Nat) (rv : Nat → Value) (U : Un) (i : Nat) (o : Out) : (Vw × Nat) × Bool :=
  ((vR (.ok (.ret (.ref (U.n + 2 + 178)))) [(r + 178, lst (mkVals (mkC1 i) tv rv) er), (U.n + 2 + 178, lst (mkOut i U.tk) 0)] [o.st.gl.getD 0 .running] o, U.tk + mkT i), true)
end Mine
end
section
set_option maxRecDepth 100000
set_option maxHeartbeats 400000
namespace Mine
open PySem PySem.Spec PySem.Calls PyProof.Rows PySem.W PySem.W.X
theorem mk_t1 (b1 b2 : Bool) (w : World) (gb r er : Nat) (tv : Nat → Nat) (rv : Nat → Value) (U : Un) :
    tab (fun i => mkV (i + 1) (mk0 (fol b1 b2 w) gb r er tv rv U (i + 1))) 60 = tab2 (fun i => mkW r er tv rv U (i + 1) (mk0 (fol b1 b2 w) gb r er tv rv U (i + 1))) 60 := by
  cases b1 <;> kernel_rfl
theorem mk_t2 (b1 b2 : Bool) (w : World) (gb r er : Nat) (tv : Nat → Nat) (rv : Nat → Value) (U : Un) :
    tab (fun i => mkV (i + 61) (mk0 (fol b1 b2 w) gb r er tv rv U (i + 61))) 60 = tab2 (fun i => mkW r er tv rv U (i + 61) (mk0 (fol b1 b2 w) gb r er tv rv U (i + 61))) 60 := by
  cases b1 <;> kernel_rfl
end Mine
end
section
set_option genInjectivity false
set_option maxRecDepth 100000
set_option maxHeartbeats 400000
namespace Mine
open PySem PySem.Spec PySem.Calls PyProof.Rows PySem.W PySem.W.X
/-- "_law_exchanged.<locals>." -/
noncomputable def exQ : List Nat := [95, 108, 97, 119, 95, 101, 120, 99, 104, 97, 110, 103, 101, 100, 46, 60, 108, 111, 99, 97, 108, 115, 62, 46]
noncomputable abbrev swX : Expr := asE (stAt 23 7)
noncomputable abbrev swC (C : Cf) : Code := cmpK swX exQ 171 C.it C.ac C.dl C.fr []
noncomputable abbrev qkX : Expr := asE (stAt 23 11)
noncomputable abbrev sWhole : List Nat := [119, 104, 111, 108, 101]
/-- a comprehension over a range, with one cell -/
structure Kf where
  it : Nat
  ac : Nat
  dl : Nat
  cl : Nat
  fr : Nat
noncomputable abbrev qkC (C : Kf) : Code := cmpK qkX exQ 171 C.it C.ac C.dl C.fr [(⟨sWhole.toArray⟩, C.cl + 178)]
noncomputable abbrev qkE (C : Kf) (j : Nat) (out : List Value) (od : Obj) (x : Int) (t : Nat) : List (Nat × Obj) :=
  [(C.it + 178, rgI (.ofNat j) (.ofNat (7 - j)) 1), (C.ac + 178, lst out j), (C.dl + 178, od), (C.cl + 178, cellO (.int x t))]
end Mine
end
section
set_option maxRecDepth 100000
set_option maxHeartbeats 400000
namespace Mine
open PySem PySem.Spec PySem.Calls PyProof.Rows PySem.W PySem.W.X
noncomputable abbrev ocSw : List Nat := [1, 1, 1, 1, 2, 1, 1, 4, 4, 4, 3, 3, 3, 3]
noncomputable def sw0 (w : World) (C : Cf) (V : Cv) (gl : List GenState) (ec j : Nat) (x : Value) : Out :=
  go w spF 1000 (swC C) ocSw V.P V.B (guE C (itO (.ref (C.sl + 178)) j) (put7 V.wf j x) ec (vals V.ov 0 j) j (odAt sWord V j)) 4 V.n V.tk gl
noncomputable def spQ : Code → Bool := fun c => match c with
  | .forLoop .. => true
  | .compLoop .. => true
  | .call f _ => match f with
    | .builtin id => isId id "int.__rshift__"
    | _ => false
  | _ => false
noncomputable abbrev qkOc : List Nat := [1, 1, 1, 1, 1, 1, 1, 1, 1, 3, 3, 0, 0, 4, 3, 0, 0, 0, 5, 5, 5, 5, 1, 5, 5, 0, 0, 0, 6, 6, 6, 6, 1, 6, 6, 2, 2, 2, 2]
noncomputable def qk0 (w : World) (C : Kf) (V : Cv) (gl : List GenState) (x : Int) (t j : Nat) : Out :=
  go w spQ 1000 (qkC C) qkOc V.P V.B (qkE C j (vals V.ov 0 j) (odAt sMinute V j) x t) 4 V.n V.tk gl
/-- a call's end, laid into the piece that asked -/
noncomputable def nx (o : Out) (idx : List Nat) (r : Result) (E2 : List (Nat × Obj)) (gl : List GenState) (U : Un) : Out := o.go (so o idx r E2 U.n U.tk gl) U.P U.B
section
variable (b1 b2 : Bool) (w : World) (C : Cf) (K : Kf) (V : Cv) (gl : List GenState) (t c ec : Nat)
theorem sw_runsE :
    tab (fun j => vNt i4 (sw0 (fol b1 b2 w) C V gl ec j (emp t))) 7 =
    tab2 (fun j => (vNR (swC C) (guE C (itO (.ref (C.sl + 178)) (j + 1)) (put7 V.wf j (emp t)) ec (vals V.ov 0 j ++ [.int 0 (V.tk + 2)]) (j + 1) (odTo (fol b1 b2 w) sWord V j (emp t))) gl (sw0 (fol b1 b2 w) C V gl ec j (emp t)), V.tk + 3)) 7 := by
  cases b1 <;> kernel_rfl
theorem sw_runsL :
    tab (fun j => vNt i4 (sw0 (fol b1 b2 w) C V gl ec j (wdv c t))) 7 =
    tab2 (fun j => (vNR (swC C) (guE C (itO (.ref (C.sl + 178)) (j + 1)) (put7 V.wf j (wdv c t)) ec (vals V.ov 0 j ++ [.int 1 (V.tk + 2)]) (j + 1) (odTo (fol b1 b2 w) sWord V j (wdv c t))) gl (sw0 (fol b1 b2 w) C V gl ec j (wdv c t)), V.tk + 3)) 7 := by
  cases b1 <;> kernel_rfl
theorem sw_runZ (od : Obj) (out : List Value) :
    vL i4 (go (fol b1 b2 w) spF 1000 (swC C) ocY V.P V.B (guE C (itO (.ref (C.sl + 178)) 7) (vals V.wf 0 7) ec out 7 od) 4 V.n V.tk gl) =
    vR (.ok .next) (guE C (itZ 7) (vals V.wf 0 7) ec out 7 od) gl (go (fol b1 b2 w) spF 1000 (swC C) ocY V.P V.B (guE C (itO (.ref (C.sl + 178)) 7) (vals V.wf 0 7) ec out 7 od) 4 V.n V.tk gl) := by
  kernel_rfl
theorem qk_runs (x y : Int) (u : Nat) (U : Un) :
    tab (fun j => (vS [] (qk0 (fol b1 b2 w) K V gl x t j), vNt i4 (nx (qk0 (fol b1 b2 w) K V gl x t j) [] (.ok (.ret (.int y u))) [] gl U))) 7 =
    tab2 (fun j => (vSR (.call (.builtin "int.__rshift__") ⟨[.int x t, .int (.ofNat j) V.tk], []⟩) 2 [] gl (qk0 (fol b1 b2 w) K V gl x t j),
      (vNR (qkC K) (qkE K (j + 1) (vals V.ov 0 j ++ [.int (Builtin.bitAnd y 1) (U.tk + 3)]) (odTo1 (fol b1 b2 w) sMinute V j (.int (.ofNat j) V.tk)) x t) gl (nx (qk0 (fol b1 b2 w) K V gl x t j) [] (.ok (.ret (.int y u))) [] gl U), U.tk + 4))) 7 := by
  cases b1 <;> kernel_rfl
theorem qk_runZ (x : Int) (od : Obj) (out : List Value) :
    vL i4 (go (fol b1 b2 w) spQ 1000 (qkC K) [1, 1, 1, 1, 1, 6] V.P V.B (qkE K 7 out od x t) 4 V.n V.tk gl) =
    vR (.ok .next) (qkE K 7 out od x t) gl (go (fol b1 b2 w) spQ 1000 (qkC K) [1, 1, 1, 1, 1, 6] V.P V.B (qkE K 7 out od x t) 4 V.n V.tk gl) := by
  kernel_rfl
end
section
variable {w : World} {A : Around} {R : Result → Shared → Prop} {d : Drawn} {os : OsState} {h : Heap} {E : List (Nat × Obj)} {t0 : Nat}
theorem sat_nx {D D' K lo : Nat} {o : Out} {idx : List Nat} {c : Code} {E1 : List (Nat × Obj)} {gl : List GenState} {Post1 : Nat → Result → List (Nat × Obj) → List GenState → Prop}
    (h1 : vS idx o = vSR c K E1 gl o) (C : SpcT w D' lo c gl E1 Post1) (hlo : lo ≤ t0) (nd : idx.Nodup) (hD : K + D' ≤ D)
    (hA : A.handled = none) (hdep : Room A D) (P : Pre (ktw w) h E) (hg : ∀ tk2 r E2 gl2, Post1 tk2 r E2 gl2 → gl2 = gl)
    (ok : ∀ tk2 r E2, Post1 tk2 r E2 gl → (E2.take idx.length).map (·.1) = E1.map (·.1) ∧ ltOk (E2.drop idx.length) o.st.m (setL o.st.T idx E2) = true)
    (G : ∀ r E2 (U : Un), t0 ≤ U.tk → Post1 U.tk r E2 gl → (∀ p ∈ E2.drop idx.length, ∃ y, p.1 = y + 178) → SatX (vOf pw w A R) h (E.map (·.1)) d os U.tk (nx o idx r E2 gl U)) :
    SatX (vOf pw w A R) h (E.map (·.1)) d os t0 o :=
  sat_specT h1 (fun le => Nat.le_trans hlo le) C nd hD hA hdep P (fun tk2 r E2 gl2 p => by
    have := hg tk2 r E2 gl2 p
    subst this
    exact ok tk2 r E2 p) fun r E2 gl2 n2 tk2 le _ p q P B => by
    have := hg tk2 r E2 gl2 p
    subst this
    exact G r E2 ⟨n2, tk2, P, B⟩ le p q
end
end Mine
end
section
set_option maxRecDepth 100000
set_option maxHeartbeats 400000
namespace Mine
open PySem PySem.Spec PySem.Calls PyProof.Rows PySem.W PySem.W.X
/-- marks of a row of words -/
noncomputable def marksW (l : List Wd) : List Bool := l.map nonE
noncomputable abbrev SwPost (C : Cf) (gl : List GenState) (ws : List Value) (ec : Nat) (G : List Bool) : Nat → Result → List (Nat × Obj) → List GenState → Prop := fun _ r E2 gl2 =>
  ∃ (out : List (Bool × Nat)) (hh : Int) (tt : Nat) (xv : Value), r = .ok .next ∧ gl2 = gl ∧ out.map (·.1) = G ∧ E2 = guE C (itZ 7) ws ec (out.map bvv) 7 (dct [(hh, sWord, tt, xv)] 1)
theorem sw_loop (C : Cf) (gl : List GenState) (come : List (Wd × Nat)) (hc : come.length = 7) (hd : ∀ x ∈ come, x.1 ≠ .d) (ec : Nat) (w : World) (lo : Nat) :
    SpcT w 110 lo (swC C) gl (guE C (itO (.ref (C.sl + 178)) 0) (come.map wvv) ec [] 0 (dct [] 0)) (SwPost C gl (come.map wvv) ec (marksW (come.map (·.1)))) := by
  refine loop_ind (N := 7) (fun lo j E => ∃ (out : List (Bool × Nat)) (od : Obj), out.map (·.1) = marksW ((come.map (·.1)).take j) ∧ OdOk sWord j od ∧ E = guE C (itO (.ref (C.sl + 178)) j) (come.map wvv) ec (out.map bvv) j od) ?_ ?_ 7 0 rfl w lo _ ⟨[], _, rfl, .inl ⟨rfl, rfl⟩, rfl⟩
  · rintro w lo j E j7 ⟨out, od, ho, hd', rfl⟩ IH
    have lo' : out.length = j := by have := congrArg List.length ho; simp [marksW] at this; omega
    refine spcT_fol fun c1 c2 => ?_
    have jf : j < come.length := by omega
    have pc := put7_map come wvv hc j j7
    have ev := vals_map out bvv lo'
    have hnd := hd _ (List.getElem_mem jf)
    have et : marksW ((come.map (·.1)).take (j + 1)) = marksW ((come.map (·.1)).take j) ++ [nonE come[j].1] := by
      unfold marksW
      rw [List.take_add_one, List.getElem?_map, List.getElem?_eq_getElem jf, List.map_append]
      rfl
    generalize hx : come[j] = x at pc hnd et
    obtain ⟨cw, t⟩ := x
    have nxt : ∀ (lo' : Nat) (od' : Obj) (b : Bool) (tx : Nat), marksW ((come.map (·.1)).take (j + 1)) = marksW ((come.map (·.1)).take j) ++ [b] → OdOk sWord (j + 1) od' → lo ≤ lo' →
        SpcT (fol c1 c2 w) 110 lo' (swC C) gl (guE C (itO (.ref (C.sl + 178)) (j + 1)) (come.map wvv) ec (out.map bvv ++ [bvv (b, tx)]) (j + 1) od') (SwPost C gl (come.map wvv) ec (marksW (come.map (·.1)))) := by
      intro lo' od' b tx e ho' le
      refine IH _ lo' _ le ⟨out ++ [(b, tx)], od', ?_, ho', ?_⟩
      · rw [List.map_append, ho, e]; rfl
      · rw [List.map_append]; rfl
    cases cw with
    | d => exact absurd rfl hnd
    | e =>
      refine spcT_of spF 1000 ocSw 4 rfl (by kernel_rfl) (by decide) fun A R h d tk os hA hdep Pr hlo K n' P B => ?_
      obtain ⟨V, v1, v2, v3, v4, v5, v6, rfl⟩ := odAt_of hd' n' tk P B (fun j => (come.map wvv).getD j .none) (fun j => (out.map bvv).getD j .none)
      have h1 := tab_get (sw_runsE c1 c2 w C V gl t ec) j j7
      unfold sw0 at h1
      rw [v1, v2, v3, v4, v5, v6, ev] at h1
      rw [show put7 (fun j => (come.map wvv).getD j .none) j (emp t) = come.map wvv from pc] at h1
      unfold vNt at h1
      rw [Prod.mk.injEq] at h1
      exact sat_nextT h1.1 (fun _ => Nat.le_of_eq h1.2.symm) (nxt (tk + 3) _ false (tk + 2) et (odTo_ok ..) (Nat.le_add_right_of_le hlo)) (by decide) hA hdep Pr K
    | l c =>
      refine spcT_of spF 1000 ocSw 4 rfl (by kernel_rfl) (by decide) fun A R h d tk os hA hdep Pr hlo K n' P B => ?_
      obtain ⟨V, v1, v2, v3, v4, v5, v6, rfl⟩ := odAt_of hd' n' tk P B (fun j => (come.map wvv).getD j .none) (fun j => (out.map bvv).getD j .none)
      have h1 := tab_get (sw_runsL c1 c2 w C V gl t c ec) j j7
      unfold sw0 at h1
      rw [v1, v2, v3, v4, v5, v6, ev] at h1
      rw [show put7 (fun j => (come.map wvv).getD j .none) j (wdv c t) = come.map wvv from pc] at h1
      unfold vNt at h1
      rw [Prod.mk.injEq] at h1
      exact sat_nextT h1.1 (fun _ => Nat.le_of_eq h1.2.symm) (nxt (tk + 3) _ true (tk + 2) et (odTo_ok ..) (Nat.le_add_right_of_le hlo)) (by decide) hA hdep Pr K
  · rintro w lo E ⟨out, od, ho, hd', rfl⟩
    have e7 : (come.map (·.1)).take 7 = come.map (·.1) := List.take_of_length_le (by rw [List.length_map]; omega)
    rw [e7] at ho
    rcases hd' with ⟨h0, _⟩ | ⟨_, hh, tt, xv, rfl⟩
    · exact absurd h0 (by decide)
    refine spcT_fol fun c1 c2 => ?_
    have R := fun n tk P B => sw_runZ c1 c2 w C ⟨n, tk, P, B, 0, 0, .none, fun j => (come.map wvv).getD j .none, fun _ => .none⟩ gl ec (dct [(hh, sWord, tt, xv)] 1) (out.map bvv)
    dsimp only at R
    rw [vals_map come wvv hc] at R
    refine spcT_of spF 1000 ocY 4 rfl (by kernel_rfl) (by decide) fun A R' h d tk os hA hdep Pr hlo K n' P B => ?_
    exact sat_retV (R n' tk P B) (by decide) fun h' tk' le F' => K _ _ _ _ _ le F' ⟨out, hh, tt, xv, rfl, rfl, ho, rfl⟩
/-- x >> m, of small x, m -/
theorem rshift_spec (w : World) (lo : Nat) (gl : List GenState) (x m t u : Nat) (hx : x < 128) (hm : m < 7) :
    SpcT w 110 lo (.call (.builtin "int.__rshift__") ⟨[.int (.ofNat x) t, .int (.ofNat m) u], []⟩) gl [] (fun _ r E2 gl2 => ∃ t', r = .ok (.ret (.int (.ofNat (x / 2 ^ m)) t')) ∧ E2 = [] ∧ gl2 = gl) := by
  have hm0 : ¬ (Int.ofNat m < 0) := by simp
  have all : ∀ x : Fin 128, ∀ m : Fin 7, (Builtin.Int.intBits (.ofNat x.1) ≤ m.1 → x.1 / 2 ^ m.1 = 0) ∧ (Int.ofNat x.1).fdiv (2 ^ (Int.ofNat m.1).toNat) = Int.ofNat (x.1 / 2 ^ m.1) := by decide +kernel
  have al := all ⟨x, hx⟩ ⟨m, hm⟩
  dsimp only at al
  by_cases hb : (Int.ofNat m) ≥ ((Builtin.Int.intBits (.ofNat x) : Nat) : Int)
  · refine spc_meets PySem.F.slot_int_rshift PySem.F.entry_int_rshift (PySem.F.args_int_rshift_2 _ _) (Gives.meets (AutoIntG9.int___rshift___int_int_1 (.ofNat x) t (.ofNat m) u hm0 hb)) fun A R h d tk os hA hdep P hlo K => ⟨rfl, ?_⟩
    refine K _ h [] gl (tk + 1) (Nat.le_succ _) (Fra.refl P) ⟨tk, ?_, rfl, rfl⟩
    rw [al.1 (by simpa using hb)]
    rfl
  · refine spc_meets PySem.F.slot_int_rshift PySem.F.entry_int_rshift (PySem.F.args_int_rshift_2 _ _) (Gives.meets (AutoIntG0.int___rshift___int_int_2 (.ofNat x) t (.ofNat m) u hm0 hb)) fun A R h d tk os hA hdep P hlo K => ⟨rfl, ?_⟩
    refine K _ h [] gl (tk + 1) (Nat.le_succ _) (Fra.refl P) ⟨tk, ?_, rfl, rfl⟩
    rw [al.2]
/-- x != y, of equal ints -/
theorem int_ne_spec (w : World) (lo : Nat) (gl : List GenState) (x y : Int) (t u : Nat) (hxy : x = y) :
    SpcT w 110 lo (.call (.builtin "int.__ne__") ⟨[.int x t, .int y u], []⟩) gl [] (fun _ r E2 gl2 => r = .ok (.ret (.bool false)) ∧ E2 = [] ∧ gl2 = gl) := by
  refine spc_meets PySem.F.slot_int_ne PySem.F.entry_int_ne (PySem.F.args_int_ne_2 _ _) (Gives.meets (AutoIntG6.int___ne___int_int_0 x t y u)) fun A R h d tk os hA hdep P hlo K => ⟨rfl, ?_⟩
  refine K _ _ [] gl tk (Nat.le_refl _) (Fra.refl P) ⟨?_, rfl, rfl⟩
  show Except.ok (Flow.ret (Value.bool (x != y))) = _
  rw [hxy]
  simp
noncomputable def bitW (x : Nat) (j : Nat) : Bool := x / 2 ^ j % 2 == 1
theorem bitAnd_one (x : Nat) (t : Nat) : Value.int (Builtin.bitAnd (.ofNat x) 1) t = bvv (x % 2 == 1, t) := by
  have e : Builtin.bitAnd (.ofNat x) 1 = .ofNat (x % 2) := by
    unfold Builtin.bitAnd
    simp [Nat.and_one_is_mod]
  rw [e]
  have := Nat.mod_two_eq_zero_or_one x
  rcases this with h | h <;> rw [h] <;> rfl
noncomputable abbrev QkPost (C : Kf) (gl : List GenState) (x : Int) (t : Nat) (G : List Bool) : Nat → Result → List (Nat × Obj) → List GenState → Prop := fun _ r E2 gl2 =>
  ∃ (out : List (Bool × Nat)) (hh : Int) (tt : Nat) (xv : Value), r = .ok .next ∧ gl2 = gl ∧ out.map (·.1) = G ∧ E2 = qkE C 7 (out.map bvv) (dct [(hh, sMinute, tt, xv)] 1) x t
theorem qk_loop (C : Kf) (gl : List GenState) (x : Nat) (hx : x < 128) (t : Nat) (w : World) (lo : Nat) :
    SpcT w 120 lo (qkC C) gl (qkE C 0 [] (dct [] 0) (.ofNat x) t) (QkPost C gl (.ofNat x) t ((List.range 7).map (bitW x))) := by
  refine loop_ind (N := 7) (fun lo j E => ∃ (out : List (Bool × Nat)) (od : Obj), out.map (·.1) = (List.range j).map (bitW x) ∧ OdOk sMinute j od ∧ E = qkE C j (out.map bvv) od (.ofNat x) t) ?_ ?_ 7 0 rfl w lo _ ⟨[], _, rfl, .inl ⟨rfl, rfl⟩, rfl⟩
  · rintro w lo j E j7 ⟨out, od, ho, hd', rfl⟩ IH
    have lo' : out.length = j := by have := congrArg List.length ho; simpa using this
    refine spcT_fol fun c1 c2 => ?_
    have ev := vals_map out bvv lo'
    refine spcT_of spQ 1000 qkOc 4 rfl (by kernel_rfl) (by decide) fun A R h d tk os hA hdep Pr hlo K n' P B => ?_
    obtain ⟨V, v1, v2, v3, v4, v5, v6, rfl⟩ := odAt_of hd' n' tk P B (fun _ => .none) (fun j => (out.map bvv).getD j .none)
    have rn := fun y u U => tab_get (qk_runs c1 c2 w C V gl t (.ofNat x) y u U) j j7
    unfold qk0 at rn
    simp only [v1, v2, v3, v4, v5, v6, ev, Prod.mk.injEq] at rn
    have r0 := (rn 0 0 ⟨0, 0, P, B⟩).1
    refine sat_specT (D := 120) r0 (fun _ => Nat.zero_le _) (rshift_spec (fol c1 c2 w) 0 gl x j t tk hx j7) (by decide) (by decide) hA hdep Pr ?_ ?_
    · rintro _ _ _ _ ⟨t', rfl, rfl, rfl⟩
      exact ok_same _ _ rfl rfl
    rintro _ _ gl2 n2 tk2 le1 _ ⟨t', rfl, rfl, e3⟩ _ P2 B2
    rw [e3]
    have r1 := (rn (.ofNat (x / 2 ^ j)) t' ⟨n2, tk2, P2, B2⟩).2
    rw [bitAnd_one] at r1
    unfold nx vNt at r1
    rw [Prod.mk.injEq] at r1
    refine sat_nextT r1.1 (fun _ => Nat.le_of_eq r1.2.symm) (IH _ (tk2 + 4) _ (by omega) ⟨out ++ [(bitW x j, tk2 + 3)], odTo1 (fol c1 c2 w) sMinute V j (.int (.ofNat j) tk), ?_, odTo1_ok .., ?_⟩) (by decide) hA hdep Pr fun r h' E2 gl2 tk' le' => K r h' E2 gl2 tk' (Nat.le_trans le1 le')
    · rw [List.map_append, ho, List.range_succ, List.map_append]; rfl
    · rw [List.map_append]; rfl
  · rintro w lo E ⟨out, od, ho, hd', rfl⟩
    rcases hd' with ⟨h0, _⟩ | ⟨_, hh, tt, xv, rfl⟩
    · exact absurd h0 (by decide)
    refine spcT_fol fun c1 c2 => ?_
    refine spcT_of spQ 1000 [1, 1, 1, 1, 1, 6] 4 rfl (by kernel_rfl) (by decide) fun A R' h d tk os hA hdep Pr hlo K n' P B => ?_
    have R := qk_runZ c1 c2 w C ⟨n', tk, P, B, 0, 0, .none, fun _ => .none, fun _ => .none⟩ gl t (.ofNat x) (dct [(hh, sMinute, tt, xv)] 1) (out.map bvv)
    exact sat_retV R (by decide) fun h' tk' le F' => K _ _ _ _ _ le F' ⟨out, hh, tt, xv, rfl, rfl, ho, rfl⟩
end Mine
end
section
set_option genInjectivity false
set_option maxRecDepth 100000
set_option maxHeartbeats 400000
namespace Mine
open PySem PySem.Spec PySem.Calls PyProof.Rows PySem.W PySem.W.X
noncomputable def spE : Code → Bool := fun c => match c with
  | .forLoop .. => true
  | .compLoop .. => true
  | .call f _ => match f with
    | .builtin id => isId id "list.__ne__" || isId id "list.__eq__" || isId id "int.__ne__"
    | .ref a => Nat.beq a 150 || Nat.beq a 155 || Nat.beq a 160 || Nat.beq a 167
    | _ => false
  | _ => false
noncomputable def adr (T : LT) (i : Nat) : Nat := match T.get i with
  | some q => q.1
  | none => 0
noncomputable abbrev tExecs (l : List Stmt) (env : Env) : Sem Flow := PySem.W.Fast.tw12563942051412417395 l env
/-- what waits for a statement's flow, in a function's body -/
noncomputable def cxFlow (env : Env) (rest : List Stmt) : Cx Flow :=
  .bind (fun f => match f with | .next => tExecs rest env | f => .pure f) (.onRaise (PySem.W.Fast.tw9442747609961115081 env) (.bind (fun f => match f with | .ret v => .pure (.done (.ret v)) | _ => .pure (.done (.ret .none))) .fin))
/-- what waits for the test of an if -/
noncomputable def cxIf (env : Env) (body orelse rest : List Stmt) : Cx Bool := .bind (fun b => if b = true then tExecs body env else tExecs orelse env) (cxFlow env rest)
noncomputable def cxOp (a b : Nat) (c : Cx Value) : Cx Value :=
  .keep [.ref a, .ref b] (.bind (fun r => R.bindR (PySem.W.Fast.tw16427652380498605876 [.ref a, .ref b] [r]) fun _ => .pure r) c)
/-- what waits for a comparison's value in a test -/
noncomputable def cxTest (a b : Nat) (c : Cx Bool) : Cx Value := cxOp a b (.bind (fun v => PySem.W.Fast.tw17359229931016689406 [v] (PySem.W.Fast.tw15245631507167962100 v)) c)
/-- what waits for the first test of an or -/
noncomputable def cxOr (env : Env) (vs : List Expr) (p : Pos) (c : Cx Bool) : Cx Bool := .bind (fun v => match BoolOp.Or, v with | .And, false => pure false | .Or, true => pure true | _, _ => PySem.W.Fast.tw15418851999007992765 (.BoolOp .Or vs p) env (.pure .none)) c
noncomputable def ifParts : Option Stmt → Expr × List Stmt × List Stmt
  | some (.If t b e _) => (t, b, e)
  | _ => (.Constant .none 0 default, [], [])
noncomputable def boolVals : Expr → List Expr
  | .BoolOp _ vs _ => vs
  | _ => []
noncomputable def exEnv (l c : Nat) : Env := { scope := defScope (topAt 23), locals := l, globals := 3, cells := [(⟨sWhole.toArray⟩, c)], qual := ⟨exQ.toArray⟩, func := some 172, code := .ref 171, frame := some l, builtins := 0 }
noncomputable def exB (i : Nat) : List Stmt := (defBody (topAt 23)).drop i
noncomputable def exIf (i : Nat) (l c : Nat) : Cx Bool := cxIf (exEnv l c) (ifParts (stAt 23 i)).2.1 (ifParts (stAt 23 i)).2.2 (exB (i + 1))
noncomputable def exCx : List (LT → CmpOp × Nat × Nat × Cx Value) := [
  fun T => (.NotEq, adr T 9, adr T 12, cxTest (adr T 9) (adr T 12) (cxOr (exEnv (adr T 4) (adr T 5)) ((boolVals (ifParts (stAt 23 5)).1).drop 1) default (exIf 5 (adr T 4) (adr T 5)))),
  fun T => (.NotEq, adr T 10, adr T 13, cxTest (adr T 10) (adr T 13) (cxOr (exEnv (adr T 4) (adr T 5)) [] default (exIf 5 (adr T 4) (adr T 5)))),
  fun T => (.NotEq, adr T 11, adr T 14, cxTest (adr T 11) (adr T 14) (exIf 6 (adr T 4) (adr T 5))),
  fun T => (.NotEq, adr T 29, adr T 10, cxTest (adr T 29) (adr T 10) (exIf 12 (adr T 4) (adr T 5))),
  fun T => (.Eq, adr T 34, adr T 36, cxOp (adr T 34) (adr T 36) (.bind (fun v => .pure (.ret v)) (cxFlow (exEnv (adr T 4) (adr T 5)) (exB 14))))]
noncomputable def revV (v : Nat → Value) : List Value := [6, 5, 4, 3, 2, 1, 0].map v
/-- what the pieces of _law_exchanged hang on -/
structure Xq where
  g : Nat
  e : Nat
  l : Nat
  eg : Nat
  ee : Nat
  el : Nat
  c1 : Nat
  c2 : Nat
  a : Nat
  b : Nat
  tt : Nat
  t0 : Nat
  t1 : Nat
  t2 : Nat
  tq : Nat
  y0 : Nat
  y1 : Nat
  y2 : Nat
  y3 : Nat
  y4 : Nat
  y5 : Nat
  y6 : Nat
  y7 : Nat
  y8 : Nat
  y9 : Nat
  y10 : Nat
  gu : List Value
  ea : List Value
  la : List Value
  r : List Value
  S : List Value
  W0 : List Value
  W2 : List Value
  W3 : List Value
  W5 : List Value
  W6 : List Value
  W7 : List Value
  W8 : List Value
  W9 : List Value
  W10 : List Value
  v1 : Nat → Value
  v4 : Nat → Value
  vq : Nat → Value
  x0 : Int
  x1 : Int
  x2 : Int
  hh : Int
  h2 : Int
  xv : Value
  xq : Value
  gl : List GenState
  U : Un
  U0 : Un
  U1 : Un
  U2 : Un
  U3 : Un
  U4 : Un
  U5 : Un
  U6 : Un
  U7 : Un
  U8 : Un
  U9 : Un
  U10 : Un
  U11 : Un
  U12 : Un
  U13 : Un
  U14 : Un
  U15 : Un
  U16 : Un
  U17 : Un
  U18 : Un
  U19 : Un
  U20 : Un
  U21 : Un
noncomputable abbrev exC (Q : Xq) : Cf := ⟨Q.U10.n, Q.y4, Q.U10.n + 1, Q.U10.n + 2, Q.U.n⟩
noncomputable abbrev exK (Q : Xq) : Kf := ⟨Q.U15.n + 1, Q.U15.n + 2, Q.U15.n + 3, Q.U.n + 1, Q.U.n⟩
noncomputable abbrev exOc (b2 : Bool) : List Nat := cond b2 [0, 0, 5, 5, 5, 5, 5, 5, 1, 0, 5, 0, 5, 5, 0, 5, 0, 5, 5, 0, 5, 5, 0, 5, 5, 0, 5, 5, 0, 5, 5, 0, 5, 5, 0, 5, 5, 5, 0, 5, 5, 0, 3, 0, 10, 13, 10, 5, 0, 5, 5, 0, 3, 1, 11, 14, 11, 5, 0, 5, 5, 0, 3, 2, 12, 15, 12, 5, 12, 12, 12, 16, 5, 5, 18, 18, 18, 0, 5, 0, 0, 5, 0, 0, 5, 0, 5, 5, 0, 0, 5, 19, 19, 19, 19, 19, 5, 19, 19, 19, 19, 19, 0, 0, 0, 20, 20, 20, 20, 1, 20, 20, 5, 19, 19, 19, 19, 19, 0, 0, 0, 21, 21, 21, 21, 1, 21, 21, 6, 6, 6, 0, 5, 19, 19, 19, 19, 19, 0, 0, 5, 19, 19, 19, 19, 19, 5, 19, 19, 19, 19, 19, 0, 0, 0, 22, 22, 22, 22, 1, 22, 22, 5, 19, 19, 19, 19, 19, 0, 0, 0, 23, 23, 23, 23, 1, 23, 23, 0, 0, 0, 24, 24, 24, 24, 1, 24, 24, 0, 0, 25, 25, 25, 25, 25, 25, 25, 25, 25, 25, 26, 5, 5, 28, 28, 28, 0, 0, 5, 5, 0, 5, 0, 5, 3, 3, 30, 11, 30, 0, 5, 12, 12, 12, 12, 31, 31, 31, 31, 31, 12, 5, 27, 27, 27, 27, 33, 33, 33, 33, 33, 27, 0, 5, 8, 8, 8, 8, 36, 36, 36, 36, 36, 8, 3, 4, 35, 37, 35] [0, 0, 5, 5, 5, 5, 5, 5, 1, 0, 5, 0, 5, 5, 0, 5, 0, 5, 5, 0, 5, 5, 0, 5, 5, 0, 5, 5, 0, 5, 5, 0, 5, 5, 0, 5, 5, 5, 0, 5, 5, 0, 3, 0, 10, 13, 10, 5, 0, 5, 5, 0, 3, 1, 11, 14, 11, 5, 0, 5, 5, 0, 3, 2, 12, 15, 12, 5, 12, 12, 12, 16, 16, 16, 16, 16, 5, 5, 18, 18, 18, 0, 5, 0, 0, 5, 0, 0, 5, 0, 5, 5, 0, 0, 5, 19, 19, 19, 19, 19, 5, 19, 19, 19, 19, 19, 0, 0, 0, 20, 20, 20, 20, 1, 20, 20, 5, 19, 19, 19, 19, 19, 0, 0, 0, 21, 21, 21, 21, 1, 21, 21, 6, 6, 6, 0, 5, 19, 19, 19, 19, 19, 0, 0, 5, 19, 19, 19, 19, 19, 5, 19, 19, 19, 19, 19, 0, 0, 0, 22, 22, 22, 22, 1, 22, 22, 5, 19, 19, 19, 19, 19, 0, 0, 0, 23, 23, 23, 23, 1, 23, 23, 0, 0, 0, 24, 24, 24, 24, 1, 24, 24, 0, 0, 25, 25, 25, 25, 25, 25, 25, 25, 25, 25, 26, 26, 26, 26, 26, 5, 5, 28, 28, 28, 0, 0, 5, 5, 0, 5, 0, 5, 3, 3, 30, 11, 30, 0, 5, 12, 12, 12, 12, 31, 31, 31, 31, 31, 12, 5, 27, 27, 27, 27, 33, 33, 33, 33, 33, 27, 0, 5, 8, 8, 8, 8, 36, 36, 36, 36, 36, 8, 3, 4, 35, 37, 35]
noncomputable abbrev exCode (g e l : Nat) : Code := .call (.ref 172) ⟨[.ref (g + 178), .ref (e + 178), .ref (l + 178)], []⟩
noncomputable def xo0 (b2 : Bool) (w : World) (Q : Xq) : Out := goX w spE exCx 4000 (exCode Q.g Q.e Q.l) (exOc b2) Q.U.P Q.U.B [(Q.g + 178, lst Q.gu Q.eg), (Q.e + 178, lst Q.ea Q.ee), (Q.l + 178, lst Q.la Q.el), (121, tab0)] 4 Q.U.n Q.U.tk Q.gl
noncomputable def xo1 (b2 : Bool) (w : World) (Q : Xq) : Out := nx (xo0 b2 w Q) [0] (.ok (.ret (.ref (Q.y0 + 178)))) [(Q.g + 178, lst Q.gu Q.eg), (Q.y0 + 178, lst Q.W0 7)] Q.gl Q.U0
noncomputable def xo2 (b2 : Bool) (w : World) (Q : Xq) : Out := nx (xo1 b2 w Q) [1] (.ok (.ret (.ref (Q.y1 + 178)))) [(Q.e + 178, lst Q.ea Q.ee), (Q.y1 + 178, lst (vals Q.v1 0 7) 7)] Q.gl Q.U1
noncomputable def xo3 (b2 : Bool) (w : World) (Q : Xq) : Out := nx (xo2 b2 w Q) [6, 1, 3] (.ok (.ret (.ref (Q.y2 + 178)))) [(Q.y0 + 178, lst Q.W0 7), (Q.e + 178, lst Q.ea Q.ee), (121, tab1 Q.c1 Q.c2), (Q.c1 + 178, codeO Q.a Q.b Q.r), (Q.y2 + 178, lst Q.W2 7)] Q.gl Q.U2
noncomputable def xo4 (b2 : Bool) (w : World) (Q : Xq) : Out := nx (xo3 b2 w Q) [9, 2, 3, 8] (.ok (.ret (.ref (Q.y3 + 178)))) [(Q.y2 + 178, lst Q.W2 7), (Q.l + 178, lst Q.la Q.el), (121, tab1 Q.c1 Q.c2), (Q.c1 + 178, codeO Q.a Q.b Q.r), (Q.y3 + 178, lst Q.W3 7)] Q.gl Q.U3
noncomputable def xo5 (b2 : Bool) (w : World) (Q : Xq) : Out := nx (xo4 b2 w Q) [7, 2, 3, 8] (.ok (.ret (.ref (Q.y4 + 178)))) [(Q.y1 + 178, lst (vals Q.v1 0 7) 7), (Q.l + 178, lst Q.la Q.el), (121, tab1 Q.c1 Q.c2), (Q.c1 + 178, codeO Q.a Q.b Q.r), (Q.y4 + 178, lst (vals Q.v4 0 7) 7)] Q.gl Q.U4
noncomputable def xo6 (b2 : Bool) (w : World) (Q : Xq) : Out := nx (xo5 b2 w Q) [6, 1] (.ok (.ret (.ref (Q.y5 + 178)))) [(Q.y0 + 178, lst Q.W0 7), (Q.e + 178, lst Q.ea Q.ee), (Q.y5 + 178, lst Q.W5 7)] Q.gl Q.U5
noncomputable def xo7 (b2 : Bool) (w : World) (Q : Xq) : Out := nx (xo6 b2 w Q) [9, 12] (.ok (.ret (.bool false))) [(Q.y2 + 178, lst Q.W2 7), (Q.y5 + 178, lst Q.W5 7)] Q.gl Q.U6
noncomputable def xo8 (b2 : Bool) (w : World) (Q : Xq) : Out := nx (xo7 b2 w Q) [9, 2] (.ok (.ret (.ref (Q.y6 + 178)))) [(Q.y2 + 178, lst Q.W2 7), (Q.l + 178, lst Q.la Q.el), (Q.y6 + 178, lst Q.W6 7)] Q.gl Q.U7
noncomputable def xo9 (b2 : Bool) (w : World) (Q : Xq) : Out := nx (xo8 b2 w Q) [10, 13] (.ok (.ret (.bool false))) [(Q.y3 + 178, lst Q.W3 7), (Q.y6 + 178, lst Q.W6 7)] Q.gl Q.U8
noncomputable def xo10 (b2 : Bool) (w : World) (Q : Xq) : Out := nx (xo9 b2 w Q) [7, 2] (.ok (.ret (.ref (Q.y7 + 178)))) [(Q.y1 + 178, lst (vals Q.v1 0 7) 7), (Q.l + 178, lst Q.la Q.el), (Q.y7 + 178, lst Q.W7 7)] Q.gl Q.U9
noncomputable def xo11 (b2 : Bool) (w : World) (Q : Xq) : Out := nx (xo10 b2 w Q) [11, 14] (.ok (.ret (.bool false))) [(Q.y4 + 178, lst (vals Q.v4 0 7) 7), (Q.y7 + 178, lst Q.W7 7)] Q.gl Q.U10
noncomputable def xo12 (b2 : Bool) (w : World) (Q : Xq) : Out := nx (xo11 b2 w Q) [15, 11, 16, 17] (.ok .next) (guE (exC Q) (itZ 7) (vals Q.v4 0 7) 7 Q.S 7 (dct [(Q.hh, sWord, Q.tt, Q.xv)] 1)) Q.gl Q.U11
noncomputable def xo13 (b2 : Bool) (w : World) (Q : Xq) : Out := nx (xo12 b2 w Q) [1] (.ok (.ret (.int Q.x0 Q.t0))) [(Q.e + 178, lst Q.ea Q.ee)] Q.gl Q.U12
noncomputable def xo14 (b2 : Bool) (w : World) (Q : Xq) : Out := nx (xo13 b2 w Q) [2] (.ok (.ret (.int Q.x1 Q.t1))) [(Q.l + 178, lst Q.la Q.el)] Q.gl Q.U13
noncomputable def xo15 (b2 : Bool) (w : World) (Q : Xq) : Out := nx (xo14 b2 w Q) [16] (.ok (.ret (.int Q.x2 Q.t2))) [(Q.U10.n + 1 + 178, lst Q.S 7)] Q.gl Q.U14
noncomputable def xo16 (b2 : Bool) (w : World) (Q : Xq) : Out := nx (xo15 b2 w Q) [] (.ok (.ret (.bool false))) [] Q.gl Q.U15
noncomputable def xo17 (b2 : Bool) (w : World) (Q : Xq) : Out := nx (xo16 b2 w Q) [25, 26, 27, 5] (.ok .next) (qkE (exK Q) 7 (vals Q.vq 0 7) (dct [(Q.h2, sMinute, Q.tq, Q.xq)] 1) (Q.x0 + Q.x1 - Q.x2) (Q.U14.tk + 9)) Q.gl Q.U16
noncomputable def xo18 (b2 : Bool) (w : World) (Q : Xq) : Out := nx (xo17 b2 w Q) [6, 26, 3, 8] (.ok (.ret (.ref (Q.y8 + 178)))) [(Q.y0 + 178, lst Q.W0 7), (Q.U15.n + 2 + 178, lst (vals Q.vq 0 7) 7), (121, tab1 Q.c1 Q.c2), (Q.c1 + 178, codeO Q.a Q.b Q.r), (Q.y8 + 178, lst Q.W8 7)] Q.gl Q.U17
noncomputable def xo19 (b2 : Bool) (w : World) (Q : Xq) : Out := nx (xo18 b2 w Q) [28, 16, 3, 8] (.ok (.ret (.ref (Q.y9 + 178)))) [(Q.y8 + 178, lst Q.W8 7), (Q.U10.n + 1 + 178, lst Q.S 7), (121, tab1 Q.c1 Q.c2), (Q.c1 + 178, codeO Q.a Q.b Q.r), (Q.y9 + 178, lst Q.W9 7)] Q.gl Q.U18
noncomputable def xo20 (b2 : Bool) (w : World) (Q : Xq) : Out := nx (xo19 b2 w Q) [29, 10] (.ok (.ret (.bool false))) [(Q.y9 + 178, lst Q.W9 7), (Q.y3 + 178, lst Q.W3 7)] Q.gl Q.U19
noncomputable def xo21 (b2 : Bool) (w : World) (Q : Xq) : Out := nx (xo20 b2 w Q) [31, 33, 3, 8] (.ok (.ret (.ref (Q.y10 + 178)))) [(Q.U19.n + 1 + 178, lst (revV Q.v4) 0), (Q.U19.n + 3 + 178, lst (revV Q.vq) 0), (121, tab1 Q.c1 Q.c2), (Q.c1 + 178, codeO Q.a Q.b Q.r), (Q.y10 + 178, lst Q.W10 7)] Q.gl Q.U20
noncomputable def xo22 (b2 : Bool) (w : World) (Q : Xq) : Out := nx (xo21 b2 w Q) [34, 36] (.ok (.ret (.bool true))) [(Q.y10 + 178, lst Q.W10 7), (Q.U20.n + 1 + 178, lst (revV Q.v1) 0)] Q.gl Q.U21
section
variable (b1 b2 : Bool) (w : World) (Q : Xq)
theorem ex_runs :
    (vS [0] (xo0 b2 (fol b1 b2 w) Q),
     vS [1] (xo1 b2 (fol b1 b2 w) Q),
     vS [6, 1, 3] (xo2 b2 (fol b1 b2 w) Q),
     vS [9, 2, 3, 8] (xo3 b2 (fol b1 b2 w) Q),
     vS [7, 2, 3, 8] (xo4 b2 (fol b1 b2 w) Q),
     vS [6, 1] (xo5 b2 (fol b1 b2 w) Q),
     vS [9, 12] (xo6 b2 (fol b1 b2 w) Q),
     vS [9, 2] (xo7 b2 (fol b1 b2 w) Q),
     vS [10, 13] (xo8 b2 (fol b1 b2 w) Q),
     vS [7, 2] (xo9 b2 (fol b1 b2 w) Q),
     vS [11, 14] (xo10 b2 (fol b1 b2 w) Q),
     vS [15, 11, 16, 17] (xo11 b2 (fol b1 b2 w) Q),
     vS [1] (xo12 b2 (fol b1 b2 w) Q),
     vS [2] (xo13 b2 (fol b1 b2 w) Q),
     vS [16] (xo14 b2 (fol b1 b2 w) Q),
     vS [] (xo15 b2 (fol b1 b2 w) Q),
     vS [25, 26, 27, 5] (xo16 b2 (fol b1 b2 w) Q),
     vS [6, 26, 3, 8] (xo17 b2 (fol b1 b2 w) Q),
     vS [28, 16, 3, 8] (xo18 b2 (fol b1 b2 w) Q),
     vS [29, 10] (xo19 b2 (fol b1 b2 w) Q),
     vS [31, 33, 3, 8] (xo20 b2 (fol b1 b2 w) Q),
     vS [34, 36] (xo21 b2 (fol b1 b2 w) Q),
     vL [0, 1, 2, 3, 8] (xo22 b2 (fol b1 b2 w) Q),
     fullGo (xo0 b2 (fol b1 b2 w) Q).st.T (xo0 b2 (fol b1 b2 w) Q).st.m,
     fullGo (xo1 b2 (fol b1 b2 w) Q).st.T (xo1 b2 (fol b1 b2 w) Q).st.m,
     fullGo (xo2 b2 (fol b1 b2 w) Q).st.T (xo2 b2 (fol b1 b2 w) Q).st.m,
     fullGo (xo3 b2 (fol b1 b2 w) Q).st.T (xo3 b2 (fol b1 b2 w) Q).st.m,
     fullGo (xo4 b2 (fol b1 b2 w) Q).st.T (xo4 b2 (fol b1 b2 w) Q).st.m,
     fullGo (xo5 b2 (fol b1 b2 w) Q).st.T (xo5 b2 (fol b1 b2 w) Q).st.m,
     fullGo (xo7 b2 (fol b1 b2 w) Q).st.T (xo7 b2 (fol b1 b2 w) Q).st.m,
     fullGo (xo9 b2 (fol b1 b2 w) Q).st.T (xo9 b2 (fol b1 b2 w) Q).st.m,
     fullGo (xo17 b2 (fol b1 b2 w) Q).st.T (xo17 b2 (fol b1 b2 w) Q).st.m,
     fullGo (xo18 b2 (fol b1 b2 w) Q).st.T (xo18 b2 (fol b1 b2 w) Q).st.m,
     fullGo (xo20 b2 (fol b1 b2 w) Q).st.T (xo20 b2 (fol b1 b2 w) Q).st.m) =
    (vSR (.call (.ref 150) ⟨[.ref (Q.g + 178)], []⟩) 1 [(Q.g + 178, lst Q.gu Q.eg)] Q.gl (xo0 b2 (fol b1 b2 w) Q),
     vSR (.call (.ref 150) ⟨[.ref (Q.e + 178)], []⟩) 1 [(Q.e + 178, lst Q.ea Q.ee)] Q.gl (xo1 b2 (fol b1 b2 w) Q),
     vSR (lineC Q.y0 Q.e) 1 [(Q.y0 + 178, lst Q.W0 7), (Q.e + 178, lst Q.ea Q.ee), (121, tab0)] Q.gl (xo2 b2 (fol b1 b2 w) Q),
     vSR (lineC Q.y2 Q.l) 1 [(Q.y2 + 178, lst Q.W2 7), (Q.l + 178, lst Q.la Q.el), (121, tab1 Q.c1 Q.c2), (Q.c1 + 178, codeO Q.a Q.b Q.r)] Q.gl (xo3 b2 (fol b1 b2 w) Q),
     vSR (lineC Q.y1 Q.l) 1 [(Q.y1 + 178, lst (vals Q.v1 0 7) 7), (Q.l + 178, lst Q.la Q.el), (121, tab1 Q.c1 Q.c2), (Q.c1 + 178, codeO Q.a Q.b Q.r)] Q.gl (xo4 b2 (fol b1 b2 w) Q),
     vSR (parC Q.y0 Q.e) 1 [(Q.y0 + 178, lst Q.W0 7), (Q.e + 178, lst Q.ea Q.ee)] Q.gl (xo5 b2 (fol b1 b2 w) Q),
     vSR (.call (.builtin "list.__ne__") ⟨[.ref (Q.y2 + 178), .ref (Q.y5 + 178)], []⟩) 1 [(Q.y2 + 178, lst Q.W2 7), (Q.y5 + 178, lst Q.W5 7)] Q.gl (xo6 b2 (fol b1 b2 w) Q),
     vSR (parC Q.y2 Q.l) 1 [(Q.y2 + 178, lst Q.W2 7), (Q.l + 178, lst Q.la Q.el)] Q.gl (xo7 b2 (fol b1 b2 w) Q),
     vSR (.call (.builtin "list.__ne__") ⟨[.ref (Q.y3 + 178), .ref (Q.y6 + 178)], []⟩) 1 [(Q.y3 + 178, lst Q.W3 7), (Q.y6 + 178, lst Q.W6 7)] Q.gl (xo8 b2 (fol b1 b2 w) Q),
     vSR (parC Q.y1 Q.l) 1 [(Q.y1 + 178, lst (vals Q.v1 0 7) 7), (Q.l + 178, lst Q.la Q.el)] Q.gl (xo9 b2 (fol b1 b2 w) Q),
     vSR (.call (.builtin "list.__ne__") ⟨[.ref (Q.y4 + 178), .ref (Q.y7 + 178)], []⟩) 1 [(Q.y4 + 178, lst (vals Q.v4 0 7) 7), (Q.y7 + 178, lst Q.W7 7)] Q.gl (xo10 b2 (fol b1 b2 w) Q),
     vSR (swC (exC Q)) 1 (guE (exC Q) (itO (.ref (Q.y4 + 178)) 0) (vals Q.v4 0 7) 7 [] 0 (dct [] 0)) Q.gl (xo11 b2 (fol b1 b2 w) Q),
     vSR (pakC Q.e) 1 [(Q.e + 178, lst Q.ea Q.ee)] Q.gl (xo12 b2 (fol b1 b2 w) Q),
     vSR (pakC Q.l) 1 [(Q.l + 178, lst Q.la Q.el)] Q.gl (xo13 b2 (fol b1 b2 w) Q),
     vSR (pakC (Q.U10.n + 1)) 1 [(Q.U10.n + 1 + 178, lst Q.S 7)] Q.gl (xo14 b2 (fol b1 b2 w) Q),
     vSR (.call (.builtin "int.__ne__") ⟨[.int (Q.x0 + Q.x1 - Q.x2) (Q.U14.tk + 9), .int (Builtin.bitOr Q.x0 (Builtin.bitXor (Builtin.bitXor Q.x0 Q.x1) Q.x2)) (Q.U14.tk + 22)], []⟩) 1 [] Q.gl (xo15 b2 (fol b1 b2 w) Q),
     vSR (qkC (exK Q)) 1 (qkE (exK Q) 0 [] (dct [] 0) (Q.x0 + Q.x1 - Q.x2) (Q.U14.tk + 9)) Q.gl (xo16 b2 (fol b1 b2 w) Q),
     vSR (lineC Q.y0 (Q.U15.n + 2)) 1 [(Q.y0 + 178, lst Q.W0 7), (Q.U15.n + 2 + 178, lst (vals Q.vq 0 7) 7), (121, tab1 Q.c1 Q.c2), (Q.c1 + 178, codeO Q.a Q.b Q.r)] Q.gl (xo17 b2 (fol b1 b2 w) Q),
     vSR (lineC Q.y8 (Q.U10.n + 1)) 1 [(Q.y8 + 178, lst Q.W8 7), (Q.U10.n + 1 + 178, lst Q.S 7), (121, tab1 Q.c1 Q.c2), (Q.c1 + 178, codeO Q.a Q.b Q.r)] Q.gl (xo18 b2 (fol b1 b2 w) Q),
     vSR (.call (.builtin "list.__ne__") ⟨[.ref (Q.y9 + 178), .ref (Q.y3 + 178)], []⟩) 1 [(Q.y9 + 178, lst Q.W9 7), (Q.y3 + 178, lst Q.W3 7)] Q.gl (xo19 b2 (fol b1 b2 w) Q),
     vSR (lineC (Q.U19.n + 1) (Q.U19.n + 3)) 1 [(Q.U19.n + 1 + 178, lst (revV Q.v4) 0), (Q.U19.n + 3 + 178, lst (revV Q.vq) 0), (121, tab1 Q.c1 Q.c2), (Q.c1 + 178, codeO Q.a Q.b Q.r)] Q.gl (xo20 b2 (fol b1 b2 w) Q),
     vSR (.call (.builtin "list.__eq__") ⟨[.ref (Q.y10 + 178), .ref ((Q.U20.n + 1) + 178)], []⟩) 1 [(Q.y10 + 178, lst Q.W10 7), (Q.U20.n + 1 + 178, lst (revV Q.v1) 0)] Q.gl (xo21 b2 (fol b1 b2 w) Q),
     vR (.ok (.ret (.bool true))) [(Q.g + 178, lst Q.gu Q.eg), (Q.e + 178, lst Q.ea Q.ee), (Q.l + 178, lst Q.la Q.el), (121, tab1 Q.c1 Q.c2), (Q.c1 + 178, codeO Q.a Q.b Q.r)] Q.gl (xo22 b2 (fol b1 b2 w) Q),
     true,
     true,
     true,
     true,
     true,
     true,
     true,
     true,
     true,
     true,
     true) := by
  cases b1 <;> cases b2 <;> kernel_rfl
end
end Mine
end
section
set_option genInjectivity false
set_option maxRecDepth 100000
set_option maxHeartbeats 400000
namespace Mine
open PySem PySem.Spec PySem.Calls PyProof.Rows PySem.W PySem.W.X
/-- unknowns behind the line's loop -/
structure Uo where
  he : Int
  e : Nat
  pm : Int
  te : Nat
  et : Nat
  tv : Nat → Value
  t5 : Nat
  ta : Nat
  p : Int
  oq : Obj
noncomputable def lnO1 (o : Out) (idx : List Nat) (F : Lf) (L : Lx) (Z : Uo) (ln : Int) (cl fl : List Value) (gl : List GenState) (U1 : Un) : Out :=
  o.go (so o idx (.ok .next) (lnS F L Z.he Z.e Z.pm Z.te Z.et Z.tv cl fl Z.t5 Z.ta ln Z.p Z.oq) U1.n U1.tk gl) U1.P U1.B
noncomputable def lnO2 (o : Out) (i td : Nat) (Z : Uo) (k : Int) (t : Nat) (gl : List GenState) (U2 : Un) : Out :=
  o.go (so o [i] (.ok (.ret (.int k t))) [(td + 178, lst (vals Z.tv 0 14) Z.et)] U2.n U2.tk gl) U2.P U2.B
noncomputable def lnO3 (o : Out) (idx : List Nat) (C : Cf) (ws : List Value) (ov : Nat → Value) (od : Obj) (gl : List GenState) (U3 : Un) : Out :=
  o.go (so o idx (.ok .next) (cfZ C ws (vals ov 0 7) od) U3.n U3.tk gl) U3.P U3.B
section
variable (b1 : Bool) (cm fr c1 c2 a b : Nat) (r : List Value) (cl fl : List Value) (ec ef : Nat) (gl : List GenState) (U U1 U2 U3 : Un) (Z : Uo) (t : Nat) (ov : Nat → Value) (hh : Int) (tt : Nat) (xv : Value)
noncomputable abbrev sR0 (b2 : Bool) (w : World) : Out := sO0 b2 w cm fr cl fl ec ef gl U
noncomputable abbrev sR1 (b2 : Bool) (w : World) (k : Nat) : Out := lnO1 (sR0 cm fr cl fl ec ef gl U b2 w) iS (sF w cm fr ec ef U) (sL w (sR0 cm fr cl fl ec ef gl U b2 w) U) Z (lnT k) cl fl gl U1
noncomputable abbrev sR2 (b2 : Bool) (w : World) (k : Nat) : Out := lnO2 (sR1 cm fr cl fl ec ef gl U U1 Z b2 w k) 28 (U.n + 25) Z (.ofNat k) t gl U2
noncomputable abbrev sC (U U2 : Un) : Cf := ⟨U2.n + 2, U2.n + 1, U2.n + 3, U2.n + 4, U.n⟩
noncomputable abbrev sR3 (b2 : Bool) (w : World) (k : Nat) : Out := lnO3 (sR2 cm fr cl fl ec ef gl U U1 U2 Z t b2 w k) [33, 32, 34, 35] (sC U U2) (vals Z.tv 7 7) ov (dct [(hh, sWord, tt, xv)] 1) gl U3
theorem s_runs1 (b2 : Bool) (w : World) :
    tab (fun k => vS [28] (sR1 cm fr cl fl ec ef gl U U1 Z b2 (fol b1 b2 w) k)) 15 =
    tab2 (fun k => vSR (.call (.ref 119) ⟨[.ref (U.n + 25 + 178), .str ⟨#[46]⟩ U1.tk], []⟩) 1 [(U.n + 25 + 178, lst (vals Z.tv 0 14) Z.et)] gl (sR1 cm fr cl fl ec ef gl U U1 Z b2 (fol b1 b2 w) k)) 15 := by
  cases b1 <;> cases b2 <;> kernel_rfl
theorem s_runs2 (b2 : Bool) (w : World) :
    tab (fun k => vS [33, 32, 34, 35] (sR2 cm fr cl fl ec ef gl U U1 U2 Z t b2 (fol b1 b2 w) k)) 15 =
    tab2 (fun k => vSR (liC (sC U U2)) 1 (cfE (sC U U2) (vals Z.tv 7 7) 0 [] (dct [] 0)) gl (sR2 cm fr cl fl ec ef gl U U1 U2 Z t b2 (fol b1 b2 w) k)) 15 := by
  cases b1 <;> cases b2 <;> kernel_rfl
theorem s_runs3 (b2 : Bool) (w : World) :
    tab (fun k => vL [0, 1, 2, 14, 34] (sR3 cm fr cl fl ec ef gl U U1 U2 U3 Z t ov hh tt xv b2 (fol b1 b2 w) k)) 15 =
    tab2 (fun k => vR (.ok (.ret (.ref (U2.n + 3 + 178)))) [(cm + 178, lst cl ec), (fr + 178, lst fl ef), (121, tab1 (U.n + 11) (U.n + 18)), (U.n + 11 + 178, codeO (U.tk + 6) (U.tk + 7) (rOf (sR0 cm fr cl fl ec ef gl U b2 (fol b1 b2 w)) 14)), (U2.n + 3 + 178, lst (vals ov 0 7) 7)] gl (sR3 cm fr cl fl ec ef gl U U1 U2 U3 Z t ov hh tt xv b2 (fol b1 b2 w) k)) 15 := by
  cases b1 <;> cases b2 <;> kernel_rfl
end
end Mine
end
section
set_option maxRecDepth 100000
set_option maxHeartbeats 400000
namespace Mine
open PySem PySem.Spec PySem.Calls PyProof.Rows PySem.W PySem.W.X
section
variable (b1 : Bool) (cm fr c1 c2 a b : Nat) (r : List Value) (cl fl : List Value) (ec ef : Nat) (gl : List GenState) (U U1 U2 U3 : Un) (Z : Uo) (t : Nat) (ov : Nat → Value) (hh : Int) (tt : Nat) (xv : Value)
noncomputable abbrev tR0 (b2 : Bool) (w : World) : Out := tO0 b2 w cm fr c1 c2 a b r cl fl ec ef gl U
noncomputable abbrev tR1 (b2 : Bool) (w : World) (k : Nat) : Out := lnO1 (tR0 cm fr c1 c2 a b r cl fl ec ef gl U b2 w) iT (tF w cm fr ec ef U) (tL w (tR0 cm fr c1 c2 a b r cl fl ec ef gl U b2 w) c1 a b r U) Z (lnT k) cl fl gl U1
noncomputable abbrev tR2 (b2 : Bool) (w : World) (k : Nat) : Out := lnO2 (tR1 cm fr c1 c2 a b r cl fl ec ef gl U U1 Z b2 w k) 17 (U.n + 13) Z (.ofNat k) t gl U2
noncomputable abbrev tC (U U2 : Un) : Cf := ⟨U2.n + 2, U2.n + 1, U2.n + 3, U2.n + 4, U.n⟩
noncomputable abbrev tR3 (b2 : Bool) (w : World) (k : Nat) : Out := lnO3 (tR2 cm fr c1 c2 a b r cl fl ec ef gl U U1 U2 Z t b2 w k) [22, 21, 23, 24] (tC U U2) (vals Z.tv 7 7) ov (dct [(hh, sWord, tt, xv)] 1) gl U3
theorem t_runs1 (b2 : Bool) (w : World) :
    tab (fun k => vS [17] (tR1 cm fr c1 c2 a b r cl fl ec ef gl U U1 Z b2 (fol b1 b2 w) k)) 15 =
    tab2 (fun k => vSR (.call (.ref 119) ⟨[.ref (U.n + 13 + 178), .str ⟨#[46]⟩ U1.tk], []⟩) 1 [(U.n + 13 + 178, lst (vals Z.tv 0 14) Z.et)] gl (tR1 cm fr c1 c2 a b r cl fl ec ef gl U U1 Z b2 (fol b1 b2 w) k)) 15 := by
  cases b1 <;> cases b2 <;> kernel_rfl
theorem t_runs2 (b2 : Bool) (w : World) :
    tab (fun k => vS [22, 21, 23, 24] (tR2 cm fr c1 c2 a b r cl fl ec ef gl U U1 U2 Z t b2 (fol b1 b2 w) k)) 15 =
    tab2 (fun k => vSR (liC (tC U U2)) 1 (cfE (tC U U2) (vals Z.tv 7 7) 0 [] (dct [] 0)) gl (tR2 cm fr c1 c2 a b r cl fl ec ef gl U U1 U2 Z t b2 (fol b1 b2 w) k)) 15 := by
  cases b1 <;> cases b2 <;> kernel_rfl
theorem t_runs3 (b2 : Bool) (w : World) :
    tab (fun k => vL [0, 1, 2, 3, 23] (tR3 cm fr c1 c2 a b r cl fl ec ef gl U U1 U2 U3 Z t ov hh tt xv b2 (fol b1 b2 w) k)) 15 =
    tab2 (fun k => vR (.ok (.ret (.ref (U2.n + 3 + 178)))) [(cm + 178, lst cl ec), (fr + 178, lst fl ef), (121, tab1 c1 c2), (c1 + 178, codeO a b r), (U2.n + 3 + 178, lst (vals ov 0 7) 7)] gl (tR3 cm fr c1 c2 a b r cl fl ec ef gl U U1 U2 U3 Z t ov hh tt xv b2 (fol b1 b2 w) k)) 15 := by
  cases b1 <;> cases b2 <;> kernel_rfl
end
end Mine
end
section
set_option maxRecDepth 100000
set_option maxHeartbeats 400000
namespace Mine
open PySem PySem.Spec PySem.Calls PyProof.Rows PySem.W PySem.W.X
noncomputable def lineW (come : List Wd) (free : List Bool) : List Wd := ((lineGo come free 14 0 []).drop 7).map bare
theorem lineGo_len (come : List Wd) (free : List Bool) : ∀ n i q, (lineGo come free n i q).length = n
  | 0, _, _ => rfl
  | n + 1, i, q => by
    show (_ :: _).length = n + 1
    rw [List.length_cons, lineGo_len come free n]
theorem cmp_word {lo u : Nat} {x : Wd × Nat} (hx : InT lo x.2) (hu : lo ≤ u) (h0 : 0 < u) : CmpOk (.str ⟨#[46]⟩ u) (wvv x) (decide (x.1 = .d)) := by
  obtain ⟨wd, t⟩ := x
  have ht : 0 < t := hx.1
  have hne : t ≠ u := Nat.ne_of_lt (Nat.lt_of_lt_of_le hx.2 hu)
  cases wd with
  | e => exact cmp_str ht h0 fun _ => hne
  | d => exact cmp_str ht h0 fun _ => hne
  | l c =>
    have e : ((⟨#[c + 97]⟩ : Str) == ⟨#[46]⟩) = decide (Wd.l c = .d) := by
      have h1 : decide (Wd.l c = .d) = false := by simp
      rw [h1, beq_eq_false_iff_ne]
      intro h
      injection h with h
      injection h with h
      injection h with h
      omega
    have z := cmp_str (y := ⟨#[c + 97]⟩) (z := ⟨#[46]⟩) ht h0 fun _ => hne
    rw [e] at z
    exact z
theorem cntT_words (l : List Wd) : cntT (l.map fun x => decide (x = .d)) = cntD l := by
  unfold cntT cntD
  rw [List.countP_map]
  congr 1
noncomputable abbrev LinePost (cm fr ec ef : Nat) (gl : List GenState) (come : List (Wd × Nat)) (free : List (Bool × Nat)) : Nat → Result → List (Nat × Obj) → List GenState → Prop :=
  fun tk' x E2 gl2 => ∃ (c1 c2 a b : Nat) (r : List Value) (acc : Nat) (out : List (Wd × Nat)), x = .ok (.ret (.ref (acc + 178))) ∧ gl2 = gl ∧
        E2 = [(cm + 178, lst (come.map wvv) ec), (fr + 178, lst (free.map bvv) ef), (121, tab1 c1 c2), (c1 + 178, codeO a b r), (acc + 178, lst (out.map wvv) 7)] ∧ out.map (·.1) = lineW (come.map (·.1)) (free.map (·.1)) ∧ ∀ x ∈ out, InT tk' x.2
noncomputable abbrev LinePostT (cm fr ec ef : Nat) (gl : List GenState) (come : List (Wd × Nat)) (free : List (Bool × Nat)) (c1 c2 a b : Nat) (r : List Value) : Nat → Result → List (Nat × Obj) → List GenState → Prop :=
  fun tk' x E2 gl2 => ∃ (acc : Nat) (out : List (Wd × Nat)), x = .ok (.ret (.ref (acc + 178))) ∧ gl2 = gl ∧
        E2 = [(cm + 178, lst (come.map wvv) ec), (fr + 178, lst (free.map bvv) ef), (121, tab1 c1 c2), (c1 + 178, codeO a b r), (acc + 178, lst (out.map wvv) 7)] ∧ out.map (·.1) = lineW (come.map (·.1)) (free.map (·.1)) ∧ ∀ x ∈ out, InT tk' x.2
/-- the line's way behind its start, o -/
theorem line_join {w : World} {A : Around} {R : Result → Shared → Prop} {d : Drawn} {os : OsState} {h : Heap} {E : List (Nat × Obj)} {tk lo : Nat} (o : Out) (F : Lf) (L : Lx) (i0 : List Nat) (i1 : Nat) (i3 iR : List Nat) (gl : List GenState) (nn : Nat) (t5 ta : Nat)
    (come : List (Wd × Nat)) (free : List (Bool × Nat)) (ER : List (Nat × Obj)) (hc : come.length = 7) (hf : free.length = 7) (hd : ∀ x ∈ come, x.1 ≠ .d) (bc : ∀ x ∈ come, InT lo x.2) (h0 : 0 < lo) (hlo : lo ≤ tk)
    (hA : A.handled = none) (hdep : Room A 130) (Pr : Pre (ktw w) h E) (l0 : i0.length = 15) (l3 : i3.length = 4) (n0 : i0.Nodup) (nd3 : i3.Nodup) (nR : iR.Nodup)
    (r0 : vS i0 o = vSR (lnFor F.it F.l) 1 (lnE F L (frm (frm4 F L.x) 4) 0 [] 0 (come.map wvv) (free.map bvv) t5 ta 1 0 (lst [] 0)) gl o)
    (r1 : ∀ U1 Z k, k < 15 → vS [i1] (lnO1 o i0 F L Z (lnT k) (come.map wvv) (free.map bvv) gl U1) = vSR (.call (.ref 119) ⟨[.ref (F.td + 178), .str ⟨#[46]⟩ U1.tk], []⟩) 1 [(F.td + 178, lst (vals Z.tv 0 14) Z.et)] gl (lnO1 o i0 F L Z (lnT k) (come.map wvv) (free.map bvv) gl U1))
    (r2 : ∀ U1 U2 Z t k, k < 15 → vS i3 (lnO2 (lnO1 o i0 F L Z (lnT k) (come.map wvv) (free.map bvv) gl U1) i1 F.td Z (.ofNat k) t gl U2) = vSR (liC (sC ⟨nn, tk, U2.P, U2.B⟩ U2)) 1 (cfE (sC ⟨nn, tk, U2.P, U2.B⟩ U2) (vals Z.tv 7 7) 0 [] (dct [] 0)) gl (lnO2 (lnO1 o i0 F L Z (lnT k) (come.map wvv) (free.map bvv) gl U1) i1 F.td Z (.ofNat k) t gl U2))
    (r3 : ∀ U1 U2 U3 Z t ov hh tt xv k, k < 15 → vL iR (lnO3 (lnO2 (lnO1 o i0 F L Z (lnT k) (come.map wvv) (free.map bvv) gl U1) i1 F.td Z (.ofNat k) t gl U2) i3 (sC ⟨nn, tk, U2.P, U2.B⟩ U2) (vals Z.tv 7 7) ov (dct [(hh, sWord, tt, xv)] 1) gl U3) =
      vR (.ok (.ret (.ref (U2.n + 3 + 178)))) (ER ++ [(U2.n + 3 + 178, lst (vals ov 0 7) 7)]) gl (lnO3 (lnO2 (lnO1 o i0 F L Z (lnT k) (come.map wvv) (free.map bvv) gl U1) i1 F.td Z (.ofNat k) t gl U2) i3 (sC ⟨nn, tk, U2.P, U2.B⟩ U2) (vals Z.tv 7 7) ov (dct [(hh, sWord, tt, xv)] 1) gl U3))
    (K : ∀ h' tk' (acc : Nat) (out : List (Wd × Nat)), tk ≤ tk' → Fra h h' E (ER ++ [(acc + 178, lst (out.map wvv) 7)]) → out.map (·.1) = lineW (come.map (·.1)) (free.map (·.1)) → (∀ x ∈ out, InT tk' x.2) → R (.ok (.ret (.ref (acc + 178)))) ⟨h', ⟨gl⟩, d, tk', os⟩) :
    SatX (vOf pw w A R) h (E.map (·.1)) d os tk o := by
  have C0 := ln_all F L gl come free hc hf hd 14 w lo 0 _ [] 0 t5 ta [] 0 rfl rfl (.inl ⟨rfl, rfl⟩) (Nat.le_refl _) (fun _ h => nomatch h) (fun _ h => nomatch h) bc
  refine sat_specT (D := 130) r0 (fun le => Nat.le_trans hlo le) C0 n0 (by decide) hA hdep Pr ?_ ?_
  · rintro _ _ _ _ ⟨told, fo, et, t5, ta, q, k, rfl, rfl, hl, hfo, hG, rfl, bt⟩
    exact ok_same _ _ rfl (by rw [l0]; rfl)
  rintro _ _ gl2 n2 tk2 le1 _ ⟨told, fo, et, t5, ta, q, k, rfl, e3, hl, hfo, hG, rfl, bt⟩ _ P2 B2
  rcases hfo with ⟨h, _⟩ | ⟨_, he, e, pm, te, rfl⟩
  · exact absurd h (by decide)
  rw [e3]
  have ev : vals (fun j => (told.map wvv).getD j .none) 0 14 = told.map wvv := by
    have := vals_of (told.map wvv) (fun j => (told.map wvv).getD j .none) 0 fun i _ => by rw [Nat.zero_add]
    rw [List.length_map, hl] at this
    exact this
  have hk : cntD (told.map (·.1)) < 15 := by have := cntD_le (told.map (·.1)); rw [List.length_map, hl] at this; omega
  have hG' : told.map (·.1) = lineGo (come.map (·.1)) (free.map (·.1)) 14 0 [] := hG
  rw [show ([] : List (Wd × Nat)).map (·.1) ++ lineGo (come.map (·.1)) (free.map (·.1)) 14 0 (([] : List (Nat × Nat)).map (·.1)) = told.map (·.1) from hG.symm]
  generalize hkk : cntD (told.map (·.1)) = kk at hk ⊢
  have q1 := r1 ⟨n2, tk2, P2, B2⟩ ⟨he, e, pm, te, et, fun j => (told.map wvv).getD j .none, t5, ta, .ofNat (posT kk), qO q k⟩ kk hk
  have q2 := fun U2 t => r2 ⟨n2, tk2, P2, B2⟩ U2 ⟨he, e, pm, te, et, fun j => (told.map wvv).getD j .none, t5, ta, .ofNat (posT kk), qO q k⟩ t kk hk
  have q3 := fun U2 U3 t ov hh tt xv => r3 ⟨n2, tk2, P2, B2⟩ U2 U3 ⟨he, e, pm, te, et, fun j => (told.map wvv).getD j .none, t5, ta, .ofNat (posT kk), qO q k⟩ t ov hh tt xv kk hk
  have eo : o.go (so o i0 (.ok .next) (lnE F L (frm5 F L.x he e (.int pm te)) 14 (told.map wvv) et (come.map wvv) (free.map bvv) t5 ta (lnT kk) (.ofNat (posT kk)) (qO q k)) n2 tk2 gl) P2 B2 =
      lnO1 o i0 F L ⟨he, e, pm, te, et, fun j => (told.map wvv).getD j .none, t5, ta, .ofNat (posT kk), qO q k⟩ (lnT kk) (come.map wvv) (free.map bvv) gl ⟨n2, tk2, P2, B2⟩ := by
    unfold lnO1 lnS
    dsimp only
    rw [ev]
  rw [eo]
  generalize lnO1 o i0 F L ⟨he, e, pm, te, et, fun j => (told.map wvv).getD j .none, t5, ta, .ofNat (posT kk), qO q k⟩ (lnT kk) (come.map wvv) (free.map bvv) gl ⟨n2, tk2, P2, B2⟩ = o1 at q1 q2 q3 ⊢
  dsimp only at q1 q2 q3
  have htk : 0 < tk2 := Nat.lt_of_lt_of_le h0 (Nat.le_trans hlo le1)
  have C1 := cnt_call w tk2 htk gl (F.td + 178) et (told.map wvv) (.str ⟨#[46]⟩ tk2) ((told.map (·.1)).map fun x => decide (x = .d)) (by simp) (fun i v β hv hb => by
    rw [List.getElem?_map] at hv
    rw [List.getElem?_map, List.getElem?_map] at hb
    cases q : told[i]? with
    | none => rw [q] at hv; cases hv
    | some x =>
      rw [q] at hv hb
      cases hv
      cases hb
      exact cmp_word (bt x (List.mem_of_getElem? q)) (Nat.le_refl _) htk)
  rw [cntT_words, hkk] at C1
  rw [ev] at q1
  refine sat_specT (D := 130) q1 id C1 (by simp) (by decide) hA hdep Pr ?_ ?_
  · rintro _ _ _ _ ⟨t, rfl, rfl, rfl, _⟩
    exact ok_same _ _ rfl rfl
  rintro _ _ gl3 n3 tk3 le2 _ ⟨t, rfl, rfl, e4, it⟩ _ P3 B3
  rw [e4]
  have q2' := q2 ⟨n3, tk3, P3, B3⟩ t
  have q3' := fun U3 ov hh tt xv => q3 ⟨n3, tk3, P3, B3⟩ U3 t ov hh tt xv
  have eo2 : o1.go (so o1 [i1] (.ok (.ret (.int (kk : Int) t))) [(F.td + 178, lst (told.map wvv) et)] n3 tk3 gl) P3 B3 =
      lnO2 o1 i1 F.td ⟨he, e, pm, te, et, fun j => (told.map wvv).getD j .none, t5, ta, .ofNat (posT kk), qO q k⟩ (.ofNat kk) t gl ⟨n3, tk3, P3, B3⟩ := by
    unfold lnO2
    dsimp only
    rw [ev]
    rfl
  rw [eo2]
  generalize lnO2 o1 i1 F.td ⟨he, e, pm, te, et, fun j => (told.map wvv).getD j .none, t5, ta, .ofNat (posT kk), qO q k⟩ (.ofNat kk) t gl ⟨n3, tk3, P3, B3⟩ = o2 at q2' q3' ⊢
  dsimp only at q2' q3'
  have e7 : vals (fun j => (told.map wvv).getD j .none) 7 7 = (told.drop 7).map wvv := by
    have := vals_of ((told.drop 7).map wvv) (fun j => (told.map wvv).getD j .none) 7 fun i _ => by simp [List.getD_eq_getElem?_getD]
    rw [List.length_map, List.length_drop, hl] at this
    exact this
  rw [e7] at q2'
  simp only [e7] at q3'
  have l7 : (told.drop 7).length = 7 := by rw [List.length_drop, hl]
  have C2 := li_all (sC ⟨nn, tk, P3, B3⟩ ⟨n3, tk3, P3, B3⟩) gl (told.drop 7) l7 7 w tk2 0 (dct [] 0) [] rfl rfl (.inl ⟨rfl, rfl⟩) (fun _ h => nomatch h) (fun x hx => bt x (List.mem_of_mem_drop hx))
  refine sat_specT (D := 130) q2' (fun le => Nat.le_trans le2 le) C2 nd3 (by decide) hA hdep Pr ?_ ?_
  · rintro _ _ _ _ ⟨out, hh, tt, xv, rfl, rfl, _, rfl, _⟩
    exact ok_same _ _ rfl (by rw [l3]; rfl)
  rintro _ _ gl4 n4 tk4 le3 _ ⟨out, hh, tt, xv, rfl, e5, ho, rfl, bo⟩ _ P4 B4
  rw [e5]
  have ho' : out.map (·.1) = (told.drop 7).map fun x => bare x.1 := ho
  have lo7 : out.length = 7 := by
    have := congrArg List.length ho'
    rw [List.length_map, List.length_map, l7] at this
    exact this
  have eov : vals (fun j => (out.map wvv).getD j .none) 0 7 = out.map wvv := by
    have := vals_of (out.map wvv) (fun j => (out.map wvv).getD j .none) 0 fun i _ => by rw [Nat.zero_add]
    rw [List.length_map, lo7] at this
    exact this
  have q4 := q3' ⟨n4, tk4, P4, B4⟩ (fun j => (out.map wvv).getD j .none) hh tt xv
  unfold lnO3 at q4
  dsimp only at q4
  rw [eov] at q4
  refine sat_retV q4 nR fun h' tk' le F' => K h' tk' (n3 + 3) out (by omega) F' ?_ fun x hx => (bo x hx).mono le
  rw [ho']
  unfold lineW
  rw [← hG', ← List.map_drop, List.map_map]
  rfl
section
variable (w : World) (lo : Nat) (h0 : 0 < lo) (gl : List GenState) (cm fr ec ef : Nat) (come : List (Wd × Nat)) (free : List (Bool × Nat)) (hc : come.length = 7) (hf : free.length = 7) (hd : ∀ x ∈ come, x.1 ≠ .d) (bc : ∀ x ∈ come, InT lo x.2)
include h0 hc hf hd bc
theorem line_S : SpcT w 130 lo (lineC cm fr) gl [(cm + 178, lst (come.map wvv) ec), (fr + 178, lst (free.map bvv) ef), (121, tab0)] (LinePost cm fr ec ef gl come free) := by
  refine spcT_fol fun b1 b2 => spcT_of spK 3000 (ocS b2) 3 rfl (by kernel_rfl) (by decide) fun A R h d tk os hA hdep Pr hlo K n P B => ?_
  refine line_join (sO0 b2 (fol b1 b2 w) cm fr (come.map wvv) (free.map bvv) ec ef gl ⟨n, tk, P, B⟩) (sF (fol b1 b2 w) cm fr ec ef ⟨n, tk, P, B⟩) (sL (fol b1 b2 w) (sO0 b2 (fol b1 b2 w) cm fr (come.map wvv) (free.map bvv) ec ef gl ⟨n, tk, P, B⟩) ⟨n, tk, P, B⟩)
    iS 28 [33, 32, 34, 35] [0, 1, 2, 14, 34] gl n (tk + 26) (tk + 5) come free [(cm + 178, lst (come.map wvv) ec), (fr + 178, lst (free.map bvv) ef), (121, tab1 (n + 11) (n + 18)), (n + 11 + 178, codeO (tk + 6) (tk + 7) (rOf (sO0 b2 (fol b1 b2 w) cm fr (come.map wvv) (free.map bvv) ec ef gl ⟨n, tk, P, B⟩) 14))]
    hc hf hd bc h0 hlo hA hdep Pr rfl rfl (by decide) (by decide) (by decide) (s_run0 b1 b2 w cm fr (come.map wvv) (free.map bvv) ec ef gl ⟨n, tk, P, B⟩)
    (fun U1 Z k hk => tab_get (s_runs1 b1 cm fr (come.map wvv) (free.map bvv) ec ef gl ⟨n, tk, P, B⟩ U1 Z b2 w) k hk)
    (fun U1 U2 Z t k hk => tab_get (s_runs2 b1 cm fr (come.map wvv) (free.map bvv) ec ef gl ⟨n, tk, P, B⟩ U1 U2 Z t b2 w) k hk)
    (fun U1 U2 U3 Z t ov hh tt xv k hk => tab_get (s_runs3 b1 cm fr (come.map wvv) (free.map bvv) ec ef gl ⟨n, tk, P, B⟩ U1 U2 U3 Z t ov hh tt xv b2 w) k hk) fun h' tk' acc out le F' e bo => ?_
  exact K _ _ _ _ _ le F' ⟨n + 11, n + 18, tk + 6, tk + 7, _, acc, out, rfl, rfl, rfl, e, bo⟩
theorem line_T (c1 c2 a b : Nat) (r : List Value) : SpcT w 130 lo (lineC cm fr) gl [(cm + 178, lst (come.map wvv) ec), (fr + 178, lst (free.map bvv) ef), (121, tab1 c1 c2), (c1 + 178, codeO a b r)] (LinePostT cm fr ec ef gl come free c1 c2 a b r) := by
  refine spcT_fol fun b1 b2 => spcT_of spK 3000 (ocT b2) 4 rfl (by kernel_rfl) (by decide) fun A R h d tk os hA hdep Pr hlo K n P B => ?_
  refine line_join (tO0 b2 (fol b1 b2 w) cm fr c1 c2 a b r (come.map wvv) (free.map bvv) ec ef gl ⟨n, tk, P, B⟩) (tF (fol b1 b2 w) cm fr ec ef ⟨n, tk, P, B⟩) (tL (fol b1 b2 w) (tO0 b2 (fol b1 b2 w) cm fr c1 c2 a b r (come.map wvv) (free.map bvv) ec ef gl ⟨n, tk, P, B⟩) c1 a b r ⟨n, tk, P, B⟩)
    iT 17 [22, 21, 23, 24] [0, 1, 2, 3, 23] gl n (tk + 12) (tk + 5) come free [(cm + 178, lst (come.map wvv) ec), (fr + 178, lst (free.map bvv) ef), (121, tab1 c1 c2), (c1 + 178, codeO a b r)]
    hc hf hd bc h0 hlo hA hdep Pr rfl rfl (by decide) (by decide) (by decide) (t_run0 b1 b2 w cm fr c1 c2 a b r (come.map wvv) (free.map bvv) ec ef gl ⟨n, tk, P, B⟩)
    (fun U1 Z k hk => tab_get (t_runs1 b1 cm fr c1 c2 a b r (come.map wvv) (free.map bvv) ec ef gl ⟨n, tk, P, B⟩ U1 Z b2 w) k hk)
    (fun U1 U2 Z t k hk => tab_get (t_runs2 b1 cm fr c1 c2 a b r (come.map wvv) (free.map bvv) ec ef gl ⟨n, tk, P, B⟩ U1 U2 Z t b2 w) k hk)
    (fun U1 U2 U3 Z t ov hh tt xv k hk => tab_get (t_runs3 b1 cm fr c1 c2 a b r (come.map wvv) (free.map bvv) ec ef gl ⟨n, tk, P, B⟩ U1 U2 U3 Z t ov hh tt xv b2 w) k hk) fun h' tk' acc out le F' e bo => ?_
  exact K _ _ _ _ _ le F' ⟨acc, out, rfl, rfl, rfl, e, bo⟩
end
end Mine
end
section
set_option maxRecDepth 100000
set_option maxHeartbeats 400000
namespace Mine
open PySem PySem.Spec PySem.Calls PyProof.Rows PySem.W PySem.W.X
section
variable (b1 b2 : Bool) (w : World) (Q : Pq) (U5 : Un) (V : Rv) (mv : Value) (og : Obj) (zv : Nat → Value)
noncomputable abbrev qO5 (b2 : Bool) (w : World) (Q : Pq) (s : Nat) (ov : Int) (m : Nat) (U5 : Un) (V : Rv) (mv : Value) (og : Obj) (zv : Nat → Value) : Out :=
  pa4 (qO4 b2 w Q s ov m) (qF w Q) (qX w Q) (prLF (qF w Q) (qX w Q) V s mv) (vals Q.fv 0 7) Q.lf og (vals zv 0 7) Q.gl U5
theorem pa_runs4 :
    tab (fun i => (vS paL (qO4 b2 (fol b1 b2 w) Q (tri i).1 (.ofNat (tri i).2.2) (tri i).2.1), vL [0, 1, 14] (qO5 b2 (fol b1 b2 w) Q (tri i).1 (.ofNat (tri i).2.2) (tri i).2.1 U5 V mv og zv))) 37 =
    tab2 (fun i => (vSR (prLC (Q.U4.n + 7) Q.U.n) 1 (prLE (qF (fol b1 b2 w) Q) (qX (fol b1 b2 w) Q) (qlo (fol b1 b2 w) Q (tri i).1 (.ofNat (tri i).2.2)) 0 (vals Q.fv 0 7) Q.lf (lst (rotL Q.gv (tri i).2.1 (tri i).2.2) 0) []) Q.gl (qO4 b2 (fol b1 b2 w) Q (tri i).1 (.ofNat (tri i).2.2) (tri i).2.1),
      vR (.ok (.ret (.ref (Q.U4.n + 5 + 178)))) [(Q.cm + 178, lst Q.cl Q.ec), (Q.fr + 178, lst (vals Q.fv 0 7) Q.ef), (Q.U4.n + 5 + 178, lst (vals zv 0 7) 7)] Q.gl (qO5 b2 (fol b1 b2 w) Q (tri i).1 (.ofNat (tri i).2.2) (tri i).2.1 U5 V mv og zv))) 37 := by
  cases b1 <;> cases b2 <;> kernel_rfl
end
end Mine
end
section
namespace Mine
/-! plain facts of parking -/
noncomputable def cntB (l : List Bool) : Nat := l.countP id
theorem getD_set (l : List Bool) (i j : Nat) (b : Bool) (hi : i < l.length) : (l.set i b).getD j false = if i = j then b else l.getD j false := by
  simp only [List.getD_eq_getElem?_getD, List.getElem?_set]
  by_cases h : i = j
  · subst h; simp [hi]
  · simp [h]
theorem parkIn_le (left : List Bool) (h7 : left.length = 7) : ∀ n p j, (parkIn left p n).1.getD j false = true → left.getD j false = true
  | 0, _, _, h => h
  | n + 1, p, j, h => by
    unfold parkIn at h
    by_cases q : left.getD (p % 7) false = true
    · rw [if_pos q] at h
      dsimp only at h
      rw [getD_set left (p % 7) j false (by omega)] at h
      by_cases e : p % 7 = j
      · rw [if_pos e] at h; cases h
      · rw [if_neg e] at h; exact h
    · rw [if_neg q] at h
      exact parkIn_le left h7 n (p + 1) j h
theorem parkIn_add (left : List Bool) : ∀ n p, p + n ≤ 14 → (parkIn left p n).2 ≤ 1
  | 0, _, _ => Nat.zero_le _
  | n + 1, p, h => by
    unfold parkIn
    split
    · show p / 7 ≤ 1; omega
    · exact parkIn_add left n (p + 1) (by omega)
theorem pops_set (free left : List Bool) (h7 : left.length = 7) (i : Nat) (hi : i < 7) (ht : left.getD i false = true) : ∀ n j, pops free (left.set i false) n j ≤ pops free left n j + (if j ≤ i ∧ i < j + n then 1 else 0)
  | 0, _ => by unfold pops; omega
  | n + 1, j => by
    unfold pops
    have ih := pops_set free left h7 i hi ht n (j + 1)
    by_cases e : i = j
    · subst e
      rw [if_neg (show ¬ (i + 1 ≤ i ∧ i < i + 1 + n) from by omega)] at ih
      rw [if_pos (show i ≤ i ∧ i < i + (n + 1) from by omega)]
      have h1 : (if took free (left.set i false) i = true then 1 else 0) ≤ 1 := by split <;> omega
      omega
    · have h2 : took free (left.set i false) j = took free left j := by
        unfold took
        rw [getD_set left i j false (by omega), if_neg e]
      rw [h2]
      by_cases h3 : j + 1 ≤ i ∧ i < j + 1 + n
      · rw [if_pos h3] at ih
        rw [if_pos (show j ≤ i ∧ i < j + (n + 1) from by omega)]
        omega
      · rw [if_neg h3] at ih
        rw [if_neg (show ¬ (j ≤ i ∧ i < j + (n + 1)) from by omega)]
        omega
theorem pops_parkIn (free left : List Bool) (h7 : left.length = 7) : ∀ n p, pops free (parkIn left p n).1 7 0 ≤ pops free left 7 0 + 1
  | 0, _ => Nat.le_succ _
  | n + 1, p => by
    unfold parkIn
    by_cases q : left.getD (p % 7) false = true
    · rw [if_pos q]
      have := pops_set free left h7 (p % 7) (Nat.mod_lt _ (by decide)) q 7 0
      have h1 : (if 0 ≤ p % 7 ∧ p % 7 < 0 + 7 then 1 else 0) ≤ 1 := by split <;> omega
      dsimp only
      omega
    · rw [if_neg q]
      exact pops_parkIn free left h7 n (p + 1)
/-- words below minute n -/
noncomputable def wordsTo (come : List Wd) : Nat → Nat
  | 0 => 0
  | n + 1 => wordsTo come n + if come.getD n .e = .e then 0 else 1
theorem parkOut_facts (come : List Wd) (free : List Bool) : ∀ n (st : List Bool × Nat), n ≤ 7 → st.1.length = 7 →
    (parkOut come n st).1.length = 7 ∧ (∀ j, (parkOut come n st).1.getD j false = true → st.1.getD j false = true) ∧ (parkOut come n st).2 ≤ st.2 + wordsTo come n ∧ pops free (parkOut come n st).1 7 0 ≤ pops free st.1 7 0 + wordsTo come n
  | 0, st, _, h7 => ⟨h7, fun _ h => h, Nat.le_refl _, Nat.le_refl _⟩
  | n + 1, st, hn, h7 => by
    unfold parkOut wordsTo
    by_cases e : come.getD n .e = .e
    · rw [if_pos e, if_pos e]
      exact parkOut_facts come free n st (by omega) h7
    · rw [if_neg e, if_neg e]
      have l7 : (parkIn st.1 n 7).1.length = 7 := by rw [parkIn_len]; exact h7
      obtain ⟨a1, a2, a3, a4⟩ := parkOut_facts come free n ((parkIn st.1 n 7).1, st.2 + (parkIn st.1 n 7).2) (by omega) l7
      have b1 := parkIn_add st.1 7 n (by omega)
      have b2 := pops_parkIn free st.1 h7 7 n
      dsimp only at a3 a4
      exact ⟨a1, fun j h => parkIn_le st.1 h7 7 n j (a2 j h), by omega, by omega⟩
theorem pops_self (l : List Bool) : ∀ n j, pops l l n j = 0
  | 0, _ => rfl
  | n + 1, j => by
    unfold pops
    have : took l l j = false := by unfold took; cases l.getD j false <;> rfl
    rw [this, pops_self l n (j + 1)]
    rfl
theorem wordsTo_take (l : List Wd) : ∀ n, n ≤ l.length → wordsTo l n = (l.take n).countP nonE
  | 0, _ => rfl
  | n + 1, h => by
    have hn : n < l.length := h
    rw [List.take_succ_eq_append_getElem hn, List.countP_append, ← wordsTo_take l n (Nat.le_of_lt hn)]
    have e : l.getD n .e = l[n] := by rw [List.getD_eq_getElem?_getD, List.getElem?_eq_getElem hn]; rfl
    show wordsTo l n + (if l.getD n .e = .e then 0 else 1) = _
    rw [e]
    cases l[n] <;> rfl
theorem words_filter (come : List (Wd × Nat)) (h7 : come.length = 7) : (come.filter isW).length = wordsTo (come.map (·.1)) 7 := by
  rw [wordsTo_take _ 7 (by rw [List.length_map, h7]; exact Nat.le_refl _), List.take_of_length_le (by rw [List.length_map, h7]; exact Nat.le_refl _), List.countP_map, List.countP_eq_length_filter]
  rfl
end Mine
end
section
set_option genInjectivity false
set_option maxRecDepth 100000
set_option maxHeartbeats 400000
namespace Mine
open PySem PySem.Spec PySem.Calls PyProof.Rows PySem.W PySem.W.X
theorem pa_full (b1 b2 : Bool) (w : World) (Q : Pq) : fullGo (qO0 b2 (fol b1 b2 w) Q).st.T (qO0 b2 (fol b1 b2 w) Q).st.m = true := by
  cases b1 <;> cases b2 <;> kernel_rfl
theorem filter_isW (come : List (Wd × Nat)) : (come.filter isW).map (·.1) = (come.map (·.1)).filter nonE := by
  rw [List.filter_map]; rfl
/-- the guests, in the order in which they go -/
noncomputable def rotW (gs : List Wd) (ov : Nat) : List Wd := gs.drop (gs.length - ov) ++ gs.take (gs.length - ov)
noncomputable def parkedW (come : List Wd) (free : List Bool) : List Wd :=
  goneGo free (parkOut come 7 (free, 0)).1 7 0 (rotW (come.filter nonE) (parkOut come 7 (free, 0)).2)
theorem rotL_map (gs : List (Wd × Nat)) (ov : Nat) (h : ov ≤ gs.length) : rotL (fun j => (gs.map wvv).getD j .none) gs.length ov = ((gs.drop (gs.length - ov)) ++ gs.take (gs.length - ov)).map wvv := by
  unfold rotL
  have e1 := vals_of ((gs.drop (gs.length - ov)).map wvv) (fun j => (gs.map wvv).getD j .none) (gs.length - ov) fun i _ => by simp [List.getD_eq_getElem?_getD]
  rw [List.length_map, List.length_drop, Nat.sub_sub_self h] at e1
  have e2 := vals_of ((gs.take (gs.length - ov)).map wvv) (fun j => (gs.map wvv).getD j .none) 0 fun i hi => by
    rw [List.length_map, List.length_take] at hi
    have h1 : i < gs.length := Nat.lt_of_lt_of_le hi (Nat.min_le_right _ _)
    have h2 : i < gs.length - ov := Nat.lt_of_lt_of_le hi (Nat.min_le_left _ _)
    simp [List.getD_eq_getElem?_getD, h2, h1]
  rw [List.length_map, List.length_take, Nat.min_eq_left (Nat.sub_le gs.length ov)] at e2
  rw [e1, e2, List.map_append]
theorem tri_at (s m ov : Nat) (hs : s = 1 ∨ s = 2) (hm : m ≤ 7) (ho : ov ≤ m) (h1 : s = 1 → m = 0) : ∃ i, i < 37 ∧ tri i = (s, m, ov) := by
  have all : ∀ s : Fin 3, ∀ m : Fin 8, ∀ ov : Fin 8, (s.1 = 1 ∨ s.1 = 2) → ov.1 ≤ m.1 → (s.1 = 1 → m.1 = 0) → ∃ i : Fin 37, tri i.1 = (s.1, m.1, ov.1) := by decide +kernel
  obtain ⟨i, e⟩ := all ⟨s, by omega⟩ ⟨m, by omega⟩ ⟨ov, by omega⟩ hs ho h1
  exact ⟨i.1, i.2, e⟩
noncomputable abbrev ParPost (cm fr ec ef : Nat) (gl : List GenState) (come : List (Wd × Nat)) (free : List (Bool × Nat)) : Nat → Result → List (Nat × Obj) → List GenState → Prop := fun tk' x E2 gl2 =>
  ∃ (acc : Nat) (out : List (Wd × Nat)), x = .ok (.ret (.ref (acc + 178))) ∧ gl2 = gl ∧ E2 = [(cm + 178, lst (come.map wvv) ec), (fr + 178, lst (free.map bvv) ef), (acc + 178, lst (out.map wvv) 7)] ∧ out.map (·.1) = parkedW (come.map (·.1)) (free.map (·.1)) ∧ ∀ x ∈ out, InT tk' x.2
theorem goneGo_len (f l : List Bool) : ∀ n j gs, (goneGo f l n j gs).length = n
  | 0, _, _ => rfl
  | n + 1, j, gs => by
    unfold goneGo
    split <;> rw [List.length_cons, goneGo_len]
/-- what is known at a stage of _law_parked, in plain words -/
structure Pp where
  st : Nat
  cm : Nat
  fr : Nat
  ec : Nat
  ef : Nat
  come : List (Wd × Nat)
  free : List (Bool × Nat)
  gl : List GenState
  y : Nat
  c : Nat
  left : List (Bool × Nat)
  N : Rn
  to : Nat
  mv : Value
  pv : Value
  U : Un
  U1 : Un
  U2 : Un
  U3 : Un
  U4 : Un
  hh : Int
  tt : Nat
  xv : Value
noncomputable def Pp.q (Q : Pp) : Pq := ⟨Q.cm, Q.fr, Q.ec, Q.ef, Q.come.map wvv, fun j => (Q.free.map bvv).getD j .none, Q.gl, Q.y, Q.c, Q.left.map bvv, Q.N, Q.to, Q.mv, Q.pv, Q.U, Q.U1, Q.U2, Q.U3, Q.U4, fun j => ((Q.come.filter isW).map wvv).getD j .none, Q.hh, Q.tt, Q.xv⟩
structure PaC (come : List (Wd × Nat)) (free : List (Bool × Nat)) (lo : Nat) : Prop where
  hc : come.length = 7
  hf : free.length = 7
  hd : ∀ x ∈ come, x.1 ≠ .d
  bc : ∀ x ∈ come, InT lo x.2
structure PaX (w : World) (A : Around) (R : Result → Shared → Prop) (h : Heap) (d : Drawn) (os : OsState) (cm fr ec ef lo : Nat) (come : List (Wd × Nat)) (free : List (Bool × Nat)) (gl : List GenState) : Prop where
  hA : A.handled = none
  hdep : Room A 130
  Pr : Pre (ktw w) h [(cm + 178, lst (come.map wvv) ec), (fr + 178, lst (free.map bvv) ef)]
  K : ∀ h' y (gone : List (Wd × Nat)) tk', lo ≤ tk' → Fra h h' [(cm + 178, lst (come.map wvv) ec), (fr + 178, lst (free.map bvv) ef)] [(cm + 178, lst (come.map wvv) ec), (fr + 178, lst (free.map bvv) ef), (y + 178, lst (gone.map wvv) 7)] →
    gone.map (fun p : Wd × Nat => p.1) = parkedW (come.map (fun p : Wd × Nat => p.1)) (free.map (fun p : Bool × Nat => p.1)) → (∀ x ∈ gone, InT tk' x.2) → R (.ok (.ret (.ref (y + 178)))) ⟨h', ⟨gl⟩, d, tk', os⟩
noncomputable abbrev parkO (come : List (Wd × Nat)) (free : List (Bool × Nat)) : List Bool × Nat := parkOut (come.map (fun p : Wd × Nat => p.1)) 7 (free.map (fun p : Bool × Nat => p.1), 0)
/-- what the parking leaves, in numbers -/
structure PaF (come : List (Wd × Nat)) (free left : List (Bool × Nat)) (s ov : Nat) : Prop where
  hs : s = 1 ∨ s = 2
  hs1 : s = 1 → come.filter isW = []
  hleft : left.map (fun p : Bool × Nat => p.1) = (parkO come free).1
  hov : (parkO come free).2 = ov
theorem PaF.len {come : List (Wd × Nat)} {free left : List (Bool × Nat)} {s ov lo : Nat} (F : PaF come free left s ov) (C : PaC come free lo) : left.length = 7 ∧ (come.filter isW).length ≤ 7 ∧ ov ≤ (come.filter isW).length ∧ pops (free.map (fun p : Bool × Nat => p.1)) (left.map (fun p : Bool × Nat => p.1)) 7 0 ≤ (come.filter isW).length ∧
    (∀ j, (left.map (fun p : Bool × Nat => p.1)).getD j false = true → (free.map (fun p : Bool × Nat => p.1)).getD j false = true) := by
  have fa := parkOut_facts (come.map (fun p : Wd × Nat => p.1)) (free.map (fun p : Bool × Nat => p.1)) 7 (free.map (fun p : Bool × Nat => p.1), 0) (Nat.le_refl _) (by rw [List.length_map]; exact C.hf)
  have hgl : (come.filter isW).length = wordsTo (come.map (fun p : Wd × Nat => p.1)) 7 := words_filter come C.hc
  have hleft := F.hleft
  have hov := F.hov
  refine ⟨?_, Nat.le_trans (List.length_filter_le _ _) (Nat.le_of_eq C.hc), ?_, ?_, ?_⟩
  · have := congrArg List.length hleft
    rw [List.length_map] at this
    exact this.trans fa.1
  · have := fa.2.2.1
    rw [hgl, ← hov]
    exact Nat.le_trans this (Nat.le_of_eq (Nat.zero_add _))
  · have h1 := fa.2.2.2
    rw [pops_self, Nat.zero_add] at h1
    rw [hleft, hgl]
    exact h1
  · rw [hleft]
    exact fa.2.1
section
variable {b1 b2 : Bool} {w : World} {A : Around} {R : Result → Shared → Prop} {h : Heap} {d : Drawn} {os : OsState} {lo : Nat}
theorem pa_s5 (Q : Pp) (X : PaX (fol b1 b2 w) A R h d os Q.cm Q.fr Q.ec Q.ef Q.U.tk Q.come Q.free Q.gl) (C : PaC Q.come Q.free lo) (i : Nat) (hi : i < 37) (U5 : Un) (V : Rv) (mv : Value) (gq : List (Wd × Nat)) (k : Nat) (gone : List (Wd × Nat)) (l7 : gone.length = 7)
    (le : Q.U.tk ≤ U5.tk) (hg : gone.map (fun p : Wd × Nat => p.1) = parkedW (Q.come.map (fun p : Wd × Nat => p.1)) (Q.free.map (fun p : Bool × Nat => p.1))) (bg : ∀ x ∈ gone, InT U5.tk x.2) :
    SatX (vOf pw (fol b1 b2 w) A R) h ([(Q.cm + 178, lst (Q.come.map wvv) Q.ec), (Q.fr + 178, lst (Q.free.map bvv) Q.ef)].map (·.1)) d os U5.tk (qO5 b2 (fol b1 b2 w) Q.q (tri i).1 (.ofNat (tri i).2.2) (tri i).2.1 U5 V mv (lst (gq.map wvv) k) (fun j => (gone.map wvv).getD j .none)) := by
  have r := (Prod.mk.inj (tab_get (pa_runs4 b1 b2 w Q.q U5 V mv (lst (gq.map wvv) k) (fun j => (gone.map wvv).getD j .none)) i hi)).2
  have ev : vals Q.q.fv 0 7 = Q.free.map bvv := vals_map Q.free bvv C.hf
  refine sat_retV r (by decide) fun h' tk' le' F' => ?_
  rw [ev, vals_map gone wvv l7] at F'
  exact X.K h' (Q.U4.n + 5) gone _ (Nat.le_trans le le') F' hg fun x hx => (bg x hx).mono le'
theorem pa_s4 (Q : Pp) (X : PaX (fol b1 b2 w) A R h d os Q.cm Q.fr Q.ec Q.ef Q.U.tk Q.come Q.free Q.gl) (C : PaC Q.come Q.free lo) (i : Nat) (hi : i < 37) (F : PaF Q.come Q.free Q.left (tri i).1 (tri i).2.2) (hm : (tri i).2.1 = (Q.come.filter isW).length) (hlo : lo ≤ Q.U.tk) (le : Q.U.tk ≤ Q.U4.tk) :
    SatX (vOf pw (fol b1 b2 w) A R) h ([(Q.cm + 178, lst (Q.come.map wvv) Q.ec), (Q.fr + 178, lst (Q.free.map bvv) Q.ef)].map (·.1)) d os Q.U4.tk (qO4 b2 (fol b1 b2 w) Q.q (tri i).1 (.ofNat (tri i).2.2) (tri i).2.1) := by
  have r := (Prod.mk.inj (tab_get (pa_runs4 b1 b2 w Q.q Q.U4 ⟨0, 0, Q.U.P, Q.U.B, 0, 0, Q.N, Q.mv, Q.pv, fun _ => .none, fun _ => .none, fun _ => 0⟩ .none (lst [] 0) (fun _ => .none)) i hi)).1
  have ev : vals Q.q.fv 0 7 = Q.free.map bvv := vals_map Q.free bvv C.hf
  obtain ⟨hll, hg7, hov2, hpl, hlr⟩ := F.len C
  have er : rotL Q.q.gv (tri i).2.1 (tri i).2.2 = ((Q.come.filter isW).drop ((Q.come.filter isW).length - (tri i).2.2) ++ (Q.come.filter isW).take ((Q.come.filter isW).length - (tri i).2.2)).map wvv := by
    rw [hm]; exact rotL_map (Q.come.filter isW) (tri i).2.2 hov2
  have hgr : rotW ((Q.come.map (fun p : Wd × Nat => p.1)).filter nonE) (tri i).2.2 = ((Q.come.filter isW).drop ((Q.come.filter isW).length - (tri i).2.2) ++ (Q.come.filter isW).take ((Q.come.filter isW).length - (tri i).2.2)).map (fun p : Wd × Nat => p.1) := by
    unfold rotW
    rw [← filter_isW, List.map_append, List.map_drop, List.map_take, List.length_map]
  have hgrl : ((Q.come.filter isW).drop ((Q.come.filter isW).length - (tri i).2.2) ++ (Q.come.filter isW).take ((Q.come.filter isW).length - (tri i).2.2)).length = (Q.come.filter isW).length := by
    rw [List.length_append, List.length_drop, List.length_take]
    omega
  have hgrm : ∀ x ∈ (Q.come.filter isW).drop ((Q.come.filter isW).length - (tri i).2.2) ++ (Q.come.filter isW).take ((Q.come.filter isW).length - (tri i).2.2), x ∈ Q.come := fun x hx => by
    rcases List.mem_append.mp hx with hx | hx
    · exact (List.mem_filter.mp (List.mem_of_mem_drop hx)).1
    · exact (List.mem_filter.mp (List.mem_of_mem_take hx)).1
  rw [ev, er] at r
  generalize (Q.come.filter isW).drop ((Q.come.filter isW).length - (tri i).2.2) ++ (Q.come.filter isW).take ((Q.come.filter isW).length - (tri i).2.2) = gr at r hgr hgrl hgrm
  refine sat_nx (D := 130) r (pr_last (qF (fol b1 b2 w) Q.q) (qX (fol b1 b2 w) Q.q) (tri i).1 F.hs Q.gl Q.free Q.left C.hf hll (fun j _ h => hlr j h) gr (by omega) (by omega) (fun h => List.length_eq_zero_iff.mp (by rw [hgrl, F.hs1 h]; rfl))
    ⟨0, 0, Q.U.P, Q.U.B, .ofNat (tri i).2.2, Q.to, Q.N, Q.mv, Q.pv, fun _ => .none, fun _ => .none, fun _ => 0⟩ Q.mv 0 (fol b1 b2 w) lo (fun x hx => C.bc x (hgrm x hx))) (by omega) (by decide) (by decide) X.hA X.hdep X.Pr ?_ ?_ ?_
  · rintro _ _ _ _ ⟨_, _, _, _, _, _, hgl, _⟩
    exact hgl
  · rintro _ _ _ ⟨gone, gq, k, V, mv', rfl, _, _, _, rfl⟩
    exact ok_same _ _ rfl rfl
  rintro _ _ U5 le5 ⟨gone, gq, k, V, mv', rfl, _, hgone, bgone, rfl⟩ _
  have l7 : gone.length = 7 := by
    have := congrArg List.length hgone
    rw [List.length_map, goneGo_len] at this
    exact this
  rw [← ev, ← vals_map gone wvv l7]
  refine pa_s5 Q X C i hi U5 V mv' gq k gone l7 (by omega) ?_ bgone
  rw [hgone, F.hleft]
  unfold parkedW
  rw [F.hov, hgr]
theorem pa_s3 (Q : Pp) (X : PaX (fol b1 b2 w) A R h d os Q.cm Q.fr Q.ec Q.ef Q.U.tk Q.come Q.free Q.gl) (C : PaC Q.come Q.free lo) (s ov : Nat) (F : PaF Q.come Q.free Q.left s ov) (hlo : lo ≤ Q.U.tk) (le : Q.U.tk ≤ Q.U3.tk) :
    SatX (vOf pw (fol b1 b2 w) A R) h ([(Q.cm + 178, lst (Q.come.map wvv) Q.ec), (Q.fr + 178, lst (Q.free.map bvv) Q.ef)].map (·.1)) d os Q.U3.tk (qO3 b2 (fol b1 b2 w) Q.q s (.ofNat ov)) := by
  have r : vS paG (qO3 b2 (fol b1 b2 w) Q.q s (.ofNat ov)) = vSR (guC (qC Q.q)) 1 (guE (qC Q.q) (itO (.ref (Q.cm + 178)) 0) (Q.come.map wvv) Q.ec [] 0 (dct [] 0)) Q.gl (qO3 b2 (fol b1 b2 w) Q.q s (.ofNat ov)) := by
    have z := (pa_runs0 b1 b2 w Q.q).2.2.2
    rcases F.hs with rfl | rfl
    · exact z.1 (.ofNat ov)
    · exact z.2 (.ofNat ov)
  obtain ⟨_, hg7, hov2, _, _⟩ := F.len C
  obtain ⟨i, hi, hti⟩ := tri_at s (Q.come.filter isW).length ov F.hs hg7 hov2 fun h => by rw [F.hs1 h]; rfl
  have e1 : (tri i).1 = s := congrArg (·.1) hti
  have e2 : (tri i).2.2 = ov := congrArg (·.2.2) hti
  have e3 : (tri i).2.1 = (Q.come.filter isW).length := congrArg (·.2.1) hti
  refine sat_nx (D := 130) r (gu_loop (qC Q.q) Q.gl Q.come C.hc C.hd Q.ec (fol b1 b2 w) 0) (Nat.zero_le _) (by decide) (by decide) X.hA X.hdep X.Pr ?_ ?_ ?_
  · rintro _ _ _ _ ⟨_, _, _, _, hgl, _⟩
    exact hgl
  · rintro _ _ _ ⟨hh, tt, xv, rfl, _, rfl⟩
    exact ok_same _ _ rfl rfl
  rintro _ _ U4 le4 ⟨hh, tt, xv, rfl, _, rfl⟩ _
  subst e1 e2
  rw [List.length_map, ← e3, ← vals_map (Q.come.filter isW) wvv e3.symm]
  exact pa_s4 { Q with st := 4, U4 := U4, hh := hh, tt := tt, xv := xv } X C i hi F e3 hlo (Nat.le_trans le le4)
theorem pa_s2 (Q : Pp) (X : PaX (fol b1 b2 w) A R h d os Q.cm Q.fr Q.ec Q.ef Q.U.tk Q.come Q.free Q.gl) (C : PaC Q.come Q.free lo) (hlo : lo ≤ Q.U.tk) (le : Q.U.tk ≤ Q.U2.tk) :
    SatX (vOf pw (fol b1 b2 w) A R) h ([(Q.cm + 178, lst (Q.come.map wvv) Q.ec), (Q.fr + 178, lst (Q.free.map bvv) Q.ef)].map (·.1)) d os Q.U2.tk (qO2 b2 (fol b1 b2 w) Q.q) := by
  have r := (pa_runs0 b1 b2 w Q.q).2.2.1
  have ev : vals Q.q.fv 0 7 = Q.free.map bvv := vals_map Q.free bvv C.hf
  rw [ev] at r
  refine sat_nx (D := 130) r (pr_outer (qF (fol b1 b2 w) Q.q) (Q.U2.n + 1) Q.U2.n Q.ec Q.c (fun k => Q.U2.tk + 3 + k) Q.gl Q.come C.hc C.hd Q.free C.hf (Q.U2.tk + 1) (fol b1 b2 w) 0) (Nat.zero_le _) (by decide) (by decide) X.hA X.hdep X.Pr ?_ ?_ ?_
  · rintro _ _ _ _ ⟨_, _, _, hgl, _⟩
    exact hgl
  · rintro _ _ _ ⟨left, fo, rfl, _, _, _, rfl⟩
    exact ok_same _ _ rfl rfl
  rintro _ _ U3 le3 ⟨left, fo, rfl, _, hleft, ⟨to, N, mv, hfo⟩, rfl⟩ _
  rcases hfo with ⟨hall, rfl⟩ | ⟨pv, rfl⟩
  · refine pa_s3 { Q with st := 3, left := left, N := N, to := to, mv := mv, pv := .none, U3 := U3 } X C 1 (parkO Q.come Q.free).2 ⟨.inl rfl, fun _ => ?_, hleft, rfl⟩ hlo (Nat.le_trans le le3)
    rw [List.filter_eq_nil_iff]
    intro x hx
    obtain ⟨i, hi, ei⟩ := List.getElem_of_mem hx
    have := hall i (Nat.lt_of_lt_of_le hi (Nat.le_of_eq C.hc))
    simp [List.getD_eq_getElem?_getD, hi] at this
    rw [ei] at this
    unfold isW
    rw [this]
    simp
  · exact pa_s3 { Q with st := 3, left := left, N := N, to := to, mv := mv, pv := pv, U3 := U3 } X C 2 (parkO Q.come Q.free).2 ⟨.inr rfl, (fun h => absurd h (by decide)), hleft, rfl⟩ hlo (Nat.le_trans le le3)
theorem pa_s1 (Q : Pp) (X : PaX (fol b1 b2 w) A R h d os Q.cm Q.fr Q.ec Q.ef Q.U.tk Q.come Q.free Q.gl) (C : PaC Q.come Q.free lo) (hlo : lo ≤ Q.U.tk) (le : Q.U.tk ≤ Q.U1.tk) :
    SatX (vOf pw (fol b1 b2 w) A R) h ([(Q.cm + 178, lst (Q.come.map wvv) Q.ec), (Q.fr + 178, lst (Q.free.map bvv) Q.ef)].map (·.1)) d os Q.U1.tk (qO1 b2 (fol b1 b2 w) Q.q) := by
  have r := (pa_runs0 b1 b2 w Q.q).2.1
  refine sat_nx (D := 130) r (list_init_spec (fol b1 b2 w) 0 Q.gl (Q.y + 178) (Q.fr + 178) (vals Q.q.fv 0 7) Q.ef (Nat.le_of_ble_eq_true rfl)) (Nat.zero_le _) (by decide) (by decide) X.hA X.hdep X.Pr ?_ ?_ ?_
  · rintro _ _ _ _ ⟨_, _, _, hgl⟩
    exact hgl
  · rintro _ _ _ ⟨c, rfl, rfl, _⟩
    exact ok_same _ _ rfl rfl
  rintro _ _ U2 le2 ⟨c, rfl, rfl, _⟩ _
  exact pa_s2 { Q with st := 2, c := c, U2 := U2 } X C hlo (Nat.le_trans le le2)
theorem pa_s0 (Q : Pp) (X : PaX (fol b1 b2 w) A R h d os Q.cm Q.fr Q.ec Q.ef Q.U.tk Q.come Q.free Q.gl) (C : PaC Q.come Q.free lo) (hlo : lo ≤ Q.U.tk) :
    SatX (vOf pw (fol b1 b2 w) A R) h ([(Q.cm + 178, lst (Q.come.map wvv) Q.ec), (Q.fr + 178, lst (Q.free.map bvv) Q.ef)].map (·.1)) d os Q.U.tk (qO0 b2 (fol b1 b2 w) Q.q) := by
  refine sat_nx (D := 130) (pa_runs0 b1 b2 w Q.q).1 (list_new_spec (fol b1 b2 w) 0 Q.gl (.ref (Q.fr + 178))) (Nat.zero_le _) (by decide) (by decide) X.hA X.hdep X.Pr ?_ ?_ ?_
  · rintro _ _ _ _ ⟨_, _, _, hgl⟩
    exact hgl
  · rintro _ _ _ ⟨x, rfl, rfl, _⟩
    exact ok_new rfl (pa_full b1 b2 w Q.q)
  rintro _ _ U1 le1 ⟨x, rfl, rfl, _⟩ hx
  obtain ⟨y, hy⟩ := hx _ (.head _)
  dsimp only at hy
  subst hy
  exact pa_s1 { Q with st := 1, y := y, U1 := U1 } X C hlo le1
end
theorem parked_spec (w : World) (lo : Nat) (gl : List GenState) (cm fr ec ef : Nat) (come : List (Wd × Nat)) (free : List (Bool × Nat)) (hc : come.length = 7) (hf : free.length = 7) (hd : ∀ x ∈ come, x.1 ≠ .d) (bc : ∀ x ∈ come, InT lo x.2) :
    SpcT w 130 lo (parC cm fr) gl [(cm + 178, lst (come.map wvv) ec), (fr + 178, lst (free.map bvv) ef)] (ParPost cm fr ec ef gl come free) := by
  refine spcT_fol fun b1 b2 => spcT_of spP 3000 (paOc b2) 2 rfl (by kernel_rfl) (by decide) fun A R h d tk os hA hdep Pr hlo K n P B => ?_
  have X : PaX (fol b1 b2 w) A R h d os cm fr ec ef tk come free gl := ⟨hA, hdep, Pr, fun h' y gone tk' le F hg bg => K _ _ _ _ _ le F ⟨y, gone, rfl, rfl, rfl, hg, bg⟩⟩
  let Q0 : Pp := ⟨0, cm, fr, ec, ef, come, free, gl, 0, 0, [], ⟨0, 0, 0, 0⟩, 0, .none, .none, ⟨n, tk, P, B⟩, ⟨0, 0, P, B⟩, ⟨0, 0, P, B⟩, ⟨0, 0, P, B⟩, ⟨0, 0, P, B⟩, 0, 0, .none⟩
  have z := pa_s0 (b1 := b1) (b2 := b2) Q0 X ⟨hc, hf, hd, bc⟩ hlo
  have ev : vals Q0.q.fv 0 7 = free.map bvv := vals_map free bvv hf
  unfold qO0 pa0 at z
  rw [ev] at z
  exact z
end Mine
end
section
set_option genInjectivity false
set_option maxRecDepth 100000
set_option maxHeartbeats 1000000
namespace Mine
open PySem PySem.Spec PySem.Calls PyProof.Rows PySem.W PySem.W.X
theorem lineW_bare (come : List Wd) (free : List Bool) : ∀ x ∈ lineW come free, x ≠ .d := by
  intro x hx
  unfold lineW at hx
  obtain ⟨y, _, rfl⟩ := List.mem_map.mp hx
  cases y <;> simp [bare]
theorem lineW_len (come : List Wd) (free : List Bool) : (lineW come free).length = 7 := by
  unfold lineW
  rw [List.length_map, List.length_drop, lineGo_len]
theorem namedW_bare (b : List Bool) : ∀ x ∈ namedW b, x ≠ .d := by
  intro x hx
  unfold namedW at hx
  obtain ⟨i, _, rfl⟩ := List.mem_map.mp hx
  unfold ndW
  split <;> simp
theorem namedW_len (b : List Bool) : (namedW b).length = 7 := by simp [namedW]
theorem len_of {α : Type} {l : List (α × Nat)} {m : List α} {n : Nat} (h : l.map (·.1) = m) (hm : m.length = n) : l.length = n := by
  rw [← hm, ← h, List.length_map]
theorem bare_of {l : List (Wd × Nat)} {m : List Wd} (h : l.map (·.1) = m) (hm : ∀ x ∈ m, x ≠ .d) : ∀ x ∈ l, x.1 ≠ .d := fun x hx => hm x.1 (h ▸ List.mem_map_of_mem hx)
theorem rev_map {α : Type} (l : List α) (g : α → Value) (h : l.length = 7) : revV (fun j => (l.map g).getD j .none) = l.reverse.map g := by
  obtain ⟨_, _, _, _, _, _, _, rfl⟩ := len7 l h
  rfl
/-- what the exchange asks, in plain words -/
structure Good (g e l : List Bool) (x : Nat) : Prop where
  h1 : lineW (namedW g) e = parkedW (namedW g) e
  h2 : lineW (lineW (namedW g) e) l = parkedW (lineW (namedW g) e) l
  h3 : lineW (namedW e) l = parkedW (namedW e) l
  h4 : packI e 7 + packI l 7 - packI (marksW (lineW (namedW e) l)) 7 = .ofNat x
  h5 : packI e 7 + packI l 7 - packI (marksW (lineW (namedW e) l)) 7 = Builtin.bitOr (packI e 7) (Builtin.bitXor (Builtin.bitXor (packI e 7) (packI l 7)) (packI (marksW (lineW (namedW e) l)) 7))
  hx : x < 128
  h6 : lineW (lineW (namedW g) ((List.range 7).map (bitW x))) (marksW (lineW (namedW e) l)) = lineW (lineW (namedW g) e) l
  h7 : lineW (lineW (namedW e) l).reverse ((List.range 7).map (bitW x)).reverse = (namedW e).reverse
section
variable (b1 b2 : Bool) (w : World) (Q : Xq)
theorem ex_r0 : vS [0] (xo0 b2 (fol b1 b2 w) Q) = vSR (.call (.ref 150) ⟨[.ref (Q.g + 178)], []⟩) 1 [(Q.g + 178, lst Q.gu Q.eg)] Q.gl (xo0 b2 (fol b1 b2 w) Q) := congrArg (fun x => x.1) (ex_runs b1 b2 w Q)
theorem ex_r1 : vS [1] (xo1 b2 (fol b1 b2 w) Q) = vSR (.call (.ref 150) ⟨[.ref (Q.e + 178)], []⟩) 1 [(Q.e + 178, lst Q.ea Q.ee)] Q.gl (xo1 b2 (fol b1 b2 w) Q) := congrArg (fun x => x.2.1) (ex_runs b1 b2 w Q)
theorem ex_r2 : vS [6, 1, 3] (xo2 b2 (fol b1 b2 w) Q) = vSR (lineC Q.y0 Q.e) 1 [(Q.y0 + 178, lst Q.W0 7), (Q.e + 178, lst Q.ea Q.ee), (121, tab0)] Q.gl (xo2 b2 (fol b1 b2 w) Q) := congrArg (fun x => x.2.2.1) (ex_runs b1 b2 w Q)
theorem ex_r3 : vS [9, 2, 3, 8] (xo3 b2 (fol b1 b2 w) Q) = vSR (lineC Q.y2 Q.l) 1 [(Q.y2 + 178, lst Q.W2 7), (Q.l + 178, lst Q.la Q.el), (121, tab1 Q.c1 Q.c2), (Q.c1 + 178, codeO Q.a Q.b Q.r)] Q.gl (xo3 b2 (fol b1 b2 w) Q) := congrArg (fun x => x.2.2.2.1) (ex_runs b1 b2 w Q)
theorem ex_r4 : vS [7, 2, 3, 8] (xo4 b2 (fol b1 b2 w) Q) = vSR (lineC Q.y1 Q.l) 1 [(Q.y1 + 178, lst (vals Q.v1 0 7) 7), (Q.l + 178, lst Q.la Q.el), (121, tab1 Q.c1 Q.c2), (Q.c1 + 178, codeO Q.a Q.b Q.r)] Q.gl (xo4 b2 (fol b1 b2 w) Q) := congrArg (fun x => x.2.2.2.2.1) (ex_runs b1 b2 w Q)
theorem ex_r5 : vS [6, 1] (xo5 b2 (fol b1 b2 w) Q) = vSR (parC Q.y0 Q.e) 1 [(Q.y0 + 178, lst Q.W0 7), (Q.e + 178, lst Q.ea Q.ee)] Q.gl (xo5 b2 (fol b1 b2 w) Q) := congrArg (fun x => x.2.2.2.2.2.1) (ex_runs b1 b2 w Q)
theorem ex_r6 : vS [9, 12] (xo6 b2 (fol b1 b2 w) Q) = vSR (.call (.builtin "list.__ne__") ⟨[.ref (Q.y2 + 178), .ref (Q.y5 + 178)], []⟩) 1 [(Q.y2 + 178, lst Q.W2 7), (Q.y5 + 178, lst Q.W5 7)] Q.gl (xo6 b2 (fol b1 b2 w) Q) := congrArg (fun x => x.2.2.2.2.2.2.1) (ex_runs b1 b2 w Q)
theorem ex_r7 : vS [9, 2] (xo7 b2 (fol b1 b2 w) Q) = vSR (parC Q.y2 Q.l) 1 [(Q.y2 + 178, lst Q.W2 7), (Q.l + 178, lst Q.la Q.el)] Q.gl (xo7 b2 (fol b1 b2 w) Q) := congrArg (fun x => x.2.2.2.2.2.2.2.1) (ex_runs b1 b2 w Q)
theorem ex_r8 : vS [10, 13] (xo8 b2 (fol b1 b2 w) Q) = vSR (.call (.builtin "list.__ne__") ⟨[.ref (Q.y3 + 178), .ref (Q.y6 + 178)], []⟩) 1 [(Q.y3 + 178, lst Q.W3 7), (Q.y6 + 178, lst Q.W6 7)] Q.gl (xo8 b2 (fol b1 b2 w) Q) := congrArg (fun x => x.2.2.2.2.2.2.2.2.1) (ex_runs b1 b2 w Q)
theorem ex_r9 : vS [7, 2] (xo9 b2 (fol b1 b2 w) Q) = vSR (parC Q.y1 Q.l) 1 [(Q.y1 + 178, lst (vals Q.v1 0 7) 7), (Q.l + 178, lst Q.la Q.el)] Q.gl (xo9 b2 (fol b1 b2 w) Q) := congrArg (fun x => x.2.2.2.2.2.2.2.2.2.1) (ex_runs b1 b2 w Q)
theorem ex_r10 : vS [11, 14] (xo10 b2 (fol b1 b2 w) Q) = vSR (.call (.builtin "list.__ne__") ⟨[.ref (Q.y4 + 178), .ref (Q.y7 + 178)], []⟩) 1 [(Q.y4 + 178, lst (vals Q.v4 0 7) 7), (Q.y7 + 178, lst Q.W7 7)] Q.gl (xo10 b2 (fol b1 b2 w) Q) := congrArg (fun x => x.2.2.2.2.2.2.2.2.2.2.1) (ex_runs b1 b2 w Q)
theorem ex_r11 : vS [15, 11, 16, 17] (xo11 b2 (fol b1 b2 w) Q) = vSR (swC (exC Q)) 1 (guE (exC Q) (itO (.ref (Q.y4 + 178)) 0) (vals Q.v4 0 7) 7 [] 0 (dct [] 0)) Q.gl (xo11 b2 (fol b1 b2 w) Q) := congrArg (fun x => x.2.2.2.2.2.2.2.2.2.2.2.1) (ex_runs b1 b2 w Q)
theorem ex_r12 : vS [1] (xo12 b2 (fol b1 b2 w) Q) = vSR (pakC Q.e) 1 [(Q.e + 178, lst Q.ea Q.ee)] Q.gl (xo12 b2 (fol b1 b2 w) Q) := congrArg (fun x => x.2.2.2.2.2.2.2.2.2.2.2.2.1) (ex_runs b1 b2 w Q)
theorem ex_r13 : vS [2] (xo13 b2 (fol b1 b2 w) Q) = vSR (pakC Q.l) 1 [(Q.l + 178, lst Q.la Q.el)] Q.gl (xo13 b2 (fol b1 b2 w) Q) := congrArg (fun x => x.2.2.2.2.2.2.2.2.2.2.2.2.2.1) (ex_runs b1 b2 w Q)
theorem ex_r14 : vS [16] (xo14 b2 (fol b1 b2 w) Q) = vSR (pakC (Q.U10.n + 1)) 1 [(Q.U10.n + 1 + 178, lst Q.S 7)] Q.gl (xo14 b2 (fol b1 b2 w) Q) := congrArg (fun x => x.2.2.2.2.2.2.2.2.2.2.2.2.2.2.1) (ex_runs b1 b2 w Q)
theorem ex_r15 : vS [] (xo15 b2 (fol b1 b2 w) Q) = vSR (.call (.builtin "int.__ne__") ⟨[.int (Q.x0 + Q.x1 - Q.x2) (Q.U14.tk + 9), .int (Builtin.bitOr Q.x0 (Builtin.bitXor (Builtin.bitXor Q.x0 Q.x1) Q.x2)) (Q.U14.tk + 22)], []⟩) 1 [] Q.gl (xo15 b2 (fol b1 b2 w) Q) := congrArg (fun x => x.2.2.2.2.2.2.2.2.2.2.2.2.2.2.2.1) (ex_runs b1 b2 w Q)
theorem ex_r16 : vS [25, 26, 27, 5] (xo16 b2 (fol b1 b2 w) Q) = vSR (qkC (exK Q)) 1 (qkE (exK Q) 0 [] (dct [] 0) (Q.x0 + Q.x1 - Q.x2) (Q.U14.tk + 9)) Q.gl (xo16 b2 (fol b1 b2 w) Q) := congrArg (fun x => x.2.2.2.2.2.2.2.2.2.2.2.2.2.2.2.2.1) (ex_runs b1 b2 w Q)
theorem ex_r17 : vS [6, 26, 3, 8] (xo17 b2 (fol b1 b2 w) Q) = vSR (lineC Q.y0 (Q.U15.n + 2)) 1 [(Q.y0 + 178, lst Q.W0 7), (Q.U15.n + 2 + 178, lst (vals Q.vq 0 7) 7), (121, tab1 Q.c1 Q.c2), (Q.c1 + 178, codeO Q.a Q.b Q.r)] Q.gl (xo17 b2 (fol b1 b2 w) Q) := congrArg (fun x => x.2.2.2.2.2.2.2.2.2.2.2.2.2.2.2.2.2.1) (ex_runs b1 b2 w Q)
theorem ex_r18 : vS [28, 16, 3, 8] (xo18 b2 (fol b1 b2 w) Q) = vSR (lineC Q.y8 (Q.U10.n + 1)) 1 [(Q.y8 + 178, lst Q.W8 7), (Q.U10.n + 1 + 178, lst Q.S 7), (121, tab1 Q.c1 Q.c2), (Q.c1 + 178, codeO Q.a Q.b Q.r)] Q.gl (xo18 b2 (fol b1 b2 w) Q) := congrArg (fun x => x.2.2.2.2.2.2.2.2.2.2.2.2.2.2.2.2.2.2.1) (ex_runs b1 b2 w Q)
theorem ex_r19 : vS [29, 10] (xo19 b2 (fol b1 b2 w) Q) = vSR (.call (.builtin "list.__ne__") ⟨[.ref (Q.y9 + 178), .ref (Q.y3 + 178)], []⟩) 1 [(Q.y9 + 178, lst Q.W9 7), (Q.y3 + 178, lst Q.W3 7)] Q.gl (xo19 b2 (fol b1 b2 w) Q) := congrArg (fun x => x.2.2.2.2.2.2.2.2.2.2.2.2.2.2.2.2.2.2.2.1) (ex_runs b1 b2 w Q)
theorem ex_r20 : vS [31, 33, 3, 8] (xo20 b2 (fol b1 b2 w) Q) = vSR (lineC (Q.U19.n + 1) (Q.U19.n + 3)) 1 [(Q.U19.n + 1 + 178, lst (revV Q.v4) 0), (Q.U19.n + 3 + 178, lst (revV Q.vq) 0), (121, tab1 Q.c1 Q.c2), (Q.c1 + 178, codeO Q.a Q.b Q.r)] Q.gl (xo20 b2 (fol b1 b2 w) Q) := congrArg (fun x => x.2.2.2.2.2.2.2.2.2.2.2.2.2.2.2.2.2.2.2.2.1) (ex_runs b1 b2 w Q)
theorem ex_r21 : vS [34, 36] (xo21 b2 (fol b1 b2 w) Q) = vSR (.call (.builtin "list.__eq__") ⟨[.ref (Q.y10 + 178), .ref ((Q.U20.n + 1) + 178)], []⟩) 1 [(Q.y10 + 178, lst Q.W10 7), (Q.U20.n + 1 + 178, lst (revV Q.v1) 0)] Q.gl (xo21 b2 (fol b1 b2 w) Q) := congrArg (fun x => x.2.2.2.2.2.2.2.2.2.2.2.2.2.2.2.2.2.2.2.2.2.1) (ex_runs b1 b2 w Q)
theorem ex_r22 : vL [0, 1, 2, 3, 8] (xo22 b2 (fol b1 b2 w) Q) = vR (.ok (.ret (.bool true))) [(Q.g + 178, lst Q.gu Q.eg), (Q.e + 178, lst Q.ea Q.ee), (Q.l + 178, lst Q.la Q.el), (121, tab1 Q.c1 Q.c2), (Q.c1 + 178, codeO Q.a Q.b Q.r)] Q.gl (xo22 b2 (fol b1 b2 w) Q) := congrArg (fun x => x.2.2.2.2.2.2.2.2.2.2.2.2.2.2.2.2.2.2.2.2.2.2.1) (ex_runs b1 b2 w Q)
theorem ex_f0 : fullGo (xo0 b2 (fol b1 b2 w) Q).st.T (xo0 b2 (fol b1 b2 w) Q).st.m = true := congrArg (fun x => x.2.2.2.2.2.2.2.2.2.2.2.2.2.2.2.2.2.2.2.2.2.2.2.1) (ex_runs b1 b2 w Q)
theorem ex_f1 : fullGo (xo1 b2 (fol b1 b2 w) Q).st.T (xo1 b2 (fol b1 b2 w) Q).st.m = true := congrArg (fun x => x.2.2.2.2.2.2.2.2.2.2.2.2.2.2.2.2.2.2.2.2.2.2.2.2.1) (ex_runs b1 b2 w Q)
theorem ex_f2 : fullGo (xo2 b2 (fol b1 b2 w) Q).st.T (xo2 b2 (fol b1 b2 w) Q).st.m = true := congrArg (fun x => x.2.2.2.2.2.2.2.2.2.2.2.2.2.2.2.2.2.2.2.2.2.2.2.2.2.1) (ex_runs b1 b2 w Q)
theorem ex_f3 : fullGo (xo3 b2 (fol b1 b2 w) Q).st.T (xo3 b2 (fol b1 b2 w) Q).st.m = true := congrArg (fun x => x.2.2.2.2.2.2.2.2.2.2.2.2.2.2.2.2.2.2.2.2.2.2.2.2.2.2.1) (ex_runs b1 b2 w Q)
theorem ex_f4 : fullGo (xo4 b2 (fol b1 b2 w) Q).st.T (xo4 b2 (fol b1 b2 w) Q).st.m = true := congrArg (fun x => x.2.2.2.2.2.2.2.2.2.2.2.2.2.2.2.2.2.2.2.2.2.2.2.2.2.2.2.1) (ex_runs b1 b2 w Q)
theorem ex_f5 : fullGo (xo5 b2 (fol b1 b2 w) Q).st.T (xo5 b2 (fol b1 b2 w) Q).st.m = true := congrArg (fun x => x.2.2.2.2.2.2.2.2.2.2.2.2.2.2.2.2.2.2.2.2.2.2.2.2.2.2.2.2.1) (ex_runs b1 b2 w Q)
theorem ex_f7 : fullGo (xo7 b2 (fol b1 b2 w) Q).st.T (xo7 b2 (fol b1 b2 w) Q).st.m = true := congrArg (fun x => x.2.2.2.2.2.2.2.2.2.2.2.2.2.2.2.2.2.2.2.2.2.2.2.2.2.2.2.2.2.1) (ex_runs b1 b2 w Q)
theorem ex_f9 : fullGo (xo9 b2 (fol b1 b2 w) Q).st.T (xo9 b2 (fol b1 b2 w) Q).st.m = true := congrArg (fun x => x.2.2.2.2.2.2.2.2.2.2.2.2.2.2.2.2.2.2.2.2.2.2.2.2.2.2.2.2.2.2.1) (ex_runs b1 b2 w Q)
theorem ex_f17 : fullGo (xo17 b2 (fol b1 b2 w) Q).st.T (xo17 b2 (fol b1 b2 w) Q).st.m = true := congrArg (fun x => x.2.2.2.2.2.2.2.2.2.2.2.2.2.2.2.2.2.2.2.2.2.2.2.2.2.2.2.2.2.2.2.1) (ex_runs b1 b2 w Q)
theorem ex_f18 : fullGo (xo18 b2 (fol b1 b2 w) Q).st.T (xo18 b2 (fol b1 b2 w) Q).st.m = true := congrArg (fun x => x.2.2.2.2.2.2.2.2.2.2.2.2.2.2.2.2.2.2.2.2.2.2.2.2.2.2.2.2.2.2.2.2.1) (ex_runs b1 b2 w Q)
theorem ex_f20 : fullGo (xo20 b2 (fol b1 b2 w) Q).st.T (xo20 b2 (fol b1 b2 w) Q).st.m = true := congrArg (fun x => x.2.2.2.2.2.2.2.2.2.2.2.2.2.2.2.2.2.2.2.2.2.2.2.2.2.2.2.2.2.2.2.2.2) (ex_runs b1 b2 w Q)
end
/-- what is known at a stage, in plain words -/
structure Xp where
  st : Nat
  g : Nat
  e : Nat
  l : Nat
  eg : Nat
  ee : Nat
  el : Nat
  c1 : Nat
  c2 : Nat
  a : Nat
  b : Nat
  tt : Nat
  t0 : Nat
  t1 : Nat
  t2 : Nat
  tq : Nat
  y : Nat → Nat
  gu : List (Bool × Nat)
  ea : List (Bool × Nat)
  la : List (Bool × Nat)
  r : List Value
  os : List (Bool × Nat)
  o : Nat → List (Wd × Nat)
  oq : List (Bool × Nat)
  x0 : Int
  x1 : Int
  x2 : Int
  hh : Int
  h2 : Int
  xv : Value
  xq : Value
  gl : List GenState
  U : Nat → Un
noncomputable def Xp.q (Q : Xp) : Xq := ⟨Q.g, Q.e, Q.l, Q.eg, Q.ee, Q.el, Q.c1, Q.c2, Q.a, Q.b, Q.tt, Q.t0, Q.t1, Q.t2, Q.tq, Q.y 0, Q.y 1, Q.y 2, Q.y 3, Q.y 4, Q.y 5, Q.y 6, Q.y 7, Q.y 8, Q.y 9, Q.y 10, Q.gu.map bvv, Q.ea.map bvv, Q.la.map bvv, Q.r, Q.os.map bvv, (Q.o 0).map wvv, (Q.o 2).map wvv, (Q.o 3).map wvv, (Q.o 5).map wvv, (Q.o 6).map wvv, (Q.o 7).map wvv, (Q.o 8).map wvv, (Q.o 9).map wvv, (Q.o 10).map wvv, fun j => ((Q.o 1).map wvv).getD j .none, fun j => ((Q.o 4).map wvv).getD j .none, fun j => (Q.oq.map bvv).getD j .none, Q.x0, Q.x1, Q.x2, Q.hh, Q.h2, Q.xv, Q.xq, Q.gl, Q.U 0, Q.U 1, Q.U 2, Q.U 3, Q.U 4, Q.U 5, Q.U 6, Q.U 7, Q.U 8, Q.U 9, Q.U 10, Q.U 11, Q.U 12, Q.U 13, Q.U 14, Q.U 15, Q.U 16, Q.U 17, Q.U 18, Q.U 19, Q.U 20, Q.U 21, Q.U 22⟩
/-- around _law_exchanged -/
structure ExX (w : World) (A : Around) (R : Result → Shared → Prop) (h : Heap) (d : Drawn) (os : OsState) (g e l eg ee el lo : Nat) (gu ea la : List (Bool × Nat)) (gl : List GenState) : Prop where
  hA : A.handled = none
  hdep : Room A 150
  Pr : Pre (ktw w) h [(g + 178, lst (gu.map bvv) eg), (e + 178, lst (ea.map bvv) ee), (l + 178, lst (la.map bvv) el), (121, tab0)]
  K : ∀ h' c1 c2 a b rr tk', lo ≤ tk' → Fra h h' [(g + 178, lst (gu.map bvv) eg), (e + 178, lst (ea.map bvv) ee), (l + 178, lst (la.map bvv) el), (121, tab0)] [(g + 178, lst (gu.map bvv) eg), (e + 178, lst (ea.map bvv) ee), (l + 178, lst (la.map bvv) el), (121, tab1 c1 c2), (c1 + 178, codeO a b rr)] → R (.ok (.ret (.bool true))) ⟨h', ⟨gl⟩, d, tk', os⟩
/-- the three rows: of seven, and exchanged well -/
structure ExG (gu ea la : List (Bool × Nat)) (x : Nat) : Prop where
  hgu : gu.length = 7
  hea : ea.length = 7
  hla : la.length = 7
  GD : Good (gu.map (·.1)) (ea.map (·.1)) (la.map (·.1)) x
section
variable {b1 b2 : Bool} {w : World} {A : Around} {R : Result → Shared → Prop} {h : Heap} {d : Drawn} {os : OsState} {x : Nat}
/-- a list of words at a stage -/
structure WdF (l : List (Wd × Nat)) (m : List Wd) (t : Nat) : Prop where
  is : l.map (·.1) = m
  len : l.length = 7
  bare : ∀ x ∈ l, x.1 ≠ .d
  tok : ∀ x ∈ l, InT t x.2
theorem WdF.of {l : List (Wd × Nat)} {m : List Wd} {t : Nat} (h : l.map (·.1) = m) (hm : m.length = 7) (hb : ∀ x ∈ m, x ≠ .d) (b : ∀ x ∈ l, InT t x.2) : WdF l m t := ⟨h, len_of h hm, bare_of h hb, b⟩
theorem WdF.at {l : List (Wd × Nat)} {m : List Wd} {t t' : Nat} (F : WdF l m t) (le : t ≤ t') : ∀ x ∈ l, InT t' x.2 := fun x hx => (F.tok x hx).mono le
theorem ex_s22 (Q : Xp) (X : ExX (fol b1 b2 w) A R h d os Q.g Q.e Q.l Q.eg Q.ee Q.el (Q.U 0).tk Q.gu Q.ea Q.la Q.gl) (G : ExG Q.gu Q.ea Q.la x) (h0 : 0 < (Q.U 0).tk) (le1 : (Q.U 0).tk ≤ (Q.U 1).tk) (ho0 : WdF (Q.o 0) (namedW (Q.gu.map (fun p : Bool × Nat => p.1))) (Q.U 1).tk) (le2 : (Q.U 1).tk ≤ (Q.U 2).tk) (ho1 : WdF (Q.o 1) (namedW (Q.ea.map (fun p : Bool × Nat => p.1))) (Q.U 2).tk) (le3 : (Q.U 2).tk ≤ (Q.U 3).tk) (ho2 : WdF (Q.o 2) (lineW ((Q.o 0).map (fun p : Wd × Nat => p.1)) (Q.ea.map (fun p : Bool × Nat => p.1))) (Q.U 3).tk) (le4 : (Q.U 3).tk ≤ (Q.U 4).tk) (ho3 : WdF (Q.o 3) (lineW ((Q.o 2).map (fun p : Wd × Nat => p.1)) (Q.la.map (fun p : Bool × Nat => p.1))) (Q.U 4).tk) (le5 : (Q.U 4).tk ≤ (Q.U 5).tk) (ho4 : WdF (Q.o 4) (lineW ((Q.o 1).map (fun p : Wd × Nat => p.1)) (Q.la.map (fun p : Bool × Nat => p.1))) (Q.U 5).tk) (le6 : (Q.U 5).tk ≤ (Q.U 6).tk) (ho5 : (Q.o 5).map (fun p : Wd × Nat => p.1) = parkedW ((Q.o 0).map (fun p : Wd × Nat => p.1)) (Q.ea.map (fun p : Bool × Nat => p.1))) (le7 : (Q.U 6).tk ≤ (Q.U 7).tk) (le8 : (Q.U 7).tk ≤ (Q.U 8).tk) (ho6 : (Q.o 6).map (fun p : Wd × Nat => p.1) = parkedW ((Q.o 2).map (fun p : Wd × Nat => p.1)) (Q.la.map (fun p : Bool × Nat => p.1))) (le9 : (Q.U 8).tk ≤ (Q.U 9).tk) (le10 : (Q.U 9).tk ≤ (Q.U 10).tk) (ho7 : (Q.o 7).map (fun p : Wd × Nat => p.1) = parkedW ((Q.o 1).map (fun p : Wd × Nat => p.1)) (Q.la.map (fun p : Bool × Nat => p.1))) (le11 : (Q.U 10).tk ≤ (Q.U 11).tk) (le12 : (Q.U 11).tk ≤ (Q.U 12).tk) (hos : Q.os.map (fun p : Bool × Nat => p.1) = marksW ((Q.o 4).map (fun p : Wd × Nat => p.1))) (le13 : (Q.U 12).tk ≤ (Q.U 13).tk) (hx0 : Q.x0 = packI (Q.ea.map (fun p : Bool × Nat => p.1)) 7) (le14 : (Q.U 13).tk ≤ (Q.U 14).tk) (hx1 : Q.x1 = packI (Q.la.map (fun p : Bool × Nat => p.1)) 7) (le15 : (Q.U 14).tk ≤ (Q.U 15).tk) (hx2 : Q.x2 = packI (Q.os.map (fun p : Bool × Nat => p.1)) 7) (le16 : (Q.U 15).tk ≤ (Q.U 16).tk) (le17 : (Q.U 16).tk ≤ (Q.U 17).tk) (hoq : Q.oq.map (fun p : Bool × Nat => p.1) = (List.range 7).map (bitW x)) (le18 : (Q.U 17).tk ≤ (Q.U 18).tk) (ho8 : WdF (Q.o 8) (lineW ((Q.o 0).map (fun p : Wd × Nat => p.1)) (Q.oq.map (fun p : Bool × Nat => p.1))) (Q.U 18).tk) (le19 : (Q.U 18).tk ≤ (Q.U 19).tk) (ho9 : (Q.o 9).map (fun p : Wd × Nat => p.1) = lineW ((Q.o 8).map (fun p : Wd × Nat => p.1)) (Q.os.map (fun p : Bool × Nat => p.1))) (le20 : (Q.U 19).tk ≤ (Q.U 20).tk) (le21 : (Q.U 20).tk ≤ (Q.U 21).tk) (ho10 : (Q.o 10).map (fun p : Wd × Nat => p.1) = lineW ((Q.o 4).reverse.map (fun p : Wd × Nat => p.1)) (Q.oq.reverse.map (fun p : Bool × Nat => p.1))) (le22 : (Q.U 21).tk ≤ (Q.U 22).tk) :
    SatX (vOf pw (fol b1 b2 w) A R) h ([(Q.g + 178, lst (Q.gu.map bvv) Q.eg), (Q.e + 178, lst (Q.ea.map bvv) Q.ee), (Q.l + 178, lst (Q.la.map bvv) Q.el), (121, tab0)].map (·.1)) d os (Q.U 22).tk (xo22 b2 (fol b1 b2 w) Q.q) := by
  exact sat_retV (ex_r22 b1 b2 w Q.q) (by decide) fun h' tk' le F' => X.K h' Q.c1 Q.c2 Q.a Q.b Q.r _ (by omega) F'
theorem ex_s21 (Q : Xp) (X : ExX (fol b1 b2 w) A R h d os Q.g Q.e Q.l Q.eg Q.ee Q.el (Q.U 0).tk Q.gu Q.ea Q.la Q.gl) (G : ExG Q.gu Q.ea Q.la x) (h0 : 0 < (Q.U 0).tk) (le1 : (Q.U 0).tk ≤ (Q.U 1).tk) (ho0 : WdF (Q.o 0) (namedW (Q.gu.map (fun p : Bool × Nat => p.1))) (Q.U 1).tk) (le2 : (Q.U 1).tk ≤ (Q.U 2).tk) (ho1 : WdF (Q.o 1) (namedW (Q.ea.map (fun p : Bool × Nat => p.1))) (Q.U 2).tk) (le3 : (Q.U 2).tk ≤ (Q.U 3).tk) (ho2 : WdF (Q.o 2) (lineW ((Q.o 0).map (fun p : Wd × Nat => p.1)) (Q.ea.map (fun p : Bool × Nat => p.1))) (Q.U 3).tk) (le4 : (Q.U 3).tk ≤ (Q.U 4).tk) (ho3 : WdF (Q.o 3) (lineW ((Q.o 2).map (fun p : Wd × Nat => p.1)) (Q.la.map (fun p : Bool × Nat => p.1))) (Q.U 4).tk) (le5 : (Q.U 4).tk ≤ (Q.U 5).tk) (ho4 : WdF (Q.o 4) (lineW ((Q.o 1).map (fun p : Wd × Nat => p.1)) (Q.la.map (fun p : Bool × Nat => p.1))) (Q.U 5).tk) (le6 : (Q.U 5).tk ≤ (Q.U 6).tk) (ho5 : (Q.o 5).map (fun p : Wd × Nat => p.1) = parkedW ((Q.o 0).map (fun p : Wd × Nat => p.1)) (Q.ea.map (fun p : Bool × Nat => p.1))) (le7 : (Q.U 6).tk ≤ (Q.U 7).tk) (le8 : (Q.U 7).tk ≤ (Q.U 8).tk) (ho6 : (Q.o 6).map (fun p : Wd × Nat => p.1) = parkedW ((Q.o 2).map (fun p : Wd × Nat => p.1)) (Q.la.map (fun p : Bool × Nat => p.1))) (le9 : (Q.U 8).tk ≤ (Q.U 9).tk) (le10 : (Q.U 9).tk ≤ (Q.U 10).tk) (ho7 : (Q.o 7).map (fun p : Wd × Nat => p.1) = parkedW ((Q.o 1).map (fun p : Wd × Nat => p.1)) (Q.la.map (fun p : Bool × Nat => p.1))) (le11 : (Q.U 10).tk ≤ (Q.U 11).tk) (le12 : (Q.U 11).tk ≤ (Q.U 12).tk) (hos : Q.os.map (fun p : Bool × Nat => p.1) = marksW ((Q.o 4).map (fun p : Wd × Nat => p.1))) (le13 : (Q.U 12).tk ≤ (Q.U 13).tk) (hx0 : Q.x0 = packI (Q.ea.map (fun p : Bool × Nat => p.1)) 7) (le14 : (Q.U 13).tk ≤ (Q.U 14).tk) (hx1 : Q.x1 = packI (Q.la.map (fun p : Bool × Nat => p.1)) 7) (le15 : (Q.U 14).tk ≤ (Q.U 15).tk) (hx2 : Q.x2 = packI (Q.os.map (fun p : Bool × Nat => p.1)) 7) (le16 : (Q.U 15).tk ≤ (Q.U 16).tk) (le17 : (Q.U 16).tk ≤ (Q.U 17).tk) (hoq : Q.oq.map (fun p : Bool × Nat => p.1) = (List.range 7).map (bitW x)) (le18 : (Q.U 17).tk ≤ (Q.U 18).tk) (ho8 : WdF (Q.o 8) (lineW ((Q.o 0).map (fun p : Wd × Nat => p.1)) (Q.oq.map (fun p : Bool × Nat => p.1))) (Q.U 18).tk) (le19 : (Q.U 18).tk ≤ (Q.U 19).tk) (ho9 : (Q.o 9).map (fun p : Wd × Nat => p.1) = lineW ((Q.o 8).map (fun p : Wd × Nat => p.1)) (Q.os.map (fun p : Bool × Nat => p.1))) (le20 : (Q.U 19).tk ≤ (Q.U 20).tk) (le21 : (Q.U 20).tk ≤ (Q.U 21).tk) (ho10 : (Q.o 10).map (fun p : Wd × Nat => p.1) = lineW ((Q.o 4).reverse.map (fun p : Wd × Nat => p.1)) (Q.oq.reverse.map (fun p : Bool × Nat => p.1))) :
    SatX (vOf pw (fol b1 b2 w) A R) h ([(Q.g + 178, lst (Q.gu.map bvv) Q.eg), (Q.e + 178, lst (Q.ea.map bvv) Q.ee), (Q.l + 178, lst (Q.la.map bvv) Q.el), (121, tab0)].map (·.1)) d os (Q.U 21).tk (xo21 b2 (fol b1 b2 w) Q.q) := by
  have er1 : revV Q.q.v1 = (Q.o 1).reverse.map wvv := rev_map (Q.o 1) wvv ho1.len
  have r := ex_r21 b1 b2 w Q.q
  rw [er1] at r
  refine sat_nx (D := 150) r (words_eq (fol b1 b2 w) 0 Q.gl (Q.y 10) ((Q.U 21).n + 1) 7 0 (Q.o 10) (Q.o 1).reverse (by rw [ho10, List.map_reverse, List.map_reverse, List.map_reverse, ho4.is, ho1.is, hoq]; exact G.GD.h7)) (Nat.zero_le _) (by decide) (by decide) X.hA X.hdep X.Pr ?_ ?_ ?_
  · rintro _ _ _ _ ⟨_, _, hgl⟩; exact hgl
  · rintro _ _ _ ⟨rfl, rfl, _⟩; exact ok_same _ _ rfl rfl
  rintro _ _ U le ⟨rfl, rfl, -⟩ _
  rw [← er1]
  exact ex_s22 { Q with st := 22, U := fun k => cond (Nat.beq k 22) U (Q.U k) } X G h0 le1 ho0 le2 ho1 le3 ho2 le4 ho3 le5 ho4 le6 ho5 le7 le8 ho6 le9 le10 ho7 le11 le12 hos le13 hx0 le14 hx1 le15 hx2 le16 le17 hoq le18 ho8 le19 ho9 le20 le21 ho10 le
theorem ex_s20 (Q : Xp) (X : ExX (fol b1 b2 w) A R h d os Q.g Q.e Q.l Q.eg Q.ee Q.el (Q.U 0).tk Q.gu Q.ea Q.la Q.gl) (G : ExG Q.gu Q.ea Q.la x) (h0 : 0 < (Q.U 0).tk) (le1 : (Q.U 0).tk ≤ (Q.U 1).tk) (ho0 : WdF (Q.o 0) (namedW (Q.gu.map (fun p : Bool × Nat => p.1))) (Q.U 1).tk) (le2 : (Q.U 1).tk ≤ (Q.U 2).tk) (ho1 : WdF (Q.o 1) (namedW (Q.ea.map (fun p : Bool × Nat => p.1))) (Q.U 2).tk) (le3 : (Q.U 2).tk ≤ (Q.U 3).tk) (ho2 : WdF (Q.o 2) (lineW ((Q.o 0).map (fun p : Wd × Nat => p.1)) (Q.ea.map (fun p : Bool × Nat => p.1))) (Q.U 3).tk) (le4 : (Q.U 3).tk ≤ (Q.U 4).tk) (ho3 : WdF (Q.o 3) (lineW ((Q.o 2).map (fun p : Wd × Nat => p.1)) (Q.la.map (fun p : Bool × Nat => p.1))) (Q.U 4).tk) (le5 : (Q.U 4).tk ≤ (Q.U 5).tk) (ho4 : WdF (Q.o 4) (lineW ((Q.o 1).map (fun p : Wd × Nat => p.1)) (Q.la.map (fun p : Bool × Nat => p.1))) (Q.U 5).tk) (le6 : (Q.U 5).tk ≤ (Q.U 6).tk) (ho5 : (Q.o 5).map (fun p : Wd × Nat => p.1) = parkedW ((Q.o 0).map (fun p : Wd × Nat => p.1)) (Q.ea.map (fun p : Bool × Nat => p.1))) (le7 : (Q.U 6).tk ≤ (Q.U 7).tk) (le8 : (Q.U 7).tk ≤ (Q.U 8).tk) (ho6 : (Q.o 6).map (fun p : Wd × Nat => p.1) = parkedW ((Q.o 2).map (fun p : Wd × Nat => p.1)) (Q.la.map (fun p : Bool × Nat => p.1))) (le9 : (Q.U 8).tk ≤ (Q.U 9).tk) (le10 : (Q.U 9).tk ≤ (Q.U 10).tk) (ho7 : (Q.o 7).map (fun p : Wd × Nat => p.1) = parkedW ((Q.o 1).map (fun p : Wd × Nat => p.1)) (Q.la.map (fun p : Bool × Nat => p.1))) (le11 : (Q.U 10).tk ≤ (Q.U 11).tk) (le12 : (Q.U 11).tk ≤ (Q.U 12).tk) (hos : Q.os.map (fun p : Bool × Nat => p.1) = marksW ((Q.o 4).map (fun p : Wd × Nat => p.1))) (le13 : (Q.U 12).tk ≤ (Q.U 13).tk) (hx0 : Q.x0 = packI (Q.ea.map (fun p : Bool × Nat => p.1)) 7) (le14 : (Q.U 13).tk ≤ (Q.U 14).tk) (hx1 : Q.x1 = packI (Q.la.map (fun p : Bool × Nat => p.1)) 7) (le15 : (Q.U 14).tk ≤ (Q.U 15).tk) (hx2 : Q.x2 = packI (Q.os.map (fun p : Bool × Nat => p.1)) 7) (le16 : (Q.U 15).tk ≤ (Q.U 16).tk) (le17 : (Q.U 16).tk ≤ (Q.U 17).tk) (hoq : Q.oq.map (fun p : Bool × Nat => p.1) = (List.range 7).map (bitW x)) (le18 : (Q.U 17).tk ≤ (Q.U 18).tk) (ho8 : WdF (Q.o 8) (lineW ((Q.o 0).map (fun p : Wd × Nat => p.1)) (Q.oq.map (fun p : Bool × Nat => p.1))) (Q.U 18).tk) (le19 : (Q.U 18).tk ≤ (Q.U 19).tk) (ho9 : (Q.o 9).map (fun p : Wd × Nat => p.1) = lineW ((Q.o 8).map (fun p : Wd × Nat => p.1)) (Q.os.map (fun p : Bool × Nat => p.1))) (le20 : (Q.U 19).tk ≤ (Q.U 20).tk) :
    SatX (vOf pw (fol b1 b2 w) A R) h ([(Q.g + 178, lst (Q.gu.map bvv) Q.eg), (Q.e + 178, lst (Q.ea.map bvv) Q.ee), (Q.l + 178, lst (Q.la.map bvv) Q.el), (121, tab0)].map (·.1)) d os (Q.U 20).tk (xo20 b2 (fol b1 b2 w) Q.q) := by
  have lq : Q.oq.length = 7 := by have := congrArg List.length hoq; simpa using this
  have er4 : revV Q.q.v4 = (Q.o 4).reverse.map wvv := rev_map (Q.o 4) wvv ho4.len
  have erq : revV Q.q.vq = Q.oq.reverse.map bvv := rev_map Q.oq bvv lq
  have r := ex_r20 b1 b2 w Q.q
  rw [er4, erq] at r
  refine sat_nx (D := 150) r (line_T (fol b1 b2 w) (Q.U 20).tk (by omega) Q.gl ((Q.U 20).n + 1) ((Q.U 20).n + 3) 0 0 (Q.o 4).reverse Q.oq.reverse (by rw [List.length_reverse]; exact ho4.len) (by rw [List.length_reverse]; exact lq) (fun x hx => ho4.bare x (List.mem_reverse.mp hx)) (fun x hx => ho4.at (by omega) x (List.mem_reverse.mp hx)) Q.c1 Q.c2 Q.a Q.b Q.r) (Nat.le_refl _) (by decide) (by decide) X.hA X.hdep X.Pr ?_ ?_ ?_
  · rintro _ _ _ _ ⟨_, _, _, hgl, _⟩; exact hgl
  · rintro _ _ _ ⟨_, _, rfl, _, rfl, _⟩; exact ok_new rfl (ex_f20 b1 b2 w Q.q)
  rintro _ _ U le ⟨y, l, rfl, -, rfl, hl, bl⟩ _
  rw [← er4, ← erq]
  exact ex_s21 { Q with st := 21, y := fun k => cond (Nat.beq k 10) y (Q.y k), o := fun k => cond (Nat.beq k 10) l (Q.o k), U := fun k => cond (Nat.beq k 21) U (Q.U k) } X G h0 le1 ho0 le2 ho1 le3 ho2 le4 ho3 le5 ho4 le6 ho5 le7 le8 ho6 le9 le10 ho7 le11 le12 hos le13 hx0 le14 hx1 le15 hx2 le16 le17 hoq le18 ho8 le19 ho9 le20 le hl
theorem ex_s19 (Q : Xp) (X : ExX (fol b1 b2 w) A R h d os Q.g Q.e Q.l Q.eg Q.ee Q.el (Q.U 0).tk Q.gu Q.ea Q.la Q.gl) (G : ExG Q.gu Q.ea Q.la x) (h0 : 0 < (Q.U 0).tk) (le1 : (Q.U 0).tk ≤ (Q.U 1).tk) (ho0 : WdF (Q.o 0) (namedW (Q.gu.map (fun p : Bool × Nat => p.1))) (Q.U 1).tk) (le2 : (Q.U 1).tk ≤ (Q.U 2).tk) (ho1 : WdF (Q.o 1) (namedW (Q.ea.map (fun p : Bool × Nat => p.1))) (Q.U 2).tk) (le3 : (Q.U 2).tk ≤ (Q.U 3).tk) (ho2 : WdF (Q.o 2) (lineW ((Q.o 0).map (fun p : Wd × Nat => p.1)) (Q.ea.map (fun p : Bool × Nat => p.1))) (Q.U 3).tk) (le4 : (Q.U 3).tk ≤ (Q.U 4).tk) (ho3 : WdF (Q.o 3) (lineW ((Q.o 2).map (fun p : Wd × Nat => p.1)) (Q.la.map (fun p : Bool × Nat => p.1))) (Q.U 4).tk) (le5 : (Q.U 4).tk ≤ (Q.U 5).tk) (ho4 : WdF (Q.o 4) (lineW ((Q.o 1).map (fun p : Wd × Nat => p.1)) (Q.la.map (fun p : Bool × Nat => p.1))) (Q.U 5).tk) (le6 : (Q.U 5).tk ≤ (Q.U 6).tk) (ho5 : (Q.o 5).map (fun p : Wd × Nat => p.1) = parkedW ((Q.o 0).map (fun p : Wd × Nat => p.1)) (Q.ea.map (fun p : Bool × Nat => p.1))) (le7 : (Q.U 6).tk ≤ (Q.U 7).tk) (le8 : (Q.U 7).tk ≤ (Q.U 8).tk) (ho6 : (Q.o 6).map (fun p : Wd × Nat => p.1) = parkedW ((Q.o 2).map (fun p : Wd × Nat => p.1)) (Q.la.map (fun p : Bool × Nat => p.1))) (le9 : (Q.U 8).tk ≤ (Q.U 9).tk) (le10 : (Q.U 9).tk ≤ (Q.U 10).tk) (ho7 : (Q.o 7).map (fun p : Wd × Nat => p.1) = parkedW ((Q.o 1).map (fun p : Wd × Nat => p.1)) (Q.la.map (fun p : Bool × Nat => p.1))) (le11 : (Q.U 10).tk ≤ (Q.U 11).tk) (le12 : (Q.U 11).tk ≤ (Q.U 12).tk) (hos : Q.os.map (fun p : Bool × Nat => p.1) = marksW ((Q.o 4).map (fun p : Wd × Nat => p.1))) (le13 : (Q.U 12).tk ≤ (Q.U 13).tk) (hx0 : Q.x0 = packI (Q.ea.map (fun p : Bool × Nat => p.1)) 7) (le14 : (Q.U 13).tk ≤ (Q.U 14).tk) (hx1 : Q.x1 = packI (Q.la.map (fun p : Bool × Nat => p.1)) 7) (le15 : (Q.U 14).tk ≤ (Q.U 15).tk) (hx2 : Q.x2 = packI (Q.os.map (fun p : Bool × Nat => p.1)) 7) (le16 : (Q.U 15).tk ≤ (Q.U 16).tk) (le17 : (Q.U 16).tk ≤ (Q.U 17).tk) (hoq : Q.oq.map (fun p : Bool × Nat => p.1) = (List.range 7).map (bitW x)) (le18 : (Q.U 17).tk ≤ (Q.U 18).tk) (ho8 : WdF (Q.o 8) (lineW ((Q.o 0).map (fun p : Wd × Nat => p.1)) (Q.oq.map (fun p : Bool × Nat => p.1))) (Q.U 18).tk) (le19 : (Q.U 18).tk ≤ (Q.U 19).tk) (ho9 : (Q.o 9).map (fun p : Wd × Nat => p.1) = lineW ((Q.o 8).map (fun p : Wd × Nat => p.1)) (Q.os.map (fun p : Bool × Nat => p.1))) :
    SatX (vOf pw (fol b1 b2 w) A R) h ([(Q.g + 178, lst (Q.gu.map bvv) Q.eg), (Q.e + 178, lst (Q.ea.map bvv) Q.ee), (Q.l + 178, lst (Q.la.map bvv) Q.el), (121, tab0)].map (·.1)) d os (Q.U 19).tk (xo19 b2 (fol b1 b2 w) Q.q) := by
  have hsl : marksW (lineW (namedW (Q.ea.map (fun p : Bool × Nat => p.1))) (Q.la.map (fun p : Bool × Nat => p.1))) = Q.os.map (fun p : Bool × Nat => p.1) := by rw [hos, ho4.is, ho1.is]
  have r := ex_r19 b1 b2 w Q.q
  refine sat_nx (D := 150) r (words_ne (fol b1 b2 w) 0 Q.gl (Q.y 9) (Q.y 3) 7 7 (Q.o 9) (Q.o 3) (by rw [ho9, ho8.is, ho3.is, ho2.is, ho0.is, ← hsl, hoq]; exact G.GD.h6)) (Nat.zero_le _) (by decide) (by decide) X.hA X.hdep X.Pr ?_ ?_ ?_
  · rintro _ _ _ _ ⟨_, _, hgl⟩; exact hgl
  · rintro _ _ _ ⟨rfl, rfl, _⟩; exact ok_same _ _ rfl rfl
  rintro _ _ U le ⟨rfl, rfl, -⟩ _
  exact ex_s20 { Q with st := 20, U := fun k => cond (Nat.beq k 20) U (Q.U k) } X G h0 le1 ho0 le2 ho1 le3 ho2 le4 ho3 le5 ho4 le6 ho5 le7 le8 ho6 le9 le10 ho7 le11 le12 hos le13 hx0 le14 hx1 le15 hx2 le16 le17 hoq le18 ho8 le19 ho9 le
theorem ex_s18 (Q : Xp) (X : ExX (fol b1 b2 w) A R h d os Q.g Q.e Q.l Q.eg Q.ee Q.el (Q.U 0).tk Q.gu Q.ea Q.la Q.gl) (G : ExG Q.gu Q.ea Q.la x) (h0 : 0 < (Q.U 0).tk) (le1 : (Q.U 0).tk ≤ (Q.U 1).tk) (ho0 : WdF (Q.o 0) (namedW (Q.gu.map (fun p : Bool × Nat => p.1))) (Q.U 1).tk) (le2 : (Q.U 1).tk ≤ (Q.U 2).tk) (ho1 : WdF (Q.o 1) (namedW (Q.ea.map (fun p : Bool × Nat => p.1))) (Q.U 2).tk) (le3 : (Q.U 2).tk ≤ (Q.U 3).tk) (ho2 : WdF (Q.o 2) (lineW ((Q.o 0).map (fun p : Wd × Nat => p.1)) (Q.ea.map (fun p : Bool × Nat => p.1))) (Q.U 3).tk) (le4 : (Q.U 3).tk ≤ (Q.U 4).tk) (ho3 : WdF (Q.o 3) (lineW ((Q.o 2).map (fun p : Wd × Nat => p.1)) (Q.la.map (fun p : Bool × Nat => p.1))) (Q.U 4).tk) (le5 : (Q.U 4).tk ≤ (Q.U 5).tk) (ho4 : WdF (Q.o 4) (lineW ((Q.o 1).map (fun p : Wd × Nat => p.1)) (Q.la.map (fun p : Bool × Nat => p.1))) (Q.U 5).tk) (le6 : (Q.U 5).tk ≤ (Q.U 6).tk) (ho5 : (Q.o 5).map (fun p : Wd × Nat => p.1) = parkedW ((Q.o 0).map (fun p : Wd × Nat => p.1)) (Q.ea.map (fun p : Bool × Nat => p.1))) (le7 : (Q.U 6).tk ≤ (Q.U 7).tk) (le8 : (Q.U 7).tk ≤ (Q.U 8).tk) (ho6 : (Q.o 6).map (fun p : Wd × Nat => p.1) = parkedW ((Q.o 2).map (fun p : Wd × Nat => p.1)) (Q.la.map (fun p : Bool × Nat => p.1))) (le9 : (Q.U 8).tk ≤ (Q.U 9).tk) (le10 : (Q.U 9).tk ≤ (Q.U 10).tk) (ho7 : (Q.o 7).map (fun p : Wd × Nat => p.1) = parkedW ((Q.o 1).map (fun p : Wd × Nat => p.1)) (Q.la.map (fun p : Bool × Nat => p.1))) (le11 : (Q.U 10).tk ≤ (Q.U 11).tk) (le12 : (Q.U 11).tk ≤ (Q.U 12).tk) (hos : Q.os.map (fun p : Bool × Nat => p.1) = marksW ((Q.o 4).map (fun p : Wd × Nat => p.1))) (le13 : (Q.U 12).tk ≤ (Q.U 13).tk) (hx0 : Q.x0 = packI (Q.ea.map (fun p : Bool × Nat => p.1)) 7) (le14 : (Q.U 13).tk ≤ (Q.U 14).tk) (hx1 : Q.x1 = packI (Q.la.map (fun p : Bool × Nat => p.1)) 7) (le15 : (Q.U 14).tk ≤ (Q.U 15).tk) (hx2 : Q.x2 = packI (Q.os.map (fun p : Bool × Nat => p.1)) 7) (le16 : (Q.U 15).tk ≤ (Q.U 16).tk) (le17 : (Q.U 16).tk ≤ (Q.U 17).tk) (hoq : Q.oq.map (fun p : Bool × Nat => p.1) = (List.range 7).map (bitW x)) (le18 : (Q.U 17).tk ≤ (Q.U 18).tk) (ho8 : WdF (Q.o 8) (lineW ((Q.o 0).map (fun p : Wd × Nat => p.1)) (Q.oq.map (fun p : Bool × Nat => p.1))) (Q.U 18).tk) :
    SatX (vOf pw (fol b1 b2 w) A R) h ([(Q.g + 178, lst (Q.gu.map bvv) Q.eg), (Q.e + 178, lst (Q.ea.map bvv) Q.ee), (Q.l + 178, lst (Q.la.map bvv) Q.el), (121, tab0)].map (·.1)) d os (Q.U 18).tk (xo18 b2 (fol b1 b2 w) Q.q) := by
  have ls : Q.os.length = 7 := by have := congrArg List.length hos; simpa [marksW, ho4.len] using this
  have r := ex_r18 b1 b2 w Q.q
  refine sat_nx (D := 150) r (line_T (fol b1 b2 w) (Q.U 18).tk (by omega) Q.gl (Q.y 8) ((Q.U 11).n + 1) 7 7 (Q.o 8) Q.os ho8.len ls ho8.bare (ho8.at (by omega)) Q.c1 Q.c2 Q.a Q.b Q.r) (Nat.le_refl _) (by decide) (by decide) X.hA X.hdep X.Pr ?_ ?_ ?_
  · rintro _ _ _ _ ⟨_, _, _, hgl, _⟩; exact hgl
  · rintro _ _ _ ⟨_, _, rfl, _, rfl, _⟩; exact ok_new rfl (ex_f18 b1 b2 w Q.q)
  rintro _ _ U le ⟨y, l, rfl, -, rfl, hl, bl⟩ _
  exact ex_s19 { Q with st := 19, y := fun k => cond (Nat.beq k 9) y (Q.y k), o := fun k => cond (Nat.beq k 9) l (Q.o k), U := fun k => cond (Nat.beq k 19) U (Q.U k) } X G h0 le1 ho0 le2 ho1 le3 ho2 le4 ho3 le5 ho4 le6 ho5 le7 le8 ho6 le9 le10 ho7 le11 le12 hos le13 hx0 le14 hx1 le15 hx2 le16 le17 hoq le18 ho8 le hl
theorem ex_s17 (Q : Xp) (X : ExX (fol b1 b2 w) A R h d os Q.g Q.e Q.l Q.eg Q.ee Q.el (Q.U 0).tk Q.gu Q.ea Q.la Q.gl) (G : ExG Q.gu Q.ea Q.la x) (h0 : 0 < (Q.U 0).tk) (le1 : (Q.U 0).tk ≤ (Q.U 1).tk) (ho0 : WdF (Q.o 0) (namedW (Q.gu.map (fun p : Bool × Nat => p.1))) (Q.U 1).tk) (le2 : (Q.U 1).tk ≤ (Q.U 2).tk) (ho1 : WdF (Q.o 1) (namedW (Q.ea.map (fun p : Bool × Nat => p.1))) (Q.U 2).tk) (le3 : (Q.U 2).tk ≤ (Q.U 3).tk) (ho2 : WdF (Q.o 2) (lineW ((Q.o 0).map (fun p : Wd × Nat => p.1)) (Q.ea.map (fun p : Bool × Nat => p.1))) (Q.U 3).tk) (le4 : (Q.U 3).tk ≤ (Q.U 4).tk) (ho3 : WdF (Q.o 3) (lineW ((Q.o 2).map (fun p : Wd × Nat => p.1)) (Q.la.map (fun p : Bool × Nat => p.1))) (Q.U 4).tk) (le5 : (Q.U 4).tk ≤ (Q.U 5).tk) (ho4 : WdF (Q.o 4) (lineW ((Q.o 1).map (fun p : Wd × Nat => p.1)) (Q.la.map (fun p : Bool × Nat => p.1))) (Q.U 5).tk) (le6 : (Q.U 5).tk ≤ (Q.U 6).tk) (ho5 : (Q.o 5).map (fun p : Wd × Nat => p.1) = parkedW ((Q.o 0).map (fun p : Wd × Nat => p.1)) (Q.ea.map (fun p : Bool × Nat => p.1))) (le7 : (Q.U 6).tk ≤ (Q.U 7).tk) (le8 : (Q.U 7).tk ≤ (Q.U 8).tk) (ho6 : (Q.o 6).map (fun p : Wd × Nat => p.1) = parkedW ((Q.o 2).map (fun p : Wd × Nat => p.1)) (Q.la.map (fun p : Bool × Nat => p.1))) (le9 : (Q.U 8).tk ≤ (Q.U 9).tk) (le10 : (Q.U 9).tk ≤ (Q.U 10).tk) (ho7 : (Q.o 7).map (fun p : Wd × Nat => p.1) = parkedW ((Q.o 1).map (fun p : Wd × Nat => p.1)) (Q.la.map (fun p : Bool × Nat => p.1))) (le11 : (Q.U 10).tk ≤ (Q.U 11).tk) (le12 : (Q.U 11).tk ≤ (Q.U 12).tk) (hos : Q.os.map (fun p : Bool × Nat => p.1) = marksW ((Q.o 4).map (fun p : Wd × Nat => p.1))) (le13 : (Q.U 12).tk ≤ (Q.U 13).tk) (hx0 : Q.x0 = packI (Q.ea.map (fun p : Bool × Nat => p.1)) 7) (le14 : (Q.U 13).tk ≤ (Q.U 14).tk) (hx1 : Q.x1 = packI (Q.la.map (fun p : Bool × Nat => p.1)) 7) (le15 : (Q.U 14).tk ≤ (Q.U 15).tk) (hx2 : Q.x2 = packI (Q.os.map (fun p : Bool × Nat => p.1)) 7) (le16 : (Q.U 15).tk ≤ (Q.U 16).tk) (le17 : (Q.U 16).tk ≤ (Q.U 17).tk) (hoq : Q.oq.map (fun p : Bool × Nat => p.1) = (List.range 7).map (bitW x)) :
    SatX (vOf pw (fol b1 b2 w) A R) h ([(Q.g + 178, lst (Q.gu.map bvv) Q.eg), (Q.e + 178, lst (Q.ea.map bvv) Q.ee), (Q.l + 178, lst (Q.la.map bvv) Q.el), (121, tab0)].map (·.1)) d os (Q.U 17).tk (xo17 b2 (fol b1 b2 w) Q.q) := by
  have lq : Q.oq.length = 7 := by have := congrArg List.length hoq; simpa using this
  have evq : vals Q.q.vq 0 7 = Q.oq.map bvv := vals_map Q.oq bvv lq
  have r := ex_r17 b1 b2 w Q.q
  rw [evq] at r
  refine sat_nx (D := 150) r (line_T (fol b1 b2 w) (Q.U 17).tk (by omega) Q.gl (Q.y 0) ((Q.U 16).n + 2) 7 7 (Q.o 0) Q.oq ho0.len lq ho0.bare (ho0.at (by omega)) Q.c1 Q.c2 Q.a Q.b Q.r) (Nat.le_refl _) (by decide) (by decide) X.hA X.hdep X.Pr ?_ ?_ ?_
  · rintro _ _ _ _ ⟨_, _, _, hgl, _⟩; exact hgl
  · rintro _ _ _ ⟨_, _, rfl, _, rfl, _⟩; exact ok_new rfl (ex_f17 b1 b2 w Q.q)
  rintro _ _ U le ⟨y, l, rfl, -, rfl, hl, bl⟩ _
  rw [← evq]
  exact ex_s18 { Q with st := 18, y := fun k => cond (Nat.beq k 8) y (Q.y k), o := fun k => cond (Nat.beq k 8) l (Q.o k), U := fun k => cond (Nat.beq k 18) U (Q.U k) } X G h0 le1 ho0 le2 ho1 le3 ho2 le4 ho3 le5 ho4 le6 ho5 le7 le8 ho6 le9 le10 ho7 le11 le12 hos le13 hx0 le14 hx1 le15 hx2 le16 le17 hoq le (WdF.of hl (lineW_len _ _) (lineW_bare _ _) bl)
theorem ex_s16 (Q : Xp) (X : ExX (fol b1 b2 w) A R h d os Q.g Q.e Q.l Q.eg Q.ee Q.el (Q.U 0).tk Q.gu Q.ea Q.la Q.gl) (G : ExG Q.gu Q.ea Q.la x) (h0 : 0 < (Q.U 0).tk) (le1 : (Q.U 0).tk ≤ (Q.U 1).tk) (ho0 : WdF (Q.o 0) (namedW (Q.gu.map (fun p : Bool × Nat => p.1))) (Q.U 1).tk) (le2 : (Q.U 1).tk ≤ (Q.U 2).tk) (ho1 : WdF (Q.o 1) (namedW (Q.ea.map (fun p : Bool × Nat => p.1))) (Q.U 2).tk) (le3 : (Q.U 2).tk ≤ (Q.U 3).tk) (ho2 : WdF (Q.o 2) (lineW ((Q.o 0).map (fun p : Wd × Nat => p.1)) (Q.ea.map (fun p : Bool × Nat => p.1))) (Q.U 3).tk) (le4 : (Q.U 3).tk ≤ (Q.U 4).tk) (ho3 : WdF (Q.o 3) (lineW ((Q.o 2).map (fun p : Wd × Nat => p.1)) (Q.la.map (fun p : Bool × Nat => p.1))) (Q.U 4).tk) (le5 : (Q.U 4).tk ≤ (Q.U 5).tk) (ho4 : WdF (Q.o 4) (lineW ((Q.o 1).map (fun p : Wd × Nat => p.1)) (Q.la.map (fun p : Bool × Nat => p.1))) (Q.U 5).tk) (le6 : (Q.U 5).tk ≤ (Q.U 6).tk) (ho5 : (Q.o 5).map (fun p : Wd × Nat => p.1) = parkedW ((Q.o 0).map (fun p : Wd × Nat => p.1)) (Q.ea.map (fun p : Bool × Nat => p.1))) (le7 : (Q.U 6).tk ≤ (Q.U 7).tk) (le8 : (Q.U 7).tk ≤ (Q.U 8).tk) (ho6 : (Q.o 6).map (fun p : Wd × Nat => p.1) = parkedW ((Q.o 2).map (fun p : Wd × Nat => p.1)) (Q.la.map (fun p : Bool × Nat => p.1))) (le9 : (Q.U 8).tk ≤ (Q.U 9).tk) (le10 : (Q.U 9).tk ≤ (Q.U 10).tk) (ho7 : (Q.o 7).map (fun p : Wd × Nat => p.1) = parkedW ((Q.o 1).map (fun p : Wd × Nat => p.1)) (Q.la.map (fun p : Bool × Nat => p.1))) (le11 : (Q.U 10).tk ≤ (Q.U 11).tk) (le12 : (Q.U 11).tk ≤ (Q.U 12).tk) (hos : Q.os.map (fun p : Bool × Nat => p.1) = marksW ((Q.o 4).map (fun p : Wd × Nat => p.1))) (le13 : (Q.U 12).tk ≤ (Q.U 13).tk) (hx0 : Q.x0 = packI (Q.ea.map (fun p : Bool × Nat => p.1)) 7) (le14 : (Q.U 13).tk ≤ (Q.U 14).tk) (hx1 : Q.x1 = packI (Q.la.map (fun p : Bool × Nat => p.1)) 7) (le15 : (Q.U 14).tk ≤ (Q.U 15).tk) (hx2 : Q.x2 = packI (Q.os.map (fun p : Bool × Nat => p.1)) 7) (le16 : (Q.U 15).tk ≤ (Q.U 16).tk) :
    SatX (vOf pw (fol b1 b2 w) A R) h ([(Q.g + 178, lst (Q.gu.map bvv) Q.eg), (Q.e + 178, lst (Q.ea.map bvv) Q.ee), (Q.l + 178, lst (Q.la.map bvv) Q.el), (121, tab0)].map (·.1)) d os (Q.U 16).tk (xo16 b2 (fol b1 b2 w) Q.q) := by
  have hsl : marksW (lineW (namedW (Q.ea.map (fun p : Bool × Nat => p.1))) (Q.la.map (fun p : Bool × Nat => p.1))) = Q.os.map (fun p : Bool × Nat => p.1) := by rw [hos, ho4.is, ho1.is]
  have e4 := G.GD.h4
  rw [hsl, ← hx0, ← hx1, ← hx2] at e4
  have e4' : Q.q.x0 + Q.q.x1 - Q.q.x2 = .ofNat x := e4
  have r := ex_r16 b1 b2 w Q.q
  rw [e4'] at r
  refine sat_nx (D := 150) r (qk_loop ⟨(Q.U 16).n + 1, (Q.U 16).n + 2, (Q.U 16).n + 3, (Q.U 0).n + 1, (Q.U 0).n⟩ Q.gl x G.GD.hx ((Q.U 15).tk + 9) (fol b1 b2 w) 0) (Nat.zero_le _) (by decide) (by decide) X.hA X.hdep X.Pr ?_ ?_ ?_
  · rintro _ _ _ _ ⟨_, _, _, _, _, hgl, _⟩; exact hgl
  · rintro _ _ _ ⟨_, _, _, _, rfl, _, _, rfl⟩; exact ok_same _ _ rfl rfl
  rintro _ _ U le ⟨l, h2, tq, xq, rfl, -, hl, rfl⟩ _
  have len_l : l.length = 7 := by have := congrArg List.length hl; simpa using this
  rw [← vals_map l bvv len_l, ← e4']
  exact ex_s17 { Q with st := 17, oq := l, h2 := h2, tq := tq, xq := xq, U := fun k => cond (Nat.beq k 17) U (Q.U k) } X G h0 le1 ho0 le2 ho1 le3 ho2 le4 ho3 le5 ho4 le6 ho5 le7 le8 ho6 le9 le10 ho7 le11 le12 hos le13 hx0 le14 hx1 le15 hx2 le16 le hl
theorem ex_s15 (Q : Xp) (X : ExX (fol b1 b2 w) A R h d os Q.g Q.e Q.l Q.eg Q.ee Q.el (Q.U 0).tk Q.gu Q.ea Q.la Q.gl) (G : ExG Q.gu Q.ea Q.la x) (h0 : 0 < (Q.U 0).tk) (le1 : (Q.U 0).tk ≤ (Q.U 1).tk) (ho0 : WdF (Q.o 0) (namedW (Q.gu.map (fun p : Bool × Nat => p.1))) (Q.U 1).tk) (le2 : (Q.U 1).tk ≤ (Q.U 2).tk) (ho1 : WdF (Q.o 1) (namedW (Q.ea.map (fun p : Bool × Nat => p.1))) (Q.U 2).tk) (le3 : (Q.U 2).tk ≤ (Q.U 3).tk) (ho2 : WdF (Q.o 2) (lineW ((Q.o 0).map (fun p : Wd × Nat => p.1)) (Q.ea.map (fun p : Bool × Nat => p.1))) (Q.U 3).tk) (le4 : (Q.U 3).tk ≤ (Q.U 4).tk) (ho3 : WdF (Q.o 3) (lineW ((Q.o 2).map (fun p : Wd × Nat => p.1)) (Q.la.map (fun p : Bool × Nat => p.1))) (Q.U 4).tk) (le5 : (Q.U 4).tk ≤ (Q.U 5).tk) (ho4 : WdF (Q.o 4) (lineW ((Q.o 1).map (fun p : Wd × Nat => p.1)) (Q.la.map (fun p : Bool × Nat => p.1))) (Q.U 5).tk) (le6 : (Q.U 5).tk ≤ (Q.U 6).tk) (ho5 : (Q.o 5).map (fun p : Wd × Nat => p.1) = parkedW ((Q.o 0).map (fun p : Wd × Nat => p.1)) (Q.ea.map (fun p : Bool × Nat => p.1))) (le7 : (Q.U 6).tk ≤ (Q.U 7).tk) (le8 : (Q.U 7).tk ≤ (Q.U 8).tk) (ho6 : (Q.o 6).map (fun p : Wd × Nat => p.1) = parkedW ((Q.o 2).map (fun p : Wd × Nat => p.1)) (Q.la.map (fun p : Bool × Nat => p.1))) (le9 : (Q.U 8).tk ≤ (Q.U 9).tk) (le10 : (Q.U 9).tk ≤ (Q.U 10).tk) (ho7 : (Q.o 7).map (fun p : Wd × Nat => p.1) = parkedW ((Q.o 1).map (fun p : Wd × Nat => p.1)) (Q.la.map (fun p : Bool × Nat => p.1))) (le11 : (Q.U 10).tk ≤ (Q.U 11).tk) (le12 : (Q.U 11).tk ≤ (Q.U 12).tk) (hos : Q.os.map (fun p : Bool × Nat => p.1) = marksW ((Q.o 4).map (fun p : Wd × Nat => p.1))) (le13 : (Q.U 12).tk ≤ (Q.U 13).tk) (hx0 : Q.x0 = packI (Q.ea.map (fun p : Bool × Nat => p.1)) 7) (le14 : (Q.U 13).tk ≤ (Q.U 14).tk) (hx1 : Q.x1 = packI (Q.la.map (fun p : Bool × Nat => p.1)) 7) (le15 : (Q.U 14).tk ≤ (Q.U 15).tk) (hx2 : Q.x2 = packI (Q.os.map (fun p : Bool × Nat => p.1)) 7) :
    SatX (vOf pw (fol b1 b2 w) A R) h ([(Q.g + 178, lst (Q.gu.map bvv) Q.eg), (Q.e + 178, lst (Q.ea.map bvv) Q.ee), (Q.l + 178, lst (Q.la.map bvv) Q.el), (121, tab0)].map (·.1)) d os (Q.U 15).tk (xo15 b2 (fol b1 b2 w) Q.q) := by
  have hsl : marksW (lineW (namedW (Q.ea.map (fun p : Bool × Nat => p.1))) (Q.la.map (fun p : Bool × Nat => p.1))) = Q.os.map (fun p : Bool × Nat => p.1) := by rw [hos, ho4.is, ho1.is]
  have e5 := G.GD.h5
  rw [hsl, ← hx0, ← hx1, ← hx2] at e5
  have r := ex_r15 b1 b2 w Q.q
  refine sat_nx (D := 150) r (int_ne_spec (fol b1 b2 w) 0 Q.gl _ _ _ _ e5) (Nat.zero_le _) (by decide) (by decide) X.hA X.hdep X.Pr ?_ ?_ ?_
  · rintro _ _ _ _ ⟨_, _, hgl⟩; exact hgl
  · rintro _ _ _ ⟨rfl, rfl, _⟩; exact ok_same _ _ rfl rfl
  rintro _ _ U le ⟨rfl, rfl, -⟩ _
  exact ex_s16 { Q with st := 16, U := fun k => cond (Nat.beq k 16) U (Q.U k) } X G h0 le1 ho0 le2 ho1 le3 ho2 le4 ho3 le5 ho4 le6 ho5 le7 le8 ho6 le9 le10 ho7 le11 le12 hos le13 hx0 le14 hx1 le15 hx2 le
theorem ex_s14 (Q : Xp) (X : ExX (fol b1 b2 w) A R h d os Q.g Q.e Q.l Q.eg Q.ee Q.el (Q.U 0).tk Q.gu Q.ea Q.la Q.gl) (G : ExG Q.gu Q.ea Q.la x) (h0 : 0 < (Q.U 0).tk) (le1 : (Q.U 0).tk ≤ (Q.U 1).tk) (ho0 : WdF (Q.o 0) (namedW (Q.gu.map (fun p : Bool × Nat => p.1))) (Q.U 1).tk) (le2 : (Q.U 1).tk ≤ (Q.U 2).tk) (ho1 : WdF (Q.o 1) (namedW (Q.ea.map (fun p : Bool × Nat => p.1))) (Q.U 2).tk) (le3 : (Q.U 2).tk ≤ (Q.U 3).tk) (ho2 : WdF (Q.o 2) (lineW ((Q.o 0).map (fun p : Wd × Nat => p.1)) (Q.ea.map (fun p : Bool × Nat => p.1))) (Q.U 3).tk) (le4 : (Q.U 3).tk ≤ (Q.U 4).tk) (ho3 : WdF (Q.o 3) (lineW ((Q.o 2).map (fun p : Wd × Nat => p.1)) (Q.la.map (fun p : Bool × Nat => p.1))) (Q.U 4).tk) (le5 : (Q.U 4).tk ≤ (Q.U 5).tk) (ho4 : WdF (Q.o 4) (lineW ((Q.o 1).map (fun p : Wd × Nat => p.1)) (Q.la.map (fun p : Bool × Nat => p.1))) (Q.U 5).tk) (le6 : (Q.U 5).tk ≤ (Q.U 6).tk) (ho5 : (Q.o 5).map (fun p : Wd × Nat => p.1) = parkedW ((Q.o 0).map (fun p : Wd × Nat => p.1)) (Q.ea.map (fun p : Bool × Nat => p.1))) (le7 : (Q.U 6).tk ≤ (Q.U 7).tk) (le8 : (Q.U 7).tk ≤ (Q.U 8).tk) (ho6 : (Q.o 6).map (fun p : Wd × Nat => p.1) = parkedW ((Q.o 2).map (fun p : Wd × Nat => p.1)) (Q.la.map (fun p : Bool × Nat => p.1))) (le9 : (Q.U 8).tk ≤ (Q.U 9).tk) (le10 : (Q.U 9).tk ≤ (Q.U 10).tk) (ho7 : (Q.o 7).map (fun p : Wd × Nat => p.1) = parkedW ((Q.o 1).map (fun p : Wd × Nat => p.1)) (Q.la.map (fun p : Bool × Nat => p.1))) (le11 : (Q.U 10).tk ≤ (Q.U 11).tk) (le12 : (Q.U 11).tk ≤ (Q.U 12).tk) (hos : Q.os.map (fun p : Bool × Nat => p.1) = marksW ((Q.o 4).map (fun p : Wd × Nat => p.1))) (le13 : (Q.U 12).tk ≤ (Q.U 13).tk) (hx0 : Q.x0 = packI (Q.ea.map (fun p : Bool × Nat => p.1)) 7) (le14 : (Q.U 13).tk ≤ (Q.U 14).tk) (hx1 : Q.x1 = packI (Q.la.map (fun p : Bool × Nat => p.1)) 7) :
    SatX (vOf pw (fol b1 b2 w) A R) h ([(Q.g + 178, lst (Q.gu.map bvv) Q.eg), (Q.e + 178, lst (Q.ea.map bvv) Q.ee), (Q.l + 178, lst (Q.la.map bvv) Q.el), (121, tab0)].map (·.1)) d os (Q.U 14).tk (xo14 b2 (fol b1 b2 w) Q.q) := by
  have ls : Q.os.length = 7 := by have := congrArg List.length hos; simpa [marksW, ho4.len] using this
  have r := ex_r14 b1 b2 w Q.q
  refine sat_nx (D := 150) r (packed_spec (fol b1 b2 w) 0 Q.gl ((Q.U 11).n + 1) 7 Q.os ls) (Nat.zero_le _) (by decide) (by decide) X.hA X.hdep X.Pr ?_ ?_ ?_
  · rintro _ _ _ _ ⟨_, _, hgl, _⟩; exact hgl
  · rintro _ _ _ ⟨_, rfl, _, rfl, _⟩; exact ok_same _ _ rfl rfl
  rintro _ _ U le ⟨t, rfl, -, rfl, -⟩ _
  exact ex_s15 { Q with st := 15, x2 := packI (Q.os.map (fun p : Bool × Nat => p.1)) 7, t2 := t, U := fun k => cond (Nat.beq k 15) U (Q.U k) } X G h0 le1 ho0 le2 ho1 le3 ho2 le4 ho3 le5 ho4 le6 ho5 le7 le8 ho6 le9 le10 ho7 le11 le12 hos le13 hx0 le14 hx1 le rfl
theorem ex_s13 (Q : Xp) (X : ExX (fol b1 b2 w) A R h d os Q.g Q.e Q.l Q.eg Q.ee Q.el (Q.U 0).tk Q.gu Q.ea Q.la Q.gl) (G : ExG Q.gu Q.ea Q.la x) (h0 : 0 < (Q.U 0).tk) (le1 : (Q.U 0).tk ≤ (Q.U 1).tk) (ho0 : WdF (Q.o 0) (namedW (Q.gu.map (fun p : Bool × Nat => p.1))) (Q.U 1).tk) (le2 : (Q.U 1).tk ≤ (Q.U 2).tk) (ho1 : WdF (Q.o 1) (namedW (Q.ea.map (fun p : Bool × Nat => p.1))) (Q.U 2).tk) (le3 : (Q.U 2).tk ≤ (Q.U 3).tk) (ho2 : WdF (Q.o 2) (lineW ((Q.o 0).map (fun p : Wd × Nat => p.1)) (Q.ea.map (fun p : Bool × Nat => p.1))) (Q.U 3).tk) (le4 : (Q.U 3).tk ≤ (Q.U 4).tk) (ho3 : WdF (Q.o 3) (lineW ((Q.o 2).map (fun p : Wd × Nat => p.1)) (Q.la.map (fun p : Bool × Nat => p.1))) (Q.U 4).tk) (le5 : (Q.U 4).tk ≤ (Q.U 5).tk) (ho4 : WdF (Q.o 4) (lineW ((Q.o 1).map (fun p : Wd × Nat => p.1)) (Q.la.map (fun p : Bool × Nat => p.1))) (Q.U 5).tk) (le6 : (Q.U 5).tk ≤ (Q.U 6).tk) (ho5 : (Q.o 5).map (fun p : Wd × Nat => p.1) = parkedW ((Q.o 0).map (fun p : Wd × Nat => p.1)) (Q.ea.map (fun p : Bool × Nat => p.1))) (le7 : (Q.U 6).tk ≤ (Q.U 7).tk) (le8 : (Q.U 7).tk ≤ (Q.U 8).tk) (ho6 : (Q.o 6).map (fun p : Wd × Nat => p.1) = parkedW ((Q.o 2).map (fun p : Wd × Nat => p.1)) (Q.la.map (fun p : Bool × Nat => p.1))) (le9 : (Q.U 8).tk ≤ (Q.U 9).tk) (le10 : (Q.U 9).tk ≤ (Q.U 10).tk) (ho7 : (Q.o 7).map (fun p : Wd × Nat => p.1) = parkedW ((Q.o 1).map (fun p : Wd × Nat => p.1)) (Q.la.map (fun p : Bool × Nat => p.1))) (le11 : (Q.U 10).tk ≤ (Q.U 11).tk) (le12 : (Q.U 11).tk ≤ (Q.U 12).tk) (hos : Q.os.map (fun p : Bool × Nat => p.1) = marksW ((Q.o 4).map (fun p : Wd × Nat => p.1))) (le13 : (Q.U 12).tk ≤ (Q.U 13).tk) (hx0 : Q.x0 = packI (Q.ea.map (fun p : Bool × Nat => p.1)) 7) :
    SatX (vOf pw (fol b1 b2 w) A R) h ([(Q.g + 178, lst (Q.gu.map bvv) Q.eg), (Q.e + 178, lst (Q.ea.map bvv) Q.ee), (Q.l + 178, lst (Q.la.map bvv) Q.el), (121, tab0)].map (·.1)) d os (Q.U 13).tk (xo13 b2 (fol b1 b2 w) Q.q) := by
  have r := ex_r13 b1 b2 w Q.q
  refine sat_nx (D := 150) r (packed_spec (fol b1 b2 w) 0 Q.gl Q.l Q.el Q.la G.hla) (Nat.zero_le _) (by decide) (by decide) X.hA X.hdep X.Pr ?_ ?_ ?_
  · rintro _ _ _ _ ⟨_, _, hgl, _⟩; exact hgl
  · rintro _ _ _ ⟨_, rfl, _, rfl, _⟩; exact ok_same _ _ rfl rfl
  rintro _ _ U le ⟨t, rfl, -, rfl, -⟩ _
  exact ex_s14 { Q with st := 14, x1 := packI (Q.la.map (fun p : Bool × Nat => p.1)) 7, t1 := t, U := fun k => cond (Nat.beq k 14) U (Q.U k) } X G h0 le1 ho0 le2 ho1 le3 ho2 le4 ho3 le5 ho4 le6 ho5 le7 le8 ho6 le9 le10 ho7 le11 le12 hos le13 hx0 le rfl
theorem ex_s12 (Q : Xp) (X : ExX (fol b1 b2 w) A R h d os Q.g Q.e Q.l Q.eg Q.ee Q.el (Q.U 0).tk Q.gu Q.ea Q.la Q.gl) (G : ExG Q.gu Q.ea Q.la x) (h0 : 0 < (Q.U 0).tk) (le1 : (Q.U 0).tk ≤ (Q.U 1).tk) (ho0 : WdF (Q.o 0) (namedW (Q.gu.map (fun p : Bool × Nat => p.1))) (Q.U 1).tk) (le2 : (Q.U 1).tk ≤ (Q.U 2).tk) (ho1 : WdF (Q.o 1) (namedW (Q.ea.map (fun p : Bool × Nat => p.1))) (Q.U 2).tk) (le3 : (Q.U 2).tk ≤ (Q.U 3).tk) (ho2 : WdF (Q.o 2) (lineW ((Q.o 0).map (fun p : Wd × Nat => p.1)) (Q.ea.map (fun p : Bool × Nat => p.1))) (Q.U 3).tk) (le4 : (Q.U 3).tk ≤ (Q.U 4).tk) (ho3 : WdF (Q.o 3) (lineW ((Q.o 2).map (fun p : Wd × Nat => p.1)) (Q.la.map (fun p : Bool × Nat => p.1))) (Q.U 4).tk) (le5 : (Q.U 4).tk ≤ (Q.U 5).tk) (ho4 : WdF (Q.o 4) (lineW ((Q.o 1).map (fun p : Wd × Nat => p.1)) (Q.la.map (fun p : Bool × Nat => p.1))) (Q.U 5).tk) (le6 : (Q.U 5).tk ≤ (Q.U 6).tk) (ho5 : (Q.o 5).map (fun p : Wd × Nat => p.1) = parkedW ((Q.o 0).map (fun p : Wd × Nat => p.1)) (Q.ea.map (fun p : Bool × Nat => p.1))) (le7 : (Q.U 6).tk ≤ (Q.U 7).tk) (le8 : (Q.U 7).tk ≤ (Q.U 8).tk) (ho6 : (Q.o 6).map (fun p : Wd × Nat => p.1) = parkedW ((Q.o 2).map (fun p : Wd × Nat => p.1)) (Q.la.map (fun p : Bool × Nat => p.1))) (le9 : (Q.U 8).tk ≤ (Q.U 9).tk) (le10 : (Q.U 9).tk ≤ (Q.U 10).tk) (ho7 : (Q.o 7).map (fun p : Wd × Nat => p.1) = parkedW ((Q.o 1).map (fun p : Wd × Nat => p.1)) (Q.la.map (fun p : Bool × Nat => p.1))) (le11 : (Q.U 10).tk ≤ (Q.U 11).tk) (le12 : (Q.U 11).tk ≤ (Q.U 12).tk) (hos : Q.os.map (fun p : Bool × Nat => p.1) = marksW ((Q.o 4).map (fun p : Wd × Nat => p.1))) :
    SatX (vOf pw (fol b1 b2 w) A R) h ([(Q.g + 178, lst (Q.gu.map bvv) Q.eg), (Q.e + 178, lst (Q.ea.map bvv) Q.ee), (Q.l + 178, lst (Q.la.map bvv) Q.el), (121, tab0)].map (·.1)) d os (Q.U 12).tk (xo12 b2 (fol b1 b2 w) Q.q) := by
  have r := ex_r12 b1 b2 w Q.q
  refine sat_nx (D := 150) r (packed_spec (fol b1 b2 w) 0 Q.gl Q.e Q.ee Q.ea G.hea) (Nat.zero_le _) (by decide) (by decide) X.hA X.hdep X.Pr ?_ ?_ ?_
  · rintro _ _ _ _ ⟨_, _, hgl, _⟩; exact hgl
  · rintro _ _ _ ⟨_, rfl, _, rfl, _⟩; exact ok_same _ _ rfl rfl
  rintro _ _ U le ⟨t, rfl, -, rfl, -⟩ _
  exact ex_s13 { Q with st := 13, x0 := packI (Q.ea.map (fun p : Bool × Nat => p.1)) 7, t0 := t, U := fun k => cond (Nat.beq k 13) U (Q.U k) } X G h0 le1 ho0 le2 ho1 le3 ho2 le4 ho3 le5 ho4 le6 ho5 le7 le8 ho6 le9 le10 ho7 le11 le12 hos le rfl
theorem ex_s11 (Q : Xp) (X : ExX (fol b1 b2 w) A R h d os Q.g Q.e Q.l Q.eg Q.ee Q.el (Q.U 0).tk Q.gu Q.ea Q.la Q.gl) (G : ExG Q.gu Q.ea Q.la x) (h0 : 0 < (Q.U 0).tk) (le1 : (Q.U 0).tk ≤ (Q.U 1).tk) (ho0 : WdF (Q.o 0) (namedW (Q.gu.map (fun p : Bool × Nat => p.1))) (Q.U 1).tk) (le2 : (Q.U 1).tk ≤ (Q.U 2).tk) (ho1 : WdF (Q.o 1) (namedW (Q.ea.map (fun p : Bool × Nat => p.1))) (Q.U 2).tk) (le3 : (Q.U 2).tk ≤ (Q.U 3).tk) (ho2 : WdF (Q.o 2) (lineW ((Q.o 0).map (fun p : Wd × Nat => p.1)) (Q.ea.map (fun p : Bool × Nat => p.1))) (Q.U 3).tk) (le4 : (Q.U 3).tk ≤ (Q.U 4).tk) (ho3 : WdF (Q.o 3) (lineW ((Q.o 2).map (fun p : Wd × Nat => p.1)) (Q.la.map (fun p : Bool × Nat => p.1))) (Q.U 4).tk) (le5 : (Q.U 4).tk ≤ (Q.U 5).tk) (ho4 : WdF (Q.o 4) (lineW ((Q.o 1).map (fun p : Wd × Nat => p.1)) (Q.la.map (fun p : Bool × Nat => p.1))) (Q.U 5).tk) (le6 : (Q.U 5).tk ≤ (Q.U 6).tk) (ho5 : (Q.o 5).map (fun p : Wd × Nat => p.1) = parkedW ((Q.o 0).map (fun p : Wd × Nat => p.1)) (Q.ea.map (fun p : Bool × Nat => p.1))) (le7 : (Q.U 6).tk ≤ (Q.U 7).tk) (le8 : (Q.U 7).tk ≤ (Q.U 8).tk) (ho6 : (Q.o 6).map (fun p : Wd × Nat => p.1) = parkedW ((Q.o 2).map (fun p : Wd × Nat => p.1)) (Q.la.map (fun p : Bool × Nat => p.1))) (le9 : (Q.U 8).tk ≤ (Q.U 9).tk) (le10 : (Q.U 9).tk ≤ (Q.U 10).tk) (ho7 : (Q.o 7).map (fun p : Wd × Nat => p.1) = parkedW ((Q.o 1).map (fun p : Wd × Nat => p.1)) (Q.la.map (fun p : Bool × Nat => p.1))) (le11 : (Q.U 10).tk ≤ (Q.U 11).tk) :
    SatX (vOf pw (fol b1 b2 w) A R) h ([(Q.g + 178, lst (Q.gu.map bvv) Q.eg), (Q.e + 178, lst (Q.ea.map bvv) Q.ee), (Q.l + 178, lst (Q.la.map bvv) Q.el), (121, tab0)].map (·.1)) d os (Q.U 11).tk (xo11 b2 (fol b1 b2 w) Q.q) := by
  have ev4 : vals Q.q.v4 0 7 = (Q.o 4).map wvv := vals_map (Q.o 4) wvv ho4.len
  have r := ex_r11 b1 b2 w Q.q
  rw [ev4] at r
  refine sat_nx (D := 150) r (sw_loop ⟨(Q.U 11).n, Q.y 4, (Q.U 11).n + 1, (Q.U 11).n + 2, (Q.U 0).n⟩ Q.gl (Q.o 4) ho4.len ho4.bare 7 (fol b1 b2 w) 0) (Nat.zero_le _) (by decide) (by decide) X.hA X.hdep X.Pr ?_ ?_ ?_
  · rintro _ _ _ _ ⟨_, _, _, _, _, hgl, _⟩; exact hgl
  · rintro _ _ _ ⟨_, _, _, _, rfl, _, _, rfl⟩; exact ok_same _ _ rfl rfl
  rintro _ _ U le ⟨l, hh, tt, xv, rfl, -, hl, rfl⟩ _
  rw [← ev4]
  exact ex_s12 { Q with st := 12, os := l, hh := hh, tt := tt, xv := xv, U := fun k => cond (Nat.beq k 12) U (Q.U k) } X G h0 le1 ho0 le2 ho1 le3 ho2 le4 ho3 le5 ho4 le6 ho5 le7 le8 ho6 le9 le10 ho7 le11 le hl
theorem ex_s10 (Q : Xp) (X : ExX (fol b1 b2 w) A R h d os Q.g Q.e Q.l Q.eg Q.ee Q.el (Q.U 0).tk Q.gu Q.ea Q.la Q.gl) (G : ExG Q.gu Q.ea Q.la x) (h0 : 0 < (Q.U 0).tk) (le1 : (Q.U 0).tk ≤ (Q.U 1).tk) (ho0 : WdF (Q.o 0) (namedW (Q.gu.map (fun p : Bool × Nat => p.1))) (Q.U 1).tk) (le2 : (Q.U 1).tk ≤ (Q.U 2).tk) (ho1 : WdF (Q.o 1) (namedW (Q.ea.map (fun p : Bool × Nat => p.1))) (Q.U 2).tk) (le3 : (Q.U 2).tk ≤ (Q.U 3).tk) (ho2 : WdF (Q.o 2) (lineW ((Q.o 0).map (fun p : Wd × Nat => p.1)) (Q.ea.map (fun p : Bool × Nat => p.1))) (Q.U 3).tk) (le4 : (Q.U 3).tk ≤ (Q.U 4).tk) (ho3 : WdF (Q.o 3) (lineW ((Q.o 2).map (fun p : Wd × Nat => p.1)) (Q.la.map (fun p : Bool × Nat => p.1))) (Q.U 4).tk) (le5 : (Q.U 4).tk ≤ (Q.U 5).tk) (ho4 : WdF (Q.o 4) (lineW ((Q.o 1).map (fun p : Wd × Nat => p.1)) (Q.la.map (fun p : Bool × Nat => p.1))) (Q.U 5).tk) (le6 : (Q.U 5).tk ≤ (Q.U 6).tk) (ho5 : (Q.o 5).map (fun p : Wd × Nat => p.1) = parkedW ((Q.o 0).map (fun p : Wd × Nat => p.1)) (Q.ea.map (fun p : Bool × Nat => p.1))) (le7 : (Q.U 6).tk ≤ (Q.U 7).tk) (le8 : (Q.U 7).tk ≤ (Q.U 8).tk) (ho6 : (Q.o 6).map (fun p : Wd × Nat => p.1) = parkedW ((Q.o 2).map (fun p : Wd × Nat => p.1)) (Q.la.map (fun p : Bool × Nat => p.1))) (le9 : (Q.U 8).tk ≤ (Q.U 9).tk) (le10 : (Q.U 9).tk ≤ (Q.U 10).tk) (ho7 : (Q.o 7).map (fun p : Wd × Nat => p.1) = parkedW ((Q.o 1).map (fun p : Wd × Nat => p.1)) (Q.la.map (fun p : Bool × Nat => p.1))) :
    SatX (vOf pw (fol b1 b2 w) A R) h ([(Q.g + 178, lst (Q.gu.map bvv) Q.eg), (Q.e + 178, lst (Q.ea.map bvv) Q.ee), (Q.l + 178, lst (Q.la.map bvv) Q.el), (121, tab0)].map (·.1)) d os (Q.U 10).tk (xo10 b2 (fol b1 b2 w) Q.q) := by
  have ev4 : vals Q.q.v4 0 7 = (Q.o 4).map wvv := vals_map (Q.o 4) wvv ho4.len
  have r := ex_r10 b1 b2 w Q.q
  rw [ev4] at r
  refine sat_nx (D := 150) r (words_ne (fol b1 b2 w) 0 Q.gl (Q.y 4) (Q.y 7) 7 7 (Q.o 4) (Q.o 7) (by rw [ho4.is, ho7, ho1.is]; exact G.GD.h3)) (Nat.zero_le _) (by decide) (by decide) X.hA X.hdep X.Pr ?_ ?_ ?_
  · rintro _ _ _ _ ⟨_, _, hgl⟩; exact hgl
  · rintro _ _ _ ⟨rfl, rfl, _⟩; exact ok_same _ _ rfl rfl
  rintro _ _ U le ⟨rfl, rfl, -⟩ _
  rw [← ev4]
  exact ex_s11 { Q with st := 11, U := fun k => cond (Nat.beq k 11) U (Q.U k) } X G h0 le1 ho0 le2 ho1 le3 ho2 le4 ho3 le5 ho4 le6 ho5 le7 le8 ho6 le9 le10 ho7 le
theorem ex_s9 (Q : Xp) (X : ExX (fol b1 b2 w) A R h d os Q.g Q.e Q.l Q.eg Q.ee Q.el (Q.U 0).tk Q.gu Q.ea Q.la Q.gl) (G : ExG Q.gu Q.ea Q.la x) (h0 : 0 < (Q.U 0).tk) (le1 : (Q.U 0).tk ≤ (Q.U 1).tk) (ho0 : WdF (Q.o 0) (namedW (Q.gu.map (fun p : Bool × Nat => p.1))) (Q.U 1).tk) (le2 : (Q.U 1).tk ≤ (Q.U 2).tk) (ho1 : WdF (Q.o 1) (namedW (Q.ea.map (fun p : Bool × Nat => p.1))) (Q.U 2).tk) (le3 : (Q.U 2).tk ≤ (Q.U 3).tk) (ho2 : WdF (Q.o 2) (lineW ((Q.o 0).map (fun p : Wd × Nat => p.1)) (Q.ea.map (fun p : Bool × Nat => p.1))) (Q.U 3).tk) (le4 : (Q.U 3).tk ≤ (Q.U 4).tk) (ho3 : WdF (Q.o 3) (lineW ((Q.o 2).map (fun p : Wd × Nat => p.1)) (Q.la.map (fun p : Bool × Nat => p.1))) (Q.U 4).tk) (le5 : (Q.U 4).tk ≤ (Q.U 5).tk) (ho4 : WdF (Q.o 4) (lineW ((Q.o 1).map (fun p : Wd × Nat => p.1)) (Q.la.map (fun p : Bool × Nat => p.1))) (Q.U 5).tk) (le6 : (Q.U 5).tk ≤ (Q.U 6).tk) (ho5 : (Q.o 5).map (fun p : Wd × Nat => p.1) = parkedW ((Q.o 0).map (fun p : Wd × Nat => p.1)) (Q.ea.map (fun p : Bool × Nat => p.1))) (le7 : (Q.U 6).tk ≤ (Q.U 7).tk) (le8 : (Q.U 7).tk ≤ (Q.U 8).tk) (ho6 : (Q.o 6).map (fun p : Wd × Nat => p.1) = parkedW ((Q.o 2).map (fun p : Wd × Nat => p.1)) (Q.la.map (fun p : Bool × Nat => p.1))) (le9 : (Q.U 8).tk ≤ (Q.U 9).tk) :
    SatX (vOf pw (fol b1 b2 w) A R) h ([(Q.g + 178, lst (Q.gu.map bvv) Q.eg), (Q.e + 178, lst (Q.ea.map bvv) Q.ee), (Q.l + 178, lst (Q.la.map bvv) Q.el), (121, tab0)].map (·.1)) d os (Q.U 9).tk (xo9 b2 (fol b1 b2 w) Q.q) := by
  have ev1 : vals Q.q.v1 0 7 = (Q.o 1).map wvv := vals_map (Q.o 1) wvv ho1.len
  have r := ex_r9 b1 b2 w Q.q
  rw [ev1] at r
  refine sat_nx (D := 150) r (parked_spec (fol b1 b2 w) (Q.U 9).tk Q.gl (Q.y 1) Q.l 7 Q.el (Q.o 1) Q.la ho1.len G.hla ho1.bare (ho1.at (by omega))) (Nat.le_refl _) (by decide) (by decide) X.hA X.hdep X.Pr ?_ ?_ ?_
  · rintro _ _ _ _ ⟨_, _, _, hgl, _⟩; exact hgl
  · rintro _ _ _ ⟨_, _, rfl, _, rfl, _⟩; exact ok_new rfl (ex_f9 b1 b2 w Q.q)
  rintro _ _ U le ⟨y, l, rfl, -, rfl, hl, _⟩ _
  rw [← ev1]
  exact ex_s10 { Q with st := 10, y := fun k => cond (Nat.beq k 7) y (Q.y k), o := fun k => cond (Nat.beq k 7) l (Q.o k), U := fun k => cond (Nat.beq k 10) U (Q.U k) } X G h0 le1 ho0 le2 ho1 le3 ho2 le4 ho3 le5 ho4 le6 ho5 le7 le8 ho6 le9 le hl
theorem ex_s8 (Q : Xp) (X : ExX (fol b1 b2 w) A R h d os Q.g Q.e Q.l Q.eg Q.ee Q.el (Q.U 0).tk Q.gu Q.ea Q.la Q.gl) (G : ExG Q.gu Q.ea Q.la x) (h0 : 0 < (Q.U 0).tk) (le1 : (Q.U 0).tk ≤ (Q.U 1).tk) (ho0 : WdF (Q.o 0) (namedW (Q.gu.map (fun p : Bool × Nat => p.1))) (Q.U 1).tk) (le2 : (Q.U 1).tk ≤ (Q.U 2).tk) (ho1 : WdF (Q.o 1) (namedW (Q.ea.map (fun p : Bool × Nat => p.1))) (Q.U 2).tk) (le3 : (Q.U 2).tk ≤ (Q.U 3).tk) (ho2 : WdF (Q.o 2) (lineW ((Q.o 0).map (fun p : Wd × Nat => p.1)) (Q.ea.map (fun p : Bool × Nat => p.1))) (Q.U 3).tk) (le4 : (Q.U 3).tk ≤ (Q.U 4).tk) (ho3 : WdF (Q.o 3) (lineW ((Q.o 2).map (fun p : Wd × Nat => p.1)) (Q.la.map (fun p : Bool × Nat => p.1))) (Q.U 4).tk) (le5 : (Q.U 4).tk ≤ (Q.U 5).tk) (ho4 : WdF (Q.o 4) (lineW ((Q.o 1).map (fun p : Wd × Nat => p.1)) (Q.la.map (fun p : Bool × Nat => p.1))) (Q.U 5).tk) (le6 : (Q.U 5).tk ≤ (Q.U 6).tk) (ho5 : (Q.o 5).map (fun p : Wd × Nat => p.1) = parkedW ((Q.o 0).map (fun p : Wd × Nat => p.1)) (Q.ea.map (fun p : Bool × Nat => p.1))) (le7 : (Q.U 6).tk ≤ (Q.U 7).tk) (le8 : (Q.U 7).tk ≤ (Q.U 8).tk) (ho6 : (Q.o 6).map (fun p : Wd × Nat => p.1) = parkedW ((Q.o 2).map (fun p : Wd × Nat => p.1)) (Q.la.map (fun p : Bool × Nat => p.1))) :
    SatX (vOf pw (fol b1 b2 w) A R) h ([(Q.g + 178, lst (Q.gu.map bvv) Q.eg), (Q.e + 178, lst (Q.ea.map bvv) Q.ee), (Q.l + 178, lst (Q.la.map bvv) Q.el), (121, tab0)].map (·.1)) d os (Q.U 8).tk (xo8 b2 (fol b1 b2 w) Q.q) := by
  have r := ex_r8 b1 b2 w Q.q
  refine sat_nx (D := 150) r (words_ne (fol b1 b2 w) 0 Q.gl (Q.y 3) (Q.y 6) 7 7 (Q.o 3) (Q.o 6) (by rw [ho3.is, ho6, ho2.is, ho0.is]; exact G.GD.h2)) (Nat.zero_le _) (by decide) (by decide) X.hA X.hdep X.Pr ?_ ?_ ?_
  · rintro _ _ _ _ ⟨_, _, hgl⟩; exact hgl
  · rintro _ _ _ ⟨rfl, rfl, _⟩; exact ok_same _ _ rfl rfl
  rintro _ _ U le ⟨rfl, rfl, -⟩ _
  exact ex_s9 { Q with st := 9, U := fun k => cond (Nat.beq k 9) U (Q.U k) } X G h0 le1 ho0 le2 ho1 le3 ho2 le4 ho3 le5 ho4 le6 ho5 le7 le8 ho6 le
theorem ex_s7 (Q : Xp) (X : ExX (fol b1 b2 w) A R h d os Q.g Q.e Q.l Q.eg Q.ee Q.el (Q.U 0).tk Q.gu Q.ea Q.la Q.gl) (G : ExG Q.gu Q.ea Q.la x) (h0 : 0 < (Q.U 0).tk) (le1 : (Q.U 0).tk ≤ (Q.U 1).tk) (ho0 : WdF (Q.o 0) (namedW (Q.gu.map (fun p : Bool × Nat => p.1))) (Q.U 1).tk) (le2 : (Q.U 1).tk ≤ (Q.U 2).tk) (ho1 : WdF (Q.o 1) (namedW (Q.ea.map (fun p : Bool × Nat => p.1))) (Q.U 2).tk) (le3 : (Q.U 2).tk ≤ (Q.U 3).tk) (ho2 : WdF (Q.o 2) (lineW ((Q.o 0).map (fun p : Wd × Nat => p.1)) (Q.ea.map (fun p : Bool × Nat => p.1))) (Q.U 3).tk) (le4 : (Q.U 3).tk ≤ (Q.U 4).tk) (ho3 : WdF (Q.o 3) (lineW ((Q.o 2).map (fun p : Wd × Nat => p.1)) (Q.la.map (fun p : Bool × Nat => p.1))) (Q.U 4).tk) (le5 : (Q.U 4).tk ≤ (Q.U 5).tk) (ho4 : WdF (Q.o 4) (lineW ((Q.o 1).map (fun p : Wd × Nat => p.1)) (Q.la.map (fun p : Bool × Nat => p.1))) (Q.U 5).tk) (le6 : (Q.U 5).tk ≤ (Q.U 6).tk) (ho5 : (Q.o 5).map (fun p : Wd × Nat => p.1) = parkedW ((Q.o 0).map (fun p : Wd × Nat => p.1)) (Q.ea.map (fun p : Bool × Nat => p.1))) (le7 : (Q.U 6).tk ≤ (Q.U 7).tk) :
    SatX (vOf pw (fol b1 b2 w) A R) h ([(Q.g + 178, lst (Q.gu.map bvv) Q.eg), (Q.e + 178, lst (Q.ea.map bvv) Q.ee), (Q.l + 178, lst (Q.la.map bvv) Q.el), (121, tab0)].map (·.1)) d os (Q.U 7).tk (xo7 b2 (fol b1 b2 w) Q.q) := by
  have r := ex_r7 b1 b2 w Q.q
  refine sat_nx (D := 150) r (parked_spec (fol b1 b2 w) (Q.U 7).tk Q.gl (Q.y 2) Q.l 7 Q.el (Q.o 2) Q.la ho2.len G.hla ho2.bare (ho2.at (by omega))) (Nat.le_refl _) (by decide) (by decide) X.hA X.hdep X.Pr ?_ ?_ ?_
  · rintro _ _ _ _ ⟨_, _, _, hgl, _⟩; exact hgl
  · rintro _ _ _ ⟨_, _, rfl, _, rfl, _⟩; exact ok_new rfl (ex_f7 b1 b2 w Q.q)
  rintro _ _ U le ⟨y, l, rfl, -, rfl, hl, _⟩ _
  exact ex_s8 { Q with st := 8, y := fun k => cond (Nat.beq k 6) y (Q.y k), o := fun k => cond (Nat.beq k 6) l (Q.o k), U := fun k => cond (Nat.beq k 8) U (Q.U k) } X G h0 le1 ho0 le2 ho1 le3 ho2 le4 ho3 le5 ho4 le6 ho5 le7 le hl
theorem ex_s6 (Q : Xp) (X : ExX (fol b1 b2 w) A R h d os Q.g Q.e Q.l Q.eg Q.ee Q.el (Q.U 0).tk Q.gu Q.ea Q.la Q.gl) (G : ExG Q.gu Q.ea Q.la x) (h0 : 0 < (Q.U 0).tk) (le1 : (Q.U 0).tk ≤ (Q.U 1).tk) (ho0 : WdF (Q.o 0) (namedW (Q.gu.map (fun p : Bool × Nat => p.1))) (Q.U 1).tk) (le2 : (Q.U 1).tk ≤ (Q.U 2).tk) (ho1 : WdF (Q.o 1) (namedW (Q.ea.map (fun p : Bool × Nat => p.1))) (Q.U 2).tk) (le3 : (Q.U 2).tk ≤ (Q.U 3).tk) (ho2 : WdF (Q.o 2) (lineW ((Q.o 0).map (fun p : Wd × Nat => p.1)) (Q.ea.map (fun p : Bool × Nat => p.1))) (Q.U 3).tk) (le4 : (Q.U 3).tk ≤ (Q.U 4).tk) (ho3 : WdF (Q.o 3) (lineW ((Q.o 2).map (fun p : Wd × Nat => p.1)) (Q.la.map (fun p : Bool × Nat => p.1))) (Q.U 4).tk) (le5 : (Q.U 4).tk ≤ (Q.U 5).tk) (ho4 : WdF (Q.o 4) (lineW ((Q.o 1).map (fun p : Wd × Nat => p.1)) (Q.la.map (fun p : Bool × Nat => p.1))) (Q.U 5).tk) (le6 : (Q.U 5).tk ≤ (Q.U 6).tk) (ho5 : (Q.o 5).map (fun p : Wd × Nat => p.1) = parkedW ((Q.o 0).map (fun p : Wd × Nat => p.1)) (Q.ea.map (fun p : Bool × Nat => p.1))) :
    SatX (vOf pw (fol b1 b2 w) A R) h ([(Q.g + 178, lst (Q.gu.map bvv) Q.eg), (Q.e + 178, lst (Q.ea.map bvv) Q.ee), (Q.l + 178, lst (Q.la.map bvv) Q.el), (121, tab0)].map (·.1)) d os (Q.U 6).tk (xo6 b2 (fol b1 b2 w) Q.q) := by
  have r := ex_r6 b1 b2 w Q.q
  refine sat_nx (D := 150) r (words_ne (fol b1 b2 w) 0 Q.gl (Q.y 2) (Q.y 5) 7 7 (Q.o 2) (Q.o 5) (by rw [ho2.is, ho5, ho0.is]; exact G.GD.h1)) (Nat.zero_le _) (by decide) (by decide) X.hA X.hdep X.Pr ?_ ?_ ?_
  · rintro _ _ _ _ ⟨_, _, hgl⟩; exact hgl
  · rintro _ _ _ ⟨rfl, rfl, _⟩; exact ok_same _ _ rfl rfl
  rintro _ _ U le ⟨rfl, rfl, -⟩ _
  exact ex_s7 { Q with st := 7, U := fun k => cond (Nat.beq k 7) U (Q.U k) } X G h0 le1 ho0 le2 ho1 le3 ho2 le4 ho3 le5 ho4 le6 ho5 le
theorem ex_s5 (Q : Xp) (X : ExX (fol b1 b2 w) A R h d os Q.g Q.e Q.l Q.eg Q.ee Q.el (Q.U 0).tk Q.gu Q.ea Q.la Q.gl) (G : ExG Q.gu Q.ea Q.la x) (h0 : 0 < (Q.U 0).tk) (le1 : (Q.U 0).tk ≤ (Q.U 1).tk) (ho0 : WdF (Q.o 0) (namedW (Q.gu.map (fun p : Bool × Nat => p.1))) (Q.U 1).tk) (le2 : (Q.U 1).tk ≤ (Q.U 2).tk) (ho1 : WdF (Q.o 1) (namedW (Q.ea.map (fun p : Bool × Nat => p.1))) (Q.U 2).tk) (le3 : (Q.U 2).tk ≤ (Q.U 3).tk) (ho2 : WdF (Q.o 2) (lineW ((Q.o 0).map (fun p : Wd × Nat => p.1)) (Q.ea.map (fun p : Bool × Nat => p.1))) (Q.U 3).tk) (le4 : (Q.U 3).tk ≤ (Q.U 4).tk) (ho3 : WdF (Q.o 3) (lineW ((Q.o 2).map (fun p : Wd × Nat => p.1)) (Q.la.map (fun p : Bool × Nat => p.1))) (Q.U 4).tk) (le5 : (Q.U 4).tk ≤ (Q.U 5).tk) (ho4 : WdF (Q.o 4) (lineW ((Q.o 1).map (fun p : Wd × Nat => p.1)) (Q.la.map (fun p : Bool × Nat => p.1))) (Q.U 5).tk) :
    SatX (vOf pw (fol b1 b2 w) A R) h ([(Q.g + 178, lst (Q.gu.map bvv) Q.eg), (Q.e + 178, lst (Q.ea.map bvv) Q.ee), (Q.l + 178, lst (Q.la.map bvv) Q.el), (121, tab0)].map (·.1)) d os (Q.U 5).tk (xo5 b2 (fol b1 b2 w) Q.q) := by
  have r := ex_r5 b1 b2 w Q.q
  refine sat_nx (D := 150) r (parked_spec (fol b1 b2 w) (Q.U 5).tk Q.gl (Q.y 0) Q.e 7 Q.ee (Q.o 0) Q.ea ho0.len G.hea ho0.bare (ho0.at (by omega))) (Nat.le_refl _) (by decide) (by decide) X.hA X.hdep X.Pr ?_ ?_ ?_
  · rintro _ _ _ _ ⟨_, _, _, hgl, _⟩; exact hgl
  · rintro _ _ _ ⟨_, _, rfl, _, rfl, _⟩; exact ok_new rfl (ex_f5 b1 b2 w Q.q)
  rintro _ _ U le ⟨y, l, rfl, -, rfl, hl, _⟩ _
  exact ex_s6 { Q with st := 6, y := fun k => cond (Nat.beq k 5) y (Q.y k), o := fun k => cond (Nat.beq k 5) l (Q.o k), U := fun k => cond (Nat.beq k 6) U (Q.U k) } X G h0 le1 ho0 le2 ho1 le3 ho2 le4 ho3 le5 ho4 le hl
theorem ex_s4 (Q : Xp) (X : ExX (fol b1 b2 w) A R h d os Q.g Q.e Q.l Q.eg Q.ee Q.el (Q.U 0).tk Q.gu Q.ea Q.la Q.gl) (G : ExG Q.gu Q.ea Q.la x) (h0 : 0 < (Q.U 0).tk) (le1 : (Q.U 0).tk ≤ (Q.U 1).tk) (ho0 : WdF (Q.o 0) (namedW (Q.gu.map (fun p : Bool × Nat => p.1))) (Q.U 1).tk) (le2 : (Q.U 1).tk ≤ (Q.U 2).tk) (ho1 : WdF (Q.o 1) (namedW (Q.ea.map (fun p : Bool × Nat => p.1))) (Q.U 2).tk) (le3 : (Q.U 2).tk ≤ (Q.U 3).tk) (ho2 : WdF (Q.o 2) (lineW ((Q.o 0).map (fun p : Wd × Nat => p.1)) (Q.ea.map (fun p : Bool × Nat => p.1))) (Q.U 3).tk) (le4 : (Q.U 3).tk ≤ (Q.U 4).tk) (ho3 : WdF (Q.o 3) (lineW ((Q.o 2).map (fun p : Wd × Nat => p.1)) (Q.la.map (fun p : Bool × Nat => p.1))) (Q.U 4).tk) :
    SatX (vOf pw (fol b1 b2 w) A R) h ([(Q.g + 178, lst (Q.gu.map bvv) Q.eg), (Q.e + 178, lst (Q.ea.map bvv) Q.ee), (Q.l + 178, lst (Q.la.map bvv) Q.el), (121, tab0)].map (·.1)) d os (Q.U 4).tk (xo4 b2 (fol b1 b2 w) Q.q) := by
  have ev1 : vals Q.q.v1 0 7 = (Q.o 1).map wvv := vals_map (Q.o 1) wvv ho1.len
  have r := ex_r4 b1 b2 w Q.q
  rw [ev1] at r
  refine sat_nx (D := 150) r (line_T (fol b1 b2 w) (Q.U 4).tk (by omega) Q.gl (Q.y 1) Q.l 7 Q.el (Q.o 1) Q.la ho1.len G.hla ho1.bare (ho1.at (by omega)) Q.c1 Q.c2 Q.a Q.b Q.r) (Nat.le_refl _) (by decide) (by decide) X.hA X.hdep X.Pr ?_ ?_ ?_
  · rintro _ _ _ _ ⟨_, _, _, hgl, _⟩; exact hgl
  · rintro _ _ _ ⟨_, _, rfl, _, rfl, _⟩; exact ok_new rfl (ex_f4 b1 b2 w Q.q)
  rintro _ _ U le ⟨y, l, rfl, -, rfl, hl, bl⟩ _
  rw [← vals_map l wvv (len_of hl (lineW_len _ _)), ← ev1]
  exact ex_s5 { Q with st := 5, y := fun k => cond (Nat.beq k 4) y (Q.y k), o := fun k => cond (Nat.beq k 4) l (Q.o k), U := fun k => cond (Nat.beq k 5) U (Q.U k) } X G h0 le1 ho0 le2 ho1 le3 ho2 le4 ho3 le (WdF.of hl (lineW_len _ _) (lineW_bare _ _) bl)
theorem ex_s3 (Q : Xp) (X : ExX (fol b1 b2 w) A R h d os Q.g Q.e Q.l Q.eg Q.ee Q.el (Q.U 0).tk Q.gu Q.ea Q.la Q.gl) (G : ExG Q.gu Q.ea Q.la x) (h0 : 0 < (Q.U 0).tk) (le1 : (Q.U 0).tk ≤ (Q.U 1).tk) (ho0 : WdF (Q.o 0) (namedW (Q.gu.map (fun p : Bool × Nat => p.1))) (Q.U 1).tk) (le2 : (Q.U 1).tk ≤ (Q.U 2).tk) (ho1 : WdF (Q.o 1) (namedW (Q.ea.map (fun p : Bool × Nat => p.1))) (Q.U 2).tk) (le3 : (Q.U 2).tk ≤ (Q.U 3).tk) (ho2 : WdF (Q.o 2) (lineW ((Q.o 0).map (fun p : Wd × Nat => p.1)) (Q.ea.map (fun p : Bool × Nat => p.1))) (Q.U 3).tk) :
    SatX (vOf pw (fol b1 b2 w) A R) h ([(Q.g + 178, lst (Q.gu.map bvv) Q.eg), (Q.e + 178, lst (Q.ea.map bvv) Q.ee), (Q.l + 178, lst (Q.la.map bvv) Q.el), (121, tab0)].map (·.1)) d os (Q.U 3).tk (xo3 b2 (fol b1 b2 w) Q.q) := by
  have r := ex_r3 b1 b2 w Q.q
  refine sat_nx (D := 150) r (line_T (fol b1 b2 w) (Q.U 3).tk (by omega) Q.gl (Q.y 2) Q.l 7 Q.el (Q.o 2) Q.la ho2.len G.hla ho2.bare (ho2.at (by omega)) Q.c1 Q.c2 Q.a Q.b Q.r) (Nat.le_refl _) (by decide) (by decide) X.hA X.hdep X.Pr ?_ ?_ ?_
  · rintro _ _ _ _ ⟨_, _, _, hgl, _⟩; exact hgl
  · rintro _ _ _ ⟨_, _, rfl, _, rfl, _⟩; exact ok_new rfl (ex_f3 b1 b2 w Q.q)
  rintro _ _ U le ⟨y, l, rfl, -, rfl, hl, bl⟩ _
  exact ex_s4 { Q with st := 4, y := fun k => cond (Nat.beq k 3) y (Q.y k), o := fun k => cond (Nat.beq k 3) l (Q.o k), U := fun k => cond (Nat.beq k 4) U (Q.U k) } X G h0 le1 ho0 le2 ho1 le3 ho2 le (WdF.of hl (lineW_len _ _) (lineW_bare _ _) bl)
theorem ex_s2 (Q : Xp) (X : ExX (fol b1 b2 w) A R h d os Q.g Q.e Q.l Q.eg Q.ee Q.el (Q.U 0).tk Q.gu Q.ea Q.la Q.gl) (G : ExG Q.gu Q.ea Q.la x) (h0 : 0 < (Q.U 0).tk) (le1 : (Q.U 0).tk ≤ (Q.U 1).tk) (ho0 : WdF (Q.o 0) (namedW (Q.gu.map (fun p : Bool × Nat => p.1))) (Q.U 1).tk) (le2 : (Q.U 1).tk ≤ (Q.U 2).tk) (ho1 : WdF (Q.o 1) (namedW (Q.ea.map (fun p : Bool × Nat => p.1))) (Q.U 2).tk) :
    SatX (vOf pw (fol b1 b2 w) A R) h ([(Q.g + 178, lst (Q.gu.map bvv) Q.eg), (Q.e + 178, lst (Q.ea.map bvv) Q.ee), (Q.l + 178, lst (Q.la.map bvv) Q.el), (121, tab0)].map (·.1)) d os (Q.U 2).tk (xo2 b2 (fol b1 b2 w) Q.q) := by
  have r := ex_r2 b1 b2 w Q.q
  refine sat_nx (D := 150) r (line_S (fol b1 b2 w) (Q.U 2).tk (by omega) Q.gl (Q.y 0) Q.e 7 Q.ee (Q.o 0) Q.ea ho0.len G.hea ho0.bare (ho0.at (by omega))) (Nat.le_refl _) (by decide) (by decide) X.hA X.hdep X.Pr ?_ ?_ ?_
  · rintro _ _ _ _ ⟨_, _, _, _, _, _, _, _, hgl, _⟩; exact hgl
  · rintro _ _ _ ⟨_, _, _, _, _, _, _, rfl, _, rfl, _⟩; exact ok_new rfl (ex_f2 b1 b2 w Q.q)
  rintro _ _ U le ⟨c1, c2, a, b, rr, y, l, rfl, -, rfl, hl, bl⟩ _
  exact ex_s3 { Q with st := 3, c1 := c1, c2 := c2, a := a, b := b, r := rr, y := fun k => cond (Nat.beq k 2) y (Q.y k), o := fun k => cond (Nat.beq k 2) l (Q.o k), U := fun k => cond (Nat.beq k 3) U (Q.U k) } X G h0 le1 ho0 le2 ho1 le (WdF.of hl (lineW_len _ _) (lineW_bare _ _) bl)
theorem ex_s1 (Q : Xp) (X : ExX (fol b1 b2 w) A R h d os Q.g Q.e Q.l Q.eg Q.ee Q.el (Q.U 0).tk Q.gu Q.ea Q.la Q.gl) (G : ExG Q.gu Q.ea Q.la x) (h0 : 0 < (Q.U 0).tk) (le1 : (Q.U 0).tk ≤ (Q.U 1).tk) (ho0 : WdF (Q.o 0) (namedW (Q.gu.map (fun p : Bool × Nat => p.1))) (Q.U 1).tk) :
    SatX (vOf pw (fol b1 b2 w) A R) h ([(Q.g + 178, lst (Q.gu.map bvv) Q.eg), (Q.e + 178, lst (Q.ea.map bvv) Q.ee), (Q.l + 178, lst (Q.la.map bvv) Q.el), (121, tab0)].map (·.1)) d os (Q.U 1).tk (xo1 b2 (fol b1 b2 w) Q.q) := by
  have r := ex_r1 b1 b2 w Q.q
  refine sat_nx (D := 150) r (named_spec (fol b1 b2 w) 0 Q.gl Q.e Q.ee Q.ea G.hea) (Nat.zero_le _) (by decide) (by decide) X.hA X.hdep X.Pr ?_ ?_ ?_
  · rintro _ _ _ _ ⟨_, _, _, hgl, _⟩; exact hgl
  · rintro _ _ _ ⟨_, _, rfl, _, rfl, _⟩; exact ok_new rfl (ex_f1 b1 b2 w Q.q)
  rintro _ _ U le ⟨y, l, rfl, -, rfl, hl, bl⟩ _
  rw [← vals_map l wvv (len_of hl (namedW_len _))]
  exact ex_s2 { Q with st := 2, y := fun k => cond (Nat.beq k 1) y (Q.y k), o := fun k => cond (Nat.beq k 1) l (Q.o k), U := fun k => cond (Nat.beq k 2) U (Q.U k) } X G h0 le1 ho0 le (WdF.of hl (namedW_len _) (namedW_bare _) bl)
theorem ex_s0 (Q : Xp) (X : ExX (fol b1 b2 w) A R h d os Q.g Q.e Q.l Q.eg Q.ee Q.el (Q.U 0).tk Q.gu Q.ea Q.la Q.gl) (G : ExG Q.gu Q.ea Q.la x) (h0 : 0 < (Q.U 0).tk)  :
    SatX (vOf pw (fol b1 b2 w) A R) h ([(Q.g + 178, lst (Q.gu.map bvv) Q.eg), (Q.e + 178, lst (Q.ea.map bvv) Q.ee), (Q.l + 178, lst (Q.la.map bvv) Q.el), (121, tab0)].map (·.1)) d os (Q.U 0).tk (xo0 b2 (fol b1 b2 w) Q.q) := by
  have r := ex_r0 b1 b2 w Q.q
  refine sat_nx (D := 150) r (named_spec (fol b1 b2 w) 0 Q.gl Q.g Q.eg Q.gu G.hgu) (Nat.zero_le _) (by decide) (by decide) X.hA X.hdep X.Pr ?_ ?_ ?_
  · rintro _ _ _ _ ⟨_, _, _, hgl, _⟩; exact hgl
  · rintro _ _ _ ⟨_, _, rfl, _, rfl, _⟩; exact ok_new rfl (ex_f0 b1 b2 w Q.q)
  rintro _ _ U le ⟨y, l, rfl, -, rfl, hl, bl⟩ _
  exact ex_s1 { Q with st := 1, y := fun k => cond (Nat.beq k 0) y (Q.y k), o := fun k => cond (Nat.beq k 0) l (Q.o k), U := fun k => cond (Nat.beq k 1) U (Q.U k) } X G h0 le (WdF.of hl (namedW_len _) (namedW_bare _) bl)
end
theorem exchanged_spec (w : World) (lo : Nat) (h0 : 0 < lo) (gl : List GenState) (g e l eg ee el : Nat) (gu ea la : List (Bool × Nat)) (hgu : gu.length = 7) (hea : ea.length = 7) (hla : la.length = 7) (x : Nat) (GD : Good (gu.map (·.1)) (ea.map (·.1)) (la.map (·.1)) x) :
    SpcT w 150 lo (exCode g e l) gl [(g + 178, lst (gu.map bvv) eg), (e + 178, lst (ea.map bvv) ee), (l + 178, lst (la.map bvv) el), (121, tab0)]
      (fun _ r E2 gl2 => ∃ (c1 c2 a b : Nat) (rr : List Value), r = .ok (.ret (.bool true)) ∧ gl2 = gl ∧ E2 = [(g + 178, lst (gu.map bvv) eg), (e + 178, lst (ea.map bvv) ee), (l + 178, lst (la.map bvv) el), (121, tab1 c1 c2), (c1 + 178, codeO a b rr)]) := by
  refine spcT_fol fun b1 b2 => spcT_ofX spE exCx 4000 (exOc b2) 4 rfl (by kernel_rfl) (by decide) fun A R h d tk os hA hdep Pr hlo K n P B => ?_
  let Q0 : Xp := ⟨0, g, e, l, eg, ee, el, 0, 0, 0, 0, 0, 0, 0, 0, 0, fun _ => 0, gu, ea, la, [], [], fun _ => [], [], 0, 0, 0, 0, 0, .none, .none, gl, fun _ => ⟨n, tk, P, B⟩⟩
  have X : ExX (fol b1 b2 w) A R h d os g e l eg ee el tk gu ea la gl := ⟨hA, hdep, Pr, fun h' c1 c2 a b rr tk' le F => K _ _ _ _ _ le F ⟨c1, c2, a, b, rr, rfl, rfl, rfl⟩⟩
  have z := ex_s0 (b1 := b1) (b2 := b2) Q0 X ⟨hgu, hea, hla, GD⟩ (Nat.lt_of_lt_of_le h0 hlo)
  exact z
end Mine
end
section
set_option maxRecDepth 100000
set_option maxHeartbeats 400000
namespace Mine
open PySem PySem.Spec PySem.Calls PyProof.Rows PySem.W PySem.W.X
/-- the row that a ruler of class i makes -/
noncomputable def mkBits (i : Nat) : List Bool := (mkB i).map fun p => Nat.beq p.1 1
theorem mk_offs : ∀ i, i < 121 → ∀ p ∈ mkB i, 0 < p.2 ∧ p.2 < mkT i ∧ (p.1 = 0 ∨ p.1 = 1) := by decide +kernel
theorem mkOut_is (i tk : Nat) (h : i < 121) : mkOut i tk = ((mkB i).map fun p => (Nat.beq p.1 1, tk + p.2)).map bvv := by
  unfold mkOut
  rw [List.map_map]
  refine List.map_congr_left fun p hp => ?_
  rcases (mk_offs i h p hp).2.2 with e | e <;> simp only [Function.comp, bvv, e] <;> rfl
theorem bare_get (gl : List GenState) (h : bareL gl = true) : (gl.getD 0 .running).bare = true := by
  cases gl with
  | nil => rfl
  | cons g gl => exact (Bool.and_eq_true_iff.mp h).1
theorem marks_class (w : World) (gl : List GenState) (r er : Nat) (tv : Nat → Nat) (rv : Nat → Value) (i : Nat) (h1 : 1 ≤ i) (h2 : i < 121) :
    SpcT w 100 0 (marC r) gl [(r + 178, lst (mkVals (mkC1 i) tv rv) er)]
      (fun tk' x E2 gl2 => ∃ (y : Nat) (o : List (Bool × Nat)) (g : GenState), x = .ok (.ret (.ref (y + 178))) ∧ gl2 = gl ++ [g] ∧ E2 = [(r + 178, lst (mkVals (mkC1 i) tv rv) er), (y + 178, lst (o.map bvv) 0)] ∧ o.map (·.1) = mkBits i ∧ g.bare = true ∧ ∀ q ∈ o, InT tk' q.2) := by
  refine spcT_fol fun b1 b2 => spcT_viewB [] (fun _ h => nomatch h) 9000 (mkOc i) 1 [0, 3] (fun n tk P B _ => ?_) rfl rfl (by decide) (by decide)
  have e : mkV i (mk0 (fol b1 b2 w) gl.length r er tv rv ⟨n, tk, P, B⟩ i) = mkW r er tv rv ⟨n, tk, P, B⟩ i (mk0 (fol b1 b2 w) gl.length r er tv rv ⟨n, tk, P, B⟩ i) := by
    by_cases q : i < 61
    · have z := tab_get (mk_t1 b1 b2 w gl.length r er tv rv ⟨n, tk, P, B⟩) (i - 1) (by omega)
      rw [show i - 1 + 1 = i from by omega] at z
      exact z
    · have z := tab_get (mk_t2 b1 b2 w gl.length r er tv rv ⟨n, tk, P, B⟩) (i - 61) (by omega)
      rw [show i - 61 + 61 = i from by omega] at z
      exact z
  refine ⟨_, _, _, _, congrArg (·.1) e, fun _ => ⟨n + 2, (mkB i).map fun p => (Nat.beq p.1 1, tk + p.2), _, rfl, rfl, by rw [← mkOut_is i tk h2], by rw [List.map_map]; rfl, bare_get _ (congrArg (·.2) e), fun q hq => ?_⟩⟩
  obtain ⟨p, hp, rfl⟩ := List.mem_map.mp hq
  have z := mk_offs i h2 p hp
  exact InT.add z.1 z.2.1
end Mine
end
section
set_option maxRecDepth 100000
set_option maxHeartbeats 400000
namespace Mine
open PySem PySem.Spec PySem.Calls PyProof.Rows PySem.W PySem.W.X
/-! a refused ruler: the exception's way; the frame below (law's own) is an entry, its slots are other ones behind it -/
noncomputable def rfE (T : LT) : Value := .ref (adr T 9)
noncomputable def tFlight (e : Value) : Sem Unit := PySem.W.Fast.tw5670386056902412789 e none
/-- behind a loop's look -/
noncomputable def cxLoop (e : Value) : Cx Unit := .bind (fun _ => PySem.W.Fast.tw1623429502029203251 e) (.bind (fun _ => .raise e) .fin)
/-- behind the look of a function that is left -/
noncomputable def cxLeft (e : Value) : Cx Unit := .bind (fun _ => tFlight e) (.bind (fun _ => (.raise e : Sem Flow)) (.bind (fun f => match f with | .ret v => .pure (.done (.ret v)) | _ => .pure (.done (.ret .none))) .fin))
noncomputable def tryParts : Code → List ExceptHandler × List Stmt
  | .func b _ => match b.drop 2 with
    | .Try _ hs _ _ _ :: rest => (hs, rest)
    | _ => ([], [])
  | _ => ([], [])
/-- behind a try's look -/
noncomputable def cxTry (e : Value) (c : Code) (env : Env) : Cx Unit := .bind (fun _ => R.bindR (tFlight e) fun _ => PySem.W.Fast.tw14206642085496868694 e env (tryParts c).1) (cxFlow env (tryParts c).2)
noncomputable def rfNx : List (LT → Nx) := [
  fun T => .look ⟨adr T 9, 9, none, [5, 2, 1], fun _ _ => cxLoop (rfE T)⟩,
  fun T => .note ⟨adr T 9, 9, 11, fun _ _ => cxLeft (rfE T)⟩,
  fun T => .look ⟨adr T 9, 9, some 11, [2, 1], fun _ _ => cxLoop (rfE T)⟩,
  fun T => .note ⟨adr T 9, 9, 12, fun c env => cxTry (rfE T) c env⟩]
noncomputable def rfOc : List Nat := [0, 0, 3, 3, 1, 4, 4, 4, 4, 4, 3, 3, 3, 3, 0, 3, 0, 0, 0, 6, 6, 1, 7, 7, 7, 7, 7, 7, 7, 0, 2, 0, 6, 6, 6, 1, 1, 1, 8, 8, 8, 8, 8, 1, 8, 8, 6, 6, 6, 0, 6, 6, 0, 0, 0, 10, 10, 10, 10, 10, 10, 10, 10, 10, 10, 10, 10, 4001, 0, 10, 10, 12, 12, 4002, 10, 12, 12, 0, 7, 10, 10, 10, 4003, 0, 10, 10, 13, 13, 4004, 10, 13, 13, 0, 0, 10, 10, 13, 13, 14, 14, 14, 14, 14]
/-- a frame with slots -/
noncomputable def frmS (l : Ent) (n : Nat) (sl : Array (Option Value)) : Obj := { frm l n with slots := sl }
noncomputable def rf0 (w : World) (env : Env) (gb r er lf : Nat) (l : Ent) (ln : Nat) (sl : Array (Option Value)) (tv : Nat → Nat) (rv : Nat → Value) (U : Un) : Out :=
  goB w gb rfNx (some [env]) 9000 (marC r) rfOc U.P U.B [(r + 178, lst (mkVals [0] tv rv) er), (lf + 178, frmS l ln sl)] 2 U.n U.tk
noncomputable def lawQ : List Nat := [108, 97, 119, 46, 60, 108, 111, 99, 97, 108, 115, 62, 46]
noncomputable abbrev sRows : List Nat := [114, 111, 119, 115]
noncomputable def lawEnv (lf lc : Nat) : Env := { scope := defScope (topAt 24), locals := lf + 178, globals := 3, cells := [(⟨sRows.toArray⟩, lc)], qual := ⟨lawQ.toArray⟩, func := some 177, code := .ref 176, frame := some (lf + 178), builtins := 0 }
noncomputable def slAt (o : Out) (i : Nat) : Array (Option Value) := match o.st.T.get i with
  | some q => q.2.slots
  | none => #[]
theorem rf_run (b1 b2 : Bool) (w : World) (gb r er lf lc : Nat) (l : Ent) (ln : Nat) (sl : Array (Option Value)) (tv : Nat → Nat) (rv : Nat → Value) (U : Un) :
    (vLt [0, 1, 14] (rf0 (fol b1 b2 w) (lawEnv lf lc) gb r er lf l ln sl tv rv U), bareL (rf0 (fol b1 b2 w) (lawEnv lf lc) gb r er lf l ln sl tv rv U).st.gl) = ((vR (.ok (.ret (.ref (U.n + 12 + 178)))) [(r + 178, lst (mkVals [0] tv rv) er), (lf + 178, frmS l ln (slAt (rf0 (fol b1 b2 w) (lawEnv lf lc) gb r er lf l ln sl tv rv U) 1)), (U.n + 12 + 178, lst (List.replicate 7 (.int 1 (U.tk + 14))) 0)] [(rf0 (fol b1 b2 w) (lawEnv lf lc) gb r er lf l ln sl tv rv U).st.gl.getD 0 .running] (rf0 (fol b1 b2 w) (lawEnv lf lc) gb r er lf l ln sl tv rv U), U.tk + 16), true) := by
  cases b1 <;> kernel_rfl
theorem rf_nx : ∀ g ∈ rfNx, ∀ T p, (g T).pr = some p → p.1 = p.2 := by
  intro g hg T p e
  simp only [rfNx, List.mem_cons, List.not_mem_nil, or_false] at hg
  rcases hg with rfl | rfl | rfl | rfl <;> cases e
theorem marks_refused (w : World) (gl : List GenState) (r er lf lc : Nat) (l : Ent) (ln : Nat) (sl : Array (Option Value)) (tv : Nat → Nat) (rv : Nat → Value) :
    SpcF w [lawEnv lf lc] 100 0 (marC r) gl [(r + 178, lst (mkVals [0] tv rv) er), (lf + 178, frmS l ln sl)]
      (fun tk' x E2 gl2 => ∃ (y : Nat) (o : List (Bool × Nat)) (g : GenState) (sl' : Array (Option Value)), x = .ok (.ret (.ref (y + 178))) ∧ gl2 = gl ++ [g] ∧ E2 = [(r + 178, lst (mkVals [0] tv rv) er), (lf + 178, frmS l ln sl'), (y + 178, lst (o.map bvv) 0)] ∧ o.map (·.1) = List.replicate 7 true ∧ g.bare = true ∧ ∀ q ∈ o, InT tk' q.2) := by
  intro A R h d tk os hA hF hdep P hlo K
  obtain ⟨b1, b2, e⟩ := fol_any w
  rw [e] at P ⊢
  refine spcF_viewB (w := fol b1 b2 w) (fl := [lawEnv lf lc]) (lo := 0) (D := 100) rfNx rf_nx 9000 rfOc 2 [0, 1, 14] (fun n tk P B _ => ?_) rfl rfl (by decide) (by decide) A R h d tk os hA hF hdep P hlo K
  have rr := rf_run b1 b2 w gl.length r er lf lc l ln sl tv rv ⟨n, tk, P, B⟩
  refine ⟨_, _, _, _, congrArg (·.1) rr, fun _ => ⟨n + 12, List.replicate 7 (true, tk + 14), _, _, rfl, rfl, rfl, rfl, bare_get _ (congrArg (·.2) rr), fun q hq => ?_⟩⟩
  rw [List.eq_of_mem_replicate hq]
  exact InT.add (by decide) (by decide)
end Mine
end
section
set_option genInjectivity false
set_option maxRecDepth 100000
set_option maxHeartbeats 400000
namespace Mine
open PySem PySem.Spec PySem.Calls PyProof.Rows PySem.W PySem.W.X
/-! _law_sums: its three comprehensions -/
noncomputable def binL : Expr → Expr
  | .BinOp l _ _ _ => l
  | e => e
noncomputable def callA : Expr → Expr
  | .Call _ (a :: _) _ _ => a
  | e => e
noncomputable abbrev sm1X : Expr := binL (callA (asE (stAt 18 1)))
noncomputable abbrev sm2X : Expr := asE (stAt 18 4)
noncomputable abbrev sm3X : Expr := retE (stAt 18 5)
/-- "_law_sums.<locals>." -/
noncomputable def smQ : List Nat := [95, 108, 97, 119, 95, 115, 117, 109, 115, 46, 60, 108, 111, 99, 97, 108, 115, 62, 46]
noncomputable abbrev sRuler : List Nat := [114, 117, 108, 101, 114]
noncomputable abbrev sSizes : List Nat := [115, 105, 122, 101, 115]
noncomputable abbrev sSums : List Nat := [115, 117, 109, 115]
/-- a comprehension with one cell, the cell's list -/
structure Sf where
  it : Nat
  ac : Nat
  dl : Nat
  cl : Nat
  sl : Nat
  fr : Nat
  e : Nat
noncomputable abbrev smC (X : Expr) (c : List Nat) (C : Sf) : Code := cmpK X smQ 144 C.it C.ac C.dl C.fr [(⟨c.toArray⟩, C.cl + 178)]
noncomputable abbrev smE (C : Sf) (io : Obj) (out : List Value) (m : Nat) (od : Obj) (vs : List Value) : List (Nat × Obj) :=
  [(C.it + 178, io), (C.ac + 178, lst out m), (C.dl + 178, od), (C.cl + 178, cellO (.ref (C.sl + 178))), (C.sl + 178, lst vs C.e)]
noncomputable def spS : Code → Bool := fun c => match c with
  | .forLoop .. => true
  | .compLoop .. => true
  | .call f _ => match f with
    | .builtin id => isId id "list.__contains__" || isId id "tuple.__contains__" || isId id "sum"
    | _ => false
  | _ => false
noncomputable def spS2 : Code → Bool := fun c => match c with
  | .forLoop .. => true
  | .compLoop .. => true
  | .call f _ => match f with
    | .builtin id => isId id "list.__getitem__" || isId id "sum"
    | _ => false
  | _ => false
noncomputable abbrev sm1OcN : List Nat := [1, 1, 1, 1, 1, 1, 1, 1, 1, 3, 3, 4, 3, 5, 5, 5, 5, 5, 6, 6]
noncomputable abbrev sm1OcY : List Nat := sm1OcN ++ [3, 2, 2, 2, 2]
noncomputable abbrev sm2Oc : List Nat := [1, 1, 1, 1, 1, 1, 1, 1, 1, 3, 3, 0, 0, 4, 3, 5, 5, 5, 2, 2, 2, 2]
noncomputable abbrev sm3Oc : List Nat := [1, 1, 1, 1, 1, 1, 1, 1, 1, 3, 3, 3, 4, 5, 5, 2, 2, 2, 2]
structure Sv where
  n : Nat
  tk : Nat
  P : Nat → Pos
  B : Nat → List (Code × Pos)
  hh : Int
  tt : Nat
  xv : Value
  U : Un
noncomputable abbrev sdAt (nm : List Nat) (V : Sv) (j : Nat) : Obj := cond (Nat.beq j 0) (dct [] 0) (dct [(V.hh, nm, V.tt, V.xv)] 1)
noncomputable abbrev sdTo (w : World) (nm : List Nat) (V : Sv) (j : Nat) (x : Value) : Obj := dct [(cond (Nat.beq j 0) (PyData.keyHash w.params ⟨nm.toArray⟩) V.hh, nm, cond (Nat.beq j 0) (V.tk + 1) V.tt, x)] 1
/-- a ruler of four -/
noncomputable def rul4 (xv : Nat → Int) (tv : Nat → Nat) : List Value := [0, 1, 2, 3].map fun k => .int (xv k) (tv k)
noncomputable def sm10 (w : World) (oc : List Nat) (C : Sf) (V : Sv) (gl : List GenState) (xv : Nat → Int) (tv : Nat → Nat) (out : List Value) (m j : Nat) : Out :=
  go w spS 1000 (smC sm1X sRuler C) oc V.P V.B (smE C (rgI (.ofNat j) (.ofNat (4 - j)) 1) out m (sdAt sPlace V j) (rul4 xv tv)) 5 V.n V.tk gl
noncomputable def tup2 (t u : Nat) : Obj := { cls := .type "tuple", data := .seq #[.int 0 t, .int 127 u] 0 }
noncomputable abbrev tcC (a : Nat) (x : Int) (t : Nat) : Code := .call (.builtin "tuple.__contains__") ⟨[.ref (a + 178), .int x t], []⟩
section
variable (b1 b2 : Bool) (w : World) (C : Sf) (V : Sv) (gl : List GenState) (xv : Nat → Int) (tv : Nat → Nat) (out : List Value) (m : Nat)
theorem sm1_N :
    tab (fun j => (vSt [5] (sm10 (fol b1 b2 w) sm1OcN C V gl xv tv out m j), vNt i5 (nx (sm10 (fol b1 b2 w) sm1OcN C V gl xv tv out m j) [5] (.ok (.ret (.bool false))) [(V.n + 178, tup2 (V.tk + 2) (V.tk + 3))] gl V.U))) 4 =
    tab2 (fun j => ((vSR (tcC V.n (xv j) (tv j)) 1 [(V.n + 178, tup2 (V.tk + 2) (V.tk + 3))] gl (sm10 (fol b1 b2 w) sm1OcN C V gl xv tv out m j), V.tk + 4),
      (vNR (smC sm1X sRuler C) (smE C (rgI (.ofNat (j + 1)) (.ofNat (3 - j)) 1) out m (sdTo (fol b1 b2 w) sPlace V j (.int (.ofNat j) V.tk)) (rul4 xv tv)) gl (nx (sm10 (fol b1 b2 w) sm1OcN C V gl xv tv out m j) [5] (.ok (.ret (.bool false))) [(V.n + 178, tup2 (V.tk + 2) (V.tk + 3))] gl V.U), V.U.tk))) 4 := by
  cases b1 <;> kernel_rfl
theorem sm1_Y (ov : Nat → Value) :
    tab (fun i => (vSt [5] (sm10 (fol b1 b2 w) sm1OcY C V gl xv tv (vals ov 0 (i % 4)) (i % 4) (i / 4)), vNt i5 (nx (sm10 (fol b1 b2 w) sm1OcY C V gl xv tv (vals ov 0 (i % 4)) (i % 4) (i / 4)) [5] (.ok (.ret (.bool true))) [(V.n + 178, tup2 (V.tk + 2) (V.tk + 3))] gl V.U))) 16 =
    tab2 (fun i => ((vSR (tcC V.n (xv (i / 4)) (tv (i / 4))) 1 [(V.n + 178, tup2 (V.tk + 2) (V.tk + 3))] gl (sm10 (fol b1 b2 w) sm1OcY C V gl xv tv (vals ov 0 (i % 4)) (i % 4) (i / 4)), V.tk + 4),
      (vNR (smC sm1X sRuler C) (smE C (rgI (.ofNat (i / 4 + 1)) (.ofNat (3 - i / 4)) 1) (vals ov 0 (i % 4) ++ [.int (.ofNat (i / 4)) V.tk]) (i % 4 + 1) (sdTo (fol b1 b2 w) sPlace V (i / 4) (.int (.ofNat (i / 4)) V.tk)) (rul4 xv tv)) gl (nx (sm10 (fol b1 b2 w) sm1OcY C V gl xv tv (vals ov 0 (i % 4)) (i % 4) (i / 4)) [5] (.ok (.ret (.bool true))) [(V.n + 178, tup2 (V.tk + 2) (V.tk + 3))] gl V.U), V.U.tk))) 16 := by
  cases b1 <;> kernel_rfl
theorem sm1_Z (od : Obj) (vs : List Value) :
    vL i5 (go (fol b1 b2 w) spS 1000 (smC sm1X sRuler C) [1, 1, 1, 1, 1, 7] V.P V.B (smE C (rgI 4 0 1) out m od vs) 5 V.n V.tk gl) =
    vR (.ok .next) (smE C (rgI 4 0 1) out m od vs) gl (go (fol b1 b2 w) spS 1000 (smC sm1X sRuler C) [1, 1, 1, 1, 1, 7] V.P V.B (smE C (rgI 4 0 1) out m od vs) 5 V.n V.tk gl) := by
  kernel_rfl
end
end Mine
end
section
set_option maxRecDepth 100000
set_option maxHeartbeats 400000
namespace Mine
open PySem PySem.Spec PySem.Calls PyProof.Rows PySem.W PySem.W.X
noncomputable def sm20 (w : World) (C : Sf) (V : Sv) (gl : List GenState) (vs : List Value) (out : List Value) (j k : Nat) : Out :=
  go w spS2 1000 (smC sm2X sSizes C) sm2Oc V.P V.B (smE C (rgI (.ofNat j) (.ofNat (k + 1)) 1) out j (sdAt sPlace V j) vs) 5 V.n V.tk gl
noncomputable abbrev sm21 (w : World) (C : Sf) (V : Sv) (gl : List GenState) (vs : List Value) (out : List Value) (j k y : Nat) (ws : List Value) (U : Un) : Out :=
  nx (sm20 w C V gl vs out j k) [4, 5] (.ok (.ret (.ref (y + 178)))) [(C.sl + 178, lst vs C.e), (V.n + 178, slO .none (.int (.ofNat (j + 1)) (V.tk + 3)) .none), (y + 178, lst ws 0)] gl U
noncomputable abbrev sm22 (w : World) (C : Sf) (V : Sv) (gl : List GenState) (vs : List Value) (out : List Value) (j k y : Nat) (ws : List Value) (U : Un) (x : Int) (t : Nat) : Out :=
  nx (sm21 w C V gl vs out j k y ws U) [6] (.ok (.ret (.int x t))) [(y + 178, lst ws 0)] gl V.U
noncomputable def sm30 (w : World) (C : Sf) (V : Sv) (gl : List GenState) (vs : List Value) (out : List Value) (j k : Nat) : Out :=
  go w spS 1000 (smC sm3X sSums C) sm3Oc V.P V.B (smE C (rgI (.ofNat (j + 1)) (.ofNat (k + 1)) 1) out j (sdAt sMinute V j) vs) 5 V.n V.tk gl
section
variable (b1 b2 : Bool) (w : World) (C : Sf) (V : Sv) (gl : List GenState) (vs ws : List Value) (ov : Nat → Value) (k y : Nat) (U : Un) (x : Int) (t : Nat)
theorem sm2_runs :
    tab (fun j => (vSt [4, 5] (sm20 (fol b1 b2 w) C V gl vs (vals ov 0 j) j k), vS [6] (sm21 (fol b1 b2 w) C V gl vs (vals ov 0 j) j k y ws U), vNt i5 (sm22 (fol b1 b2 w) C V gl vs (vals ov 0 j) j k y ws U x t), fullGo (sm20 (fol b1 b2 w) C V gl vs (vals ov 0 j) j k).st.T (sm20 (fol b1 b2 w) C V gl vs (vals ov 0 j) j k).st.m)) 10 =
    tab2 (fun j => ((vSR (.call (.builtin "list.__getitem__") ⟨[.ref (C.sl + 178), .ref (V.n + 178)], []⟩) 1 [(C.sl + 178, lst vs C.e), (V.n + 178, slO .none (.int (.ofNat (j + 1)) (V.tk + 3)) .none)] gl (sm20 (fol b1 b2 w) C V gl vs (vals ov 0 j) j k), V.tk + 4),
      vSR (.call (.builtin "sum") ⟨[.ref (y + 178)], []⟩) 1 [(y + 178, lst ws 0)] gl (sm21 (fol b1 b2 w) C V gl vs (vals ov 0 j) j k y ws U),
      (vNR (smC sm2X sSizes C) (smE C (rgI (.ofNat (j + 1)) (.ofNat (k + 1) - 1) 1) (vals ov 0 j ++ [.int x t]) (j + 1) (sdTo (fol b1 b2 w) sPlace V j (.int (.ofNat j) V.tk)) vs) gl (sm22 (fol b1 b2 w) C V gl vs (vals ov 0 j) j k y ws U x t), V.U.tk), true)) 10 := by
  cases b1 <;> kernel_rfl
theorem sm2_Z (od : Obj) (out : List Value) (m : Nat) (a : Int) :
    vL i5 (go (fol b1 b2 w) spS2 1000 (smC sm2X sSizes C) [1, 1, 1, 1, 1, 7] V.P V.B (smE C (rgI a 0 1) out m od vs) 5 V.n V.tk gl) =
    vR (.ok .next) (smE C (rgI a 0 1) out m od vs) gl (go (fol b1 b2 w) spS2 1000 (smC sm2X sSizes C) [1, 1, 1, 1, 1, 7] V.P V.B (smE C (rgI a 0 1) out m od vs) 5 V.n V.tk gl) := by
  kernel_rfl
theorem sm3_runs :
    tab (fun j => (vSt [4] (sm30 (fol b1 b2 w) C V gl vs (vals ov 0 j) j k), vNt i5 (nx (sm30 (fol b1 b2 w) C V gl vs (vals ov 0 j) j k) [4] (.ok (.ret (.bool true))) [(C.sl + 178, lst vs C.e)] gl V.U), vNt i5 (nx (sm30 (fol b1 b2 w) C V gl vs (vals ov 0 j) j k) [4] (.ok (.ret (.bool false))) [(C.sl + 178, lst vs C.e)] gl V.U))) 7 =
    tab2 (fun j => ((vSR (.call (.builtin "list.__contains__") ⟨[.ref (C.sl + 178), .int (.ofNat (j + 1)) V.tk], []⟩) 1 [(C.sl + 178, lst vs C.e)] gl (sm30 (fol b1 b2 w) C V gl vs (vals ov 0 j) j k), V.tk + 2),
      (vNR (smC sm3X sSums C) (smE C (rgI (.ofNat (j + 2)) (.ofNat (k + 1) - 1) 1) (vals ov 0 j ++ [.int 1 V.U.tk]) (j + 1) (sdTo (fol b1 b2 w) sMinute V j (.int (.ofNat (j + 1)) V.tk)) vs) gl (nx (sm30 (fol b1 b2 w) C V gl vs (vals ov 0 j) j k) [4] (.ok (.ret (.bool true))) [(C.sl + 178, lst vs C.e)] gl V.U), V.U.tk + 1),
      (vNR (smC sm3X sSums C) (smE C (rgI (.ofNat (j + 2)) (.ofNat (k + 1) - 1) 1) (vals ov 0 j ++ [.int 0 V.U.tk]) (j + 1) (sdTo (fol b1 b2 w) sMinute V j (.int (.ofNat (j + 1)) V.tk)) vs) gl (nx (sm30 (fol b1 b2 w) C V gl vs (vals ov 0 j) j k) [4] (.ok (.ret (.bool false))) [(C.sl + 178, lst vs C.e)] gl V.U), V.U.tk + 1))) 7 := by
  cases b1 <;> kernel_rfl
theorem sm3_Z (od : Obj) (out : List Value) (m : Nat) (a : Int) :
    vL i5 (go (fol b1 b2 w) spS 1000 (smC sm3X sSums C) [1, 1, 1, 1, 1, 7] V.P V.B (smE C (rgI a 0 1) out m od vs) 5 V.n V.tk gl) =
    vR (.ok .next) (smE C (rgI a 0 1) out m od vs) gl (go (fol b1 b2 w) spS 1000 (smC sm3X sSums C) [1, 1, 1, 1, 1, 7] V.P V.B (smE C (rgI a 0 1) out m od vs) 5 V.n V.tk gl) := by
  kernel_rfl
end
end Mine
end
section
set_option maxRecDepth 100000
set_option maxHeartbeats 400000
namespace Mine
open PySem PySem.Spec PySem.Calls PyProof.Rows PySem.W PySem.W.X
theorem heap_upd (h : Heap) (a : Nat) (f : Obj → Obj) : (h.update a f).objs.size = h.objs.size := by
  simp [Heap.update]
theorem runs_size {M : Model} {Γ : PySem.Ctx} {p : Pos} {t : Sem Fin} {fs : List Frame} {s s' : Shared} {e : End} (h : Runs M Γ p t fs s e s') : s.heap.objs.size ≤ s'.heap.objs.size := by
  induction h <;> (try simp only [Shared.setGen, Heap.size_push, heap_upd] at *) <;> omega
theorem code_size {M : Model} {A : Around} {s : Shared} {c : Code} {R : Result → Shared → Prop} {n : Nat} (hn : n ≤ s.heap.objs.size) (h : codeAny M A c (fun r s' => n ≤ s'.heap.objs.size → R r s') s) : codeAny M A c R s :=
  fun Γ p hc hΓ => by obtain ⟨r, s', hr, hR⟩ := h Γ p hc hΓ; exact Exists.intro r (Exists.intro s' (And.intro hr (hR (Nat.le_trans hn (runs_size hr)))))
end Mine
end
section
set_option maxRecDepth 100000
set_option maxHeartbeats 400000
namespace Mine
open PySem PySem.Spec PySem.Calls PyProof.Rows PySem.W PySem.W.X PySem.SeqAt
noncomputable def ivv (p : Int × Nat) : Value := .int p.1 p.2
theorem fra_old {kt : KT} {h h' : Heap} {E : List (Nat × Obj)} (P : Pre kt h E) (hs : h.objs.size ≤ h'.objs.size) (hk : ∀ b o, h.get? b = some o → h'.get? b = some o) : Fra h h' E E :=
  ⟨hs, fun b o e _ => hk b o e, fun p hp => hk _ _ (P.at_ p hp), P.nd, fun p hp => .inl (List.mem_map_of_mem (f := (·.1)) hp)⟩
theorem eq_vsum (xs : List (Int × Nat)) : ∀ n, n ≤ xs.length → preSum (numAt xs.toArray) n = ((xs.map (·.1)).take n).sum
  | 0, _ => by simp [preSum]
  | n + 1, h => by
    have hn : n < xs.length := h
    rw [show preSum (numAt xs.toArray) (n + 1) = preSum (numAt xs.toArray) n + numAt xs.toArray n from rfl, eq_vsum xs n (by omega), List.take_add_one]
    simp [numAt, hn, List.sum_append]
/-- sum of a list of ints -/
theorem sum_spec (w : World) (lo : Nat) (gl : List GenState) (l n : Nat) (xs : List (Int × Nat)) :
    SpcT w 110 lo (.call (.builtin "sum") ⟨[.ref l], []⟩) gl [(l, lst (xs.map ivv) n)]
      (fun _ r E2 gl2 => ∃ t, r = .ok (.ret (.int (xs.map (·.1)).sum t)) ∧ E2 = [(l, lst (xs.map ivv) n)] ∧ gl2 = gl) := by
  intro A R h d tk os hA hdep P hlo K
  refine code_size (s := ⟨h, ⟨gl⟩, d, tk, os⟩) (n := h.objs.size) (Nat.le_refl _) ?_
  have hL : h.get? l = some (lst (xs.map ivv) n) := P.at_ _ (.head _)
  have hI : (⟨h, ⟨gl⟩, d, tk, os⟩ : Shared).heap.IsList l (intItems xs.toArray) := ⟨_, hL, rfl, n, by simp only [lst, intItems, List.map_toArray]; rfl⟩
  have hlt : l < h.objs.size := Heap.lt_size hL
  refine codeAny_call_builtin F.plain_sum F.entry_sum ?_
  simp only [checkBuiltinCall, F.kind_sum]
  have ha : argsOk "sum" ⟨[.ref l], []⟩ := F.args_sum1 _
  have hc : wpAny (model pw w) A.in1 (Builtin.«sum» ⟨[.ref l], []⟩) (fun fin s' => match fin with
      | .done f => h.objs.size ≤ s'.heap.objs.size → R (.ok f) s'
      | .again c' => c'.quiet = true ∧ codeAny (model pw w) A c' (fun r s' => h.objs.size ≤ s'.heap.objs.size → R r s') s') (fun e s' => h.objs.size ≤ s'.heap.objs.size → R (.error e) s') ⟨h, ⟨gl⟩, d, tk, os⟩ := by
    unfold Builtin.«sum»
    simp only [List.length_cons, List.length_nil]
    rw [if_neg (by decide)]
    refine wpAny_bind (wpAny_of_eq (show Builtin.Builtins.bindParams "sum" ["start"] 0 { } = pure [none] from rfl) ?_)
    refine wpAny_bind (iter_intList hI fun s₂ e st hfp hne => ?_)
    subst e
    refine wpAny_bind (wpAny_mkInt (wpAny_bind (wpAny_pure ?_)))
    simp only [List.forIn_cons, List.forIn_nil]
    refine wpAny_bind (wpAny_bind (wpAny_bind (wpAny_isInstance (T := "int") (b := false) (typeIs_int _ _ _) PySem.sub_int_str ?_)))
    simp only [Bool.false_eq_true, if_false]
    refine wpAny_pure (wpAny_bind (wpAny_bind (wpAny_isInstance (T := "int") (b := false) (typeIs_int _ _ _) PySem.sub_int_bytes ?_)))
    simp only [Bool.false_eq_true, if_false]
    refine wpAny_pure (wpAny_bind (wpAny_bind (wpAny_isInstance (T := "int") (b := false) (typeIs_int _ _ _) PySem.sub_int_bytearray ?_)))
    simp only [Bool.false_eq_true, if_false]
    refine wpAny_pure (wpAny_pure (wpAny_bind (wpAny_newObj_type ?_)))
    have W := (Walks.list (prog := pw) (w := w) (A := A.in1.in1) hA h.objs.size l hne (intItems xs.toArray)).toS
    have W' := W.of_in1
    have hz : (h.push { cls := .type "list_iterator", data := .fields #[.ref l, .int 0 0] }).objs.size = h.objs.size + 1 := Heap.size_push ..
    refine wpAny_pure ⟨plainId_quiet F.plain_sum_loop _, codeAny_sum_loopAnyS (A := A) W' (numAt xs.toArray) (fun _ _ => intItems_at) _ ?_ _ 0 _ _ 0 0 (.inl rfl) rfl (Nat.zero_le _) (W.frame 0 _ _ _ st (by first | exact Nat.le_refl _ | exact Nat.le_succ _ | omega) fun b _ o e => Heap.get?_push_of_some _ e) (Heap.get?_push_size _ rfl) ?_⟩
    · show (h.push _).objs.size ∉ [h.objs.size, l]
      rw [hz]
      simp; omega
    intro s' t' hm hsz
    have e0 : preSum (numAt xs.toArray) (intItems xs.toArray).size = (xs.map (·.1)).sum := by
      have := eq_vsum xs xs.length (Nat.le_refl _)
      rw [List.take_of_length_le (by simp)] at this
      rw [← this]; simp [intItems]
    rw [e0]
    obtain ⟨h', gens', d', tk', os'⟩ := s'
    obtain ⟨m1, m2, m3, m4, m5⟩ := hm
    dsimp only at m1 m2 m3 m4 m5
    subst m2 m3 m4
    have le : tk ≤ tk' := Nat.le_trans (Nat.le_succ tk) m5
    refine K _ _ _ gl _ le (fra_old P hsz fun b o e => m1 b o ?_ (Heap.get?_push_of_some _ (Heap.get?_push_of_some _ e))) ⟨t', rfl, rfl, rfl⟩
    have hb : b < h.objs.size := Heap.lt_size e
    intro hm
    rcases List.mem_cons.mp hm with e1 | hm
    · rw [e1] at hb
      exact absurd hb (by show ¬ (h.push _).objs.size < _; rw [hz]; omega)
    · rw [List.mem_singleton.mp hm] at hb
      exact Nat.lt_irrefl _ hb
  cases hsig : Manifest.signature? "sum" with
  | none => exact wpAny_pure hc
  | some sig =>
    simp only [argsOk, hsig] at ha
    have h2 : Bind.checkArgs "sum" sig ⟨[.ref l], []⟩ = pure () := ha
    show wpAny _ A.in1 (Bind.checkArgs "sum" sig ⟨[.ref l], []⟩) _ _ _
    rw [h2]; exact wpAny_pure hc
/-- x in l, of ints -/
theorem lc_spec (w : World) (lo : Nat) (gl : List GenState) (l n : Nat) (xs : List (Int × Nat)) (x : Int) (t : Nat) :
    SpcT w 110 lo (.call (.builtin "list.__contains__") ⟨[.ref l, .int x t], []⟩) gl [(l, lst (xs.map ivv) n)]
      (fun _ r E2 gl2 => r = .ok (.ret (.bool ((xs.map (·.1)).any (· == x)))) ∧ E2 = [(l, lst (xs.map ivv) n)] ∧ gl2 = gl) :=
  spc_meets F.slot_list_contains F.entry_list_contains (F.args_list_contains_2 _ _) (list_containsAt l (xs.map ivv).toArray n none #[] (.int x t) (fun v => match v with | .int y _ => y == x | _ => false)) fun A R h d tk os hA hdep P hlo K =>
    ⟨⟨_, P.at_ _ (.head _), rfl⟩, P.at_ _ (.head _), fun y hy => by
      have hy : y ∈ xs.map ivv := by simpa using hy
      obtain ⟨p, hp, rfl⟩ := List.mem_map.mp hy
      exact EqAt.int_int p.1 p.2 x t, by
      refine K _ h _ gl tk (Nat.le_refl _) (Fra.refl P) ⟨?_, rfl, rfl⟩
      simp [List.any_map, Function.comp_def, ivv]⟩
theorem any_two {α : Type} (a b : α) (f : α → Bool) : (#[a, b] : Array α).any f = (f a || f b) := by simp
/-- x in (0, 127) -/
theorem tc_spec (w : World) (lo : Nat) (gl : List GenState) (a : Nat) (x : Int) (t u v : Nat) :
    SpcT w 110 lo (tcC a x t) gl [(a + 178, tup2 u v)] (fun _ r E2 gl2 => r = .ok (.ret (.bool (x == 0 || x == 127))) ∧ E2 = [(a + 178, tup2 u v)] ∧ gl2 = gl) :=
  spc_meets F.slot_tuple_contains F.entry_tuple_contains (F.args_tuple_contains_2 _ _) (tuple_containsAt (a + 178) #[.int 0 u, .int 127 v] 0 none #[] (.int x t) (fun y => match y with | .int y _ => y == x | _ => false)) fun A R h d tk os hA hdep P hlo K =>
    ⟨⟨_, P.at_ _ (.head _), rfl⟩, P.at_ _ (.head _), fun y hy => by
      simp at hy
      rcases hy with rfl | rfl
      · exact EqAt.int_int 0 u x t
      · exact EqAt.int_int 127 v x t, by
      refine K _ h _ gl tk (Nat.le_refl _) (Fra.refl P) ⟨?_, rfl, rfl⟩
      have e1 : ((0 : Int) == x) = (x == 0) := by rw [Bool.eq_iff_iff, beq_iff_eq, beq_iff_eq]; exact ⟨Eq.symm, Eq.symm⟩
      have e2 : ((127 : Int) == x) = (x == 127) := by rw [Bool.eq_iff_iff, beq_iff_eq, beq_iff_eq]; exact ⟨Eq.symm, Eq.symm⟩
      rw [any_two]
      show Except.ok (Flow.ret (Value.bool (((0 : Int) == x) || ((127 : Int) == x)))) = _
      rw [e1, e2]⟩
end Mine
end
section
set_option maxRecDepth 100000
set_option maxHeartbeats 400000
namespace Mine
open PySem PySem.Spec PySem.Calls PyProof.Rows PySem.W PySem.W.X
noncomputable def ivn (p : Nat × Nat) : Value := .int (.ofNat p.1) p.2
theorem sd_of {nm : List Nat} {j : Nat} {od : Obj} (h : OdOk nm j od) : ∃ hh tt xv, ∀ n tk P B U, od = sdAt nm ⟨n, tk, P, B, hh, tt, xv, U⟩ j := by
  rcases h with ⟨rfl, rfl⟩ | ⟨hj, hh, tt, xv, rfl⟩
  · exact ⟨0, 0, .none, fun _ _ _ _ _ => rfl⟩
  · refine ⟨hh, tt, xv, fun _ _ _ _ _ => ?_⟩
    have : Nat.beq j 0 = false := by
      cases q : Nat.beq j 0 with
      | false => rfl
      | true => exact absurd (Nat.eq_of_beq_eq_true q) hj
    unfold sdAt
    rw [this]
    rfl
theorem sdTo_ok (w : World) (nm : List Nat) (V : Sv) (j : Nat) (x : Value) : OdOk nm (j + 1) (sdTo w nm V j x) := .inr ⟨by omega, _, _, _, rfl⟩
theorem vals_all {α : Type} (l : List α) (g : α → Value) : vals (fun j => (l.map g).getD j .none) 0 l.length = l.map g := vals_map l g rfl
theorem rul_is (r : List (Int × Nat)) (h : r.length = 4) : rul4 (fun k => (r.getD k (0, 0)).1) (fun k => (r.getD k (0, 0)).2) = r.map ivv := by
  match r, h with
  | [a, b, c, d], _ => rfl
/-- the first stop of a ruler at j -/
noncomputable def badR (r : List (Int × Nat)) (j : Nat) : Bool := (r.getD j (0, 0)).1 == 0 || (r.getD j (0, 0)).1 == 127
theorem pick_upto (vs : List Value) (k : Nat) : (slicePick vs.toArray none (some (.ofNat k)) none).toList = vs.take k := by
  have h : ¬ (Int.ofNat k < 0) := by simp
  rw [kms_pick_eq]
  simp only [kms_pick, kms_lo, kms_hi, if_neg h, List.drop_zero, Nat.sub_zero]
  exact kmk_take_min vs k
section
variable (C : Sf) (gl : List GenState)
noncomputable abbrev Sm1Post (r : List (Int × Nat)) : Nat → Result → List (Nat × Obj) → List GenState → Prop := fun _ x E2 gl2 =>
  ∃ (out : List (Nat × Nat)) (hh : Int) (tt : Nat) (xv : Value), x = .ok .next ∧ gl2 = gl ∧ out.map (·.1) = (List.range 4).filter (badR r) ∧ E2 = smE C (rgI 4 0 1) (out.map ivn) out.length (dct [(hh, sPlace, tt, xv)] 1) (r.map ivv)
theorem sm1_loop (r : List (Int × Nat)) (hr : r.length = 4) (w : World) (lo : Nat) :
    SpcT w 120 lo (smC sm1X sRuler C) gl (smE C (rgI 0 4 1) [] 0 (dct [] 0) (r.map ivv)) (Sm1Post C gl r) := by
  refine loop_ind (N := 4) (fun lo j E => ∃ (out : List (Nat × Nat)) (od : Obj), out.map (·.1) = (List.range j).filter (badR r) ∧ OdOk sPlace j od ∧ E = smE C (rgI (.ofNat j) (.ofNat (4 - j)) 1) (out.map ivn) out.length od (r.map ivv)) ?_ ?_ 4 0 rfl w lo _ ⟨[], _, rfl, .inl ⟨rfl, rfl⟩, rfl⟩
  · rintro w lo j E j4 ⟨out, od, ho, hd, rfl⟩ IH
    have lj : out.length ≤ j := by
      have := congrArg List.length ho
      rw [List.length_map] at this
      rw [this]
      exact Nat.le_trans (List.length_filter_le _ _) (by rw [List.length_range]; exact Nat.le_refl _)
    refine spcT_fol fun c1 c2 => ?_
    obtain ⟨hh, tt, xv, hod⟩ := sd_of hd
    have rr := rul_is r hr
    have eo := vals_all out ivn
    have hp : 4 - j = 3 - j + 1 := Nat.succ_sub (Nat.le_of_lt_succ j4)
    have o4 : out.length < 4 := Nat.lt_of_le_of_lt lj j4
    cases hb : badR r j with
    | false =>
      refine spcT_of spS 1000 sm1OcN 5 rfl (by kernel_rfl) (by decide) fun A R h d tk os hA hdep Pr hlo K n P B => ?_
      have q := fun U => tab_get (sm1_N c1 c2 w C ⟨n, tk, P, B, hh, tt, xv, U⟩ gl (fun k => (r.getD k (0, 0)).1) (fun k => (r.getD k (0, 0)).2) (out.map ivn) out.length) j j4
      unfold sm10 vSt vNt at q
      simp only [Prod.mk.injEq, rr] at q
      have q0 := (q ⟨0, 0, P, B⟩).1.1
      rw [← hod] at q0
      refine sat_nx (D := 120) q0 (tc_spec (fol c1 c2 w) 0 gl n _ _ (tk + 2) (tk + 3)) (Nat.zero_le _) (by decide) (by decide) hA hdep Pr (fun _ _ _ _ h => h.2.2) (fun _ _ _ h => by rw [h.2.1]; exact ok_same _ _ rfl rfl) ?_
      rintro _ _ U le ⟨rfl, rfl, _⟩ _
      have q1 := (q U).2
      rw [← hod] at q1
      rw [show ((r.getD j (0, 0)).1 == 0 || (r.getD j (0, 0)).1 == 127) = false from hb]
      refine sat_nextT q1.1 (fun _ => Nat.le_of_eq q1.2.symm) (IH _ U.tk _ (Nat.le_trans hlo le) ⟨out, sdTo (fol c1 c2 w) sPlace ⟨n, tk, P, B, hh, tt, xv, U⟩ j (.int (.ofNat j) tk), ?_, sdTo_ok .., ?_⟩) (by decide) hA hdep Pr fun r' h' E2 gl2 tk' le' => K r' h' E2 gl2 tk' (Nat.le_trans le le')
      · rw [ho, List.range_succ, List.filter_append, List.filter_cons_of_neg (by rw [hb]; decide), List.filter_nil, List.append_nil]
      · rw [show 4 - (j + 1) = 3 - j from Nat.succ_sub_succ 3 j]
    | true =>
      refine spcT_of spS 1000 sm1OcY 5 rfl (by kernel_rfl) (by decide) fun A R h d tk os hA hdep Pr hlo K n P B => ?_
      have q := fun U => tab_get (sm1_Y c1 c2 w C ⟨n, tk, P, B, hh, tt, xv, U⟩ gl (fun k => (r.getD k (0, 0)).1) (fun k => (r.getD k (0, 0)).2) (fun j => (out.map ivn).getD j .none)) (4 * j + out.length) (LT.md_lt o4 j4)
      rw [show (4 * j + out.length) % 4 = out.length from LT.md_mod o4, show (4 * j + out.length) / 4 = j from LT.md_div (by decide) o4] at q
      unfold sm10 vSt vNt at q
      simp only [Prod.mk.injEq, rr, eo] at q
      have q0 := (q ⟨0, 0, P, B⟩).1.1
      rw [← hod] at q0
      refine sat_nx (D := 120) q0 (tc_spec (fol c1 c2 w) 0 gl n _ _ (tk + 2) (tk + 3)) (Nat.zero_le _) (by decide) (by decide) hA hdep Pr (fun _ _ _ _ h => h.2.2) (fun _ _ _ h => by rw [h.2.1]; exact ok_same _ _ rfl rfl) ?_
      rintro _ _ U le ⟨rfl, rfl, _⟩ _
      have q1 := (q U).2
      rw [← hod] at q1
      rw [show ((r.getD j (0, 0)).1 == 0 || (r.getD j (0, 0)).1 == 127) = true from hb]
      refine sat_nextT q1.1 (fun _ => Nat.le_of_eq q1.2.symm) (IH _ U.tk _ (Nat.le_trans hlo le) ⟨out ++ [(j, tk)], sdTo (fol c1 c2 w) sPlace ⟨n, tk, P, B, hh, tt, xv, U⟩ j (.int (.ofNat j) tk), ?_, sdTo_ok .., ?_⟩) (by decide) hA hdep Pr fun r' h' E2 gl2 tk' le' => K r' h' E2 gl2 tk' (Nat.le_trans le le')
      · rw [List.map_append, ho, List.range_succ, List.filter_append, List.filter_cons_of_pos (by rw [hb]), List.filter_nil]; rfl
      · rw [show 4 - (j + 1) = 3 - j from Nat.succ_sub_succ 3 j, List.map_append, List.length_append]; rfl
  · rintro w lo E ⟨out, od, ho, hd, rfl⟩
    refine spcT_fol fun c1 c2 => ?_
    rcases hd with ⟨h0, _⟩ | ⟨_, hh, tt, xv, rfl⟩
    · exact absurd h0 (by decide)
    refine spcT_of spS 1000 [1, 1, 1, 1, 1, 7] 5 rfl (by kernel_rfl) (by decide) fun A R h d tk os hA hdep Pr hlo K n P B => ?_
    have q := sm1_Z c1 c2 w C ⟨n, tk, P, B, 0, 0, .none, ⟨0, 0, P, B⟩⟩ gl (out.map ivn) out.length (dct [(hh, sPlace, tt, xv)] 1) (r.map ivv)
    exact sat_retV q (by decide) fun h' tk' le F' => K _ _ _ _ _ le F' ⟨out, hh, tt, xv, rfl, rfl, ho, rfl⟩
/-- the sums of a row of sizes -/
noncomputable def sumsI (xs : List Int) : List Int := (List.range xs.length).map fun j => (xs.take (j + 1)).sum
noncomputable abbrev Sm2Post (xs : List (Int × Nat)) : Nat → Result → List (Nat × Obj) → List GenState → Prop := fun _ x E2 gl2 =>
  ∃ (out : List (Int × Nat)) (hh : Int) (tt : Nat) (xv : Value), x = .ok .next ∧ gl2 = gl ∧ out.map (·.1) = sumsI (xs.map (·.1)) ∧ E2 = smE C (rgI (.ofNat xs.length) 0 1) (out.map ivv) xs.length (dct [(hh, sPlace, tt, xv)] 1) (xs.map ivv)
theorem ofNat_pred (k : Nat) : Int.ofNat (k + 1) - 1 = Int.ofNat k := by
  show ((k + 1 : Nat) : Int) - 1 = (k : Int)
  omega
theorem sm2_loop (xs : List (Int × Nat)) (hx : xs.length ≤ 10) (h1 : xs.length ≠ 0) (w : World) (lo : Nat) :
    SpcT w 120 lo (smC sm2X sSizes C) gl (smE C (rgI 0 (.ofNat xs.length) 1) [] 0 (dct [] 0) (xs.map ivv)) (Sm2Post C gl xs) := by
  refine loop_ind (N := xs.length) (fun lo j E => ∃ (out : List (Int × Nat)) (od : Obj), out.map (·.1) = (List.range j).map (fun j => ((xs.map (·.1)).take (j + 1)).sum) ∧ OdOk sPlace j od ∧ E = smE C (rgI (.ofNat j) (.ofNat (xs.length - j)) 1) (out.map ivv) j od (xs.map ivv)) ?_ ?_ xs.length 0 (Nat.zero_add _) w lo _ ⟨[], _, rfl, .inl ⟨rfl, rfl⟩, rfl⟩
  · rintro w lo j E jn ⟨out, od, ho, hd, rfl⟩ IH
    have lj : out.length = j := by
      have := congrArg List.length ho
      simpa using this
    have hk : xs.length - j = (xs.length - j - 1) + 1 := (Nat.sub_add_cancel (Nat.sub_pos_of_lt jn)).symm
    have hk2 : xs.length - (j + 1) = xs.length - j - 1 := (Nat.sub_sub xs.length j 1).symm
    refine spcT_fol fun c1 c2 => ?_
    obtain ⟨hh, tt, xv, hod⟩ := sd_of hd
    have eo := vals_map out ivv lj
    rw [hk]
    rw [hk2] at IH
    generalize xs.length - j - 1 = k at IH ⊢
    refine spcT_of spS2 1000 sm2Oc 5 rfl (by kernel_rfl) (by decide) fun A R h d tk os hA hdep Pr hlo K n P B => ?_
    have q := fun y ws U V x t => tab_get (sm2_runs c1 c2 w C ⟨n, tk, P, B, hh, tt, xv, V⟩ gl (xs.map ivv) ws (fun j => (out.map ivv).getD j .none) k y U x t) j (Nat.lt_of_lt_of_le jn hx)
    rw [eo] at q
    unfold sm22 sm21 sm20 vSt vNt at q
    simp only [Prod.mk.injEq] at q
    have q0 := q 0 [] ⟨0, 0, P, B⟩ ⟨0, 0, P, B⟩ 0 0
    rw [← hod] at q0
    refine sat_nx (D := 120) q0.1.1 (slice_spec (fol c1 c2 w) 0 gl _ _ (xs.map ivv) C.e _ _ none _ .none (.int _ _) (by rw [List.length_map]; omega)) (Nat.zero_le _) (by decide) (by decide) hA hdep Pr (fun _ _ _ _ ⟨_, _, _, h⟩ => h) (fun _ _ _ ⟨_, _, h, _⟩ => by rw [h]; exact ok_new rfl q0.2.2.2) ?_
    rintro _ _ U le ⟨x, rfl, rfl, _⟩ hy
    obtain ⟨y, hy⟩ := hy (x, _) (.head _)
    dsimp only at hy
    subst hy
    rw [pick_upto, ← List.map_take]
    have q1 := q y ((xs.take (j + 1)).map ivv) U ⟨0, 0, P, B⟩ 0 0
    rw [← hod] at q1
    refine sat_nx (D := 120) q1.2.1 (sum_spec (fol c1 c2 w) 0 gl (y + 178) 0 (xs.take (j + 1))) (Nat.zero_le _) (by decide) (by decide) hA hdep Pr (fun _ _ _ _ ⟨_, _, _, h⟩ => h) (fun _ _ _ ⟨_, _, h, _⟩ => by rw [h]; exact ok_same _ _ rfl rfl) ?_
    rintro _ _ V le2 ⟨t, rfl, rfl, _⟩ _
    have q2 := (q y ((xs.take (j + 1)).map ivv) U V ((xs.take (j + 1)).map (·.1)).sum t).2.2.1
    rw [← hod, ofNat_pred] at q2
    refine sat_nextT q2.1 (fun _ => Nat.le_of_eq q2.2.symm) (IH _ V.tk _ (Nat.le_trans hlo (Nat.le_trans le le2)) ⟨out ++ [(((xs.take (j + 1)).map (·.1)).sum, t)], sdTo (fol c1 c2 w) sPlace ⟨n, tk, P, B, hh, tt, xv, V⟩ j (.int (.ofNat j) tk), ?_, sdTo_ok .., ?_⟩) (by decide) hA hdep Pr fun r' h' E2 gl2 tk' le' => K r' h' E2 gl2 tk' (Nat.le_trans le (Nat.le_trans le2 le'))
    · rw [List.map_append, ho, List.range_succ, List.map_append, List.map_take]; rfl
    · rw [List.map_append]; rfl
  · rintro w lo E ⟨out, od, ho, hd, rfl⟩
    refine spcT_fol fun c1 c2 => ?_
    rw [Nat.sub_self]
    rcases hd with ⟨h0, _⟩ | ⟨_, hh, tt, xv, rfl⟩
    · exact absurd h0 h1
    refine spcT_of spS2 1000 [1, 1, 1, 1, 1, 7] 5 rfl (by kernel_rfl) (by decide) fun A R h d tk os hA hdep Pr hlo K n P B => ?_
    have q := sm2_Z c1 c2 w C ⟨n, tk, P, B, 0, 0, .none, ⟨0, 0, P, B⟩⟩ gl (xs.map ivv) (dct [(hh, sPlace, tt, xv)] 1) (out.map ivv) xs.length (.ofNat xs.length)
    exact sat_retV q (by decide) fun h' tk' le F' => K _ _ _ _ _ le F' ⟨out, hh, tt, xv, rfl, rfl, by rw [ho]; unfold sumsI; rw [List.length_map], rfl⟩
noncomputable abbrev Sm3Post (xs : List (Int × Nat)) : Nat → Result → List (Nat × Obj) → List GenState → Prop := fun tk' x E2 gl2 =>
  ∃ (out : List (Bool × Nat)) (hh : Int) (tt : Nat) (xv : Value), x = .ok .next ∧ gl2 = gl ∧ out.map (·.1) = (List.range 7).map (fun j => (xs.map (·.1)).any (· == .ofNat (j + 1))) ∧ E2 = smE C (rgI 8 0 1) (out.map bvv) 7 (dct [(hh, sMinute, tt, xv)] 1) (xs.map ivv) ∧ ∀ q ∈ out, InT tk' q.2
theorem sm3_loop (xs : List (Int × Nat)) (w : World) (lo : Nat) (h0 : 0 < lo) :
    SpcT w 120 lo (smC sm3X sSums C) gl (smE C (rgI 1 7 1) [] 0 (dct [] 0) (xs.map ivv)) (Sm3Post C gl xs) := by
  refine loop_ind (N := 7) (fun lo j E => 0 < lo ∧ ∃ (out : List (Bool × Nat)) (od : Obj), out.map (·.1) = (List.range j).map (fun j => (xs.map (·.1)).any (· == .ofNat (j + 1))) ∧ OdOk sMinute j od ∧ (∀ q ∈ out, InT lo q.2) ∧ E = smE C (rgI (.ofNat (j + 1)) (.ofNat (7 - j)) 1) (out.map bvv) j od (xs.map ivv)) ?_ ?_ 7 0 rfl w lo _ ⟨h0, [], _, rfl, .inl ⟨rfl, rfl⟩, (fun _ h => nomatch h), rfl⟩
  · rintro w lo j E jn ⟨h0, out, od, ho, hd, bo, rfl⟩ IH
    have lj : out.length = j := by
      have := congrArg List.length ho
      simpa using this
    have hk : 7 - j = (6 - j) + 1 := Nat.succ_sub (Nat.le_of_lt_succ jn)
    have hk2 : 7 - (j + 1) = 6 - j := Nat.succ_sub_succ 6 j
    refine spcT_fol fun c1 c2 => ?_
    obtain ⟨hh, tt, xv, hod⟩ := sd_of hd
    have eo := vals_map out bvv lj
    rw [hk]
    rw [hk2] at IH
    generalize 6 - j = k at IH ⊢
    refine spcT_of spS 1000 sm3Oc 5 rfl (by kernel_rfl) (by decide) fun A R h d tk os hA hdep Pr hlo K n P B => ?_
    have q := fun V => tab_get (sm3_runs c1 c2 w C ⟨n, tk, P, B, hh, tt, xv, V⟩ gl (xs.map ivv) (fun j => (out.map bvv).getD j .none) k) j jn
    rw [eo] at q
    unfold sm30 vSt vNt at q
    simp only [Prod.mk.injEq] at q
    have q0 := q ⟨0, 0, P, B⟩
    rw [← hod] at q0
    refine sat_nx (D := 120) q0.1.1 (lc_spec (fol c1 c2 w) 0 gl _ C.e xs (.ofNat (j + 1)) tk) (Nat.zero_le _) (by decide) (by decide) hA hdep Pr (fun _ _ _ _ h => h.2.2) (fun _ _ _ h => by rw [h.2.1]; exact ok_same _ _ rfl rfl) ?_
    rintro _ _ V le ⟨rfl, rfl, _⟩ _
    have q1 := q V
    rw [← hod, ofNat_pred] at q1
    have fin : ∀ β, (xs.map (·.1)).any (· == .ofNat (j + 1)) = β → ∃ od', OdOk sMinute (j + 1) od' ∧ SpcT (fol c1 c2 w) 120 (V.tk + 1) (smC sm3X sSums C) gl (smE C (rgI (.ofNat (j + 2)) (.ofNat k) 1) (out.map bvv ++ [bvv (β, V.tk)]) (j + 1) (sdTo (fol c1 c2 w) sMinute ⟨n, tk, P, B, hh, tt, xv, V⟩ j (.int (.ofNat (j + 1)) tk)) (xs.map ivv)) (Sm3Post C gl xs) := by
      intro β hβ
      refine ⟨_, sdTo_ok (fol c1 c2 w) sMinute ⟨n, tk, P, B, hh, tt, xv, V⟩ j (.int (.ofNat (j + 1)) tk), IH _ (V.tk + 1) _ (Nat.le_succ_of_le (Nat.le_trans hlo le)) ⟨Nat.succ_pos _, out ++ [(β, V.tk)], sdTo (fol c1 c2 w) sMinute ⟨n, tk, P, B, hh, tt, xv, V⟩ j (.int (.ofNat (j + 1)) tk), ?_, sdTo_ok .., fun x hx => ?_, ?_⟩⟩
      · rw [List.map_append, ho, List.range_succ, List.map_append, ← hβ]; rfl
      · rcases List.mem_append.mp hx with hx | hx
        · exact (bo x hx).mono (by omega)
        · rw [List.mem_singleton.mp hx]
          exact ⟨show 0 < V.tk by omega, Nat.lt_succ_self _⟩
      · rw [List.map_append]; rfl
    cases hβ : (xs.map (·.1)).any (· == .ofNat (j + 1)) with
    | true =>
      obtain ⟨od', hod', z⟩ := fin true hβ
      exact sat_nextT q1.2.1.1 (fun _ => Nat.le_of_eq q1.2.1.2.symm) z (by decide) hA hdep Pr fun r' h' E2 gl2 tk' le' => K r' h' E2 gl2 tk' (Nat.le_trans le le')
    | false =>
      obtain ⟨od', hod', z⟩ := fin false hβ
      exact sat_nextT q1.2.2.1 (fun _ => Nat.le_of_eq q1.2.2.2.symm) z (by decide) hA hdep Pr fun r' h' E2 gl2 tk' le' => K r' h' E2 gl2 tk' (Nat.le_trans le le')
  · rintro w lo E ⟨h0, out, od, ho, hd, bo, rfl⟩
    refine spcT_fol fun c1 c2 => ?_
    rcases hd with ⟨h7, _⟩ | ⟨_, hh, tt, xv, rfl⟩
    · exact absurd h7 (by decide)
    refine spcT_of spS 1000 [1, 1, 1, 1, 1, 7] 5 rfl (by kernel_rfl) (by decide) fun A R h d tk os hA hdep Pr hlo K n P B => ?_
    have q := sm3_Z c1 c2 w C ⟨n, tk, P, B, 0, 0, .none, ⟨0, 0, P, B⟩⟩ gl (xs.map ivv) (dct [(hh, sMinute, tt, xv)] 1) (out.map bvv) 7 8
    exact sat_retV q (by decide) fun h' tk' le F' => K _ _ _ _ _ le F' ⟨out, hh, tt, xv, rfl, rfl, ho, rfl, fun x hx => (bo x hx).mono (Nat.le_trans hlo le)⟩
end
end Mine
end
section
set_option genInjectivity false
set_option maxRecDepth 100000
set_option maxHeartbeats 400000
namespace Mine
open PySem PySem.Spec PySem.Calls PyProof.Rows PySem.W PySem.W.X
/-! _law_sums, whole; a ruler's pattern: the places of its stops, the first of them, is it a 0 -/
noncomputable def smPat : List (List Nat × Nat × Bool) := [([], 4, false),
  ([1], 1, false), ([2], 2, false), ([3], 3, false), ([1, 2], 1, false), ([1, 3], 1, false), ([2, 3], 2, false), ([1, 2, 3], 1, false),
  ([1], 1, true), ([2], 2, true), ([3], 3, true), ([1, 2], 1, true), ([1, 3], 1, true), ([2, 3], 2, true), ([1, 2, 3], 1, true)]
noncomputable def smF (i : Nat) : List Nat := (smPat.getD i ([], 0, false)).1
noncomputable def smK (i : Nat) : Nat := (smPat.getD i ([], 0, false)).2.1
noncomputable def smB (i : Nat) : Bool := (smPat.getD i ([], 0, false)).2.2
noncomputable def ocMin : Nat → List Nat
  | 0 => [11, 12, 12, 15, 13, 13, 13]
  | f + 1 => [11, 12, 12, 13, 12, 12, 12, 12] ++ ocMin f
noncomputable def smOc (b2 : Bool) (i : Nat) : List Nat := [0, 0, 3, 3, 1, 3, 1, 1, 1, 1, 1, 0, 0, 0, 0, 6, 6, 6, 6, 6, 6, 6, 6, 6, 6] ++ cond b2 [7] [7, 7, 7, 7, 7] ++ [9, 9, 9, 8, 10, 8, 8, 10, 8, 10, 11, 11, 11, 12, 13, 12, 12, 12, 12, 11, 12, 12, 13, 13, 13, 13, 12, 12, 12, 12] ++ ocMin (smF i).length ++
  [2, 2, 3, 2, 1, 1, 1, 1, 16, 16, 16, 16, 16, 1, 4, 4, 3, 2, 2, 1, 1, 1, 1, 18, 18, 18, 18, 18, 1, 19, 19] ++
  cond (smB i) ([4, 4, 17, 17, 17, 17, 20, 20, 20, 20, 20, 17, 21, 21, 21, 21, 21, 17, 22, 17, 17, 22, 17, 22, 4, 4, 0, 0, 0, 0, 4, 23, 23, 23, 24, 24, 24, 24, 24, 24, 24, 24, 24, 24] ++ cond b2 [25] [25, 25, 25, 25, 25] ++ [27, 27, 27, 5, 5, 0, 0, 28, 28, 28, 28, 28, 28, 28, 28, 28, 28] ++ cond b2 [29] [29, 29, 29, 29, 29] ++ [31, 31, 31])
    ([0, 0, 0, 0, 4, 17, 17, 17, 20, 20, 20, 20, 20, 20, 20, 20, 20, 20] ++ cond b2 [21] [21, 21, 21, 21, 21] ++ [23, 23, 23, 5, 5, 0, 0, 24, 24, 24, 24, 24, 24, 24, 24, 24, 24] ++ cond b2 [25] [25, 25, 25, 25, 25] ++ [27, 27, 27])
noncomputable abbrev sumC (r : Nat) : Code := .call (.ref 145) ⟨[.ref (r + 178)], []⟩
/-- a ruler that begins with c + 1 -/
noncomputable def rulP (c : Nat) (xv : Nat → Int) (tv : Nat → Nat) : List Value := [0, 1, 2, 3].map fun k => cond (Nat.beq k 0) (.int (.ofNat (c + 1)) (tv 0)) (.int (xv k) (tv k))
structure Sq where
  r : Nat
  er : Nat
  c : Nat
  xv : Nat → Int
  tv : Nat → Nat
  tf : Nat → Nat
  hh : Nat → Int
  tt : Nat → Nat
  od : Nat → Value
  v2 : Nat → Value
  v3 : Nat → Value
  gl : List GenState
  U : Un
  U1 : Un
  U2 : Un
  U3 : Un
  U4 : Un
noncomputable abbrev sqR (Q : Sq) : List Value := rulP Q.c Q.xv Q.tv
noncomputable abbrev sqC1 (Q : Sq) : Sf := ⟨Q.U.n + 5, Q.U.n + 6, Q.U.n + 7, Q.U.n + 1, Q.r, Q.U.n, Q.er⟩
noncomputable abbrev sqC2 (Q : Sq) (i : Nat) : Sf := cond (smB i) ⟨Q.U2.n + 5, Q.U2.n + 6, Q.U2.n + 7, Q.U.n + 2, Q.U2.n + 3, Q.U.n, 0⟩ ⟨Q.U2.n + 1, Q.U2.n + 2, Q.U2.n + 3, Q.U.n + 2, Q.U1.n + 7, Q.U.n, 0⟩
noncomputable def sqZ (Q : Sq) (i : Nat) : List Value := (sqR Q).take (smK i) ++ cond (smB i) (List.replicate 7 ((sqR Q).getD (smK i - 1) .none)) []
noncomputable def sqN (i : Nat) : Nat := smK i + cond (smB i) 7 0
noncomputable abbrev sqC3 (Q : Sq) (i : Nat) : Sf := ⟨Q.U3.n + 1, Q.U3.n + 2, Q.U3.n + 3, Q.U.n + 3, (sqC2 Q i).ac, Q.U.n, sqN i⟩
noncomputable abbrev sqI2 (i : Nat) : List Nat := cond (smB i) [24, 25, 26, 3, 22] [20, 21, 22, 3, 16]
noncomputable abbrev sqI3 (i : Nat) : List Nat := cond (smB i) [28, 29, 30, 4, 25] [24, 25, 26, 4, 21]
noncomputable abbrev sqI4 (i : Nat) : List Nat := cond (smB i) [0, 29] [0, 25]
noncomputable def sq0 (b2 : Bool) (w : World) (Q : Sq) (i : Nat) : Out := go w spS 4000 (sumC Q.r) (smOc b2 i) Q.U.P Q.U.B [(Q.r + 178, lst (sqR Q) Q.er)] 1 Q.U.n Q.U.tk Q.gl
noncomputable def sq1 (b2 : Bool) (w : World) (Q : Sq) (i : Nat) : Out := nx (sq0 b2 w Q i) [6, 7, 8, 2, 0] (.ok .next) (smE (sqC1 Q) (rgI 4 0 1) ((smF i).zipIdx.map fun p => .int (.ofNat p.1) (Q.tf p.2)) (smF i).length (dct [(Q.hh 0, sPlace, Q.tt 0, Q.od 0)] 1) (sqR Q)) Q.gl Q.U1
noncomputable def sq2 (b2 : Bool) (w : World) (Q : Sq) (i : Nat) : Out := nx (sq1 b2 w Q i) [18] (.ok (.ret (.bool (smB i)))) [(Q.U1.n + 9 + 178, lst (((sqR Q).drop (smK i)).take 1) 0)] Q.gl Q.U2
noncomputable def sq3 (b2 : Bool) (w : World) (Q : Sq) (i : Nat) : Out := nx (sq2 b2 w Q i) (sqI2 i) (.ok .next) (smE (sqC2 Q i) (rgI (.ofNat (sqN i)) 0 1) (vals Q.v2 0 (sqN i)) (sqN i) (dct [(Q.hh 1, sPlace, Q.tt 1, Q.od 1)] 1) (sqZ Q i)) Q.gl Q.U3
noncomputable def sq4 (b2 : Bool) (w : World) (Q : Sq) (i : Nat) : Out := nx (sq3 b2 w Q i) (sqI3 i) (.ok .next) (smE (sqC3 Q i) (rgI 8 0 1) (vals Q.v3 0 7) 7 (dct [(Q.hh 2, sMinute, Q.tt 2, Q.od 2)] 1) (vals Q.v2 0 (sqN i))) Q.gl Q.U4
end Mine
end
section
set_option maxRecDepth 100000
set_option maxHeartbeats 400000
namespace Mine
open PySem PySem.Spec PySem.Calls PyProof.Rows PySem.W PySem.W.X
/-- what a pattern's pieces show, and what they should -/
noncomputable abbrev sqL (b2 : Bool) (w : World) (Q : Sq) (i : Nat) :=
  (vS [6, 7, 8, 2, 0] (sq0 b2 w Q i), vS [18] (sq1 b2 w Q i), vS (sqI2 i) (sq2 b2 w Q i), vS (sqI3 i) (sq3 b2 w Q i), vL (sqI4 i) (sq4 b2 w Q i))
noncomputable abbrev sqA (b2 : Bool) (w : World) (Q : Sq) (i : Nat) :=
  (vSR (smC sm1X sRuler (sqC1 Q)) 1 (smE (sqC1 Q) (rgI 0 4 1) [] 0 (dct [] 0) (sqR Q)) Q.gl (sq0 b2 w Q i),
   vSR (.call (.builtin "list.__contains__") ⟨[.ref (Q.U1.n + 9 + 178), .int 0 (Q.U1.tk + 2)], []⟩) 1 [(Q.U1.n + 9 + 178, lst (((sqR Q).drop (smK i)).take 1) 0)] Q.gl (sq1 b2 w Q i),
   vSR (smC sm2X sSizes (sqC2 Q i)) 1 (smE (sqC2 Q i) (rgI 0 (.ofNat (sqN i)) 1) [] 0 (dct [] 0) (sqZ Q i)) Q.gl (sq2 b2 w Q i),
   vSR (smC sm3X sSums (sqC3 Q i)) 1 (smE (sqC3 Q i) (rgI 1 7 1) [] 0 (dct [] 0) (vals Q.v2 0 (sqN i))) Q.gl (sq3 b2 w Q i),
   vR (.ok (.ret (.ref (Q.U3.n + 2 + 178)))) [(Q.r + 178, lst (sqR Q) Q.er), (Q.U3.n + 2 + 178, lst (vals Q.v3 0 7) 7)] Q.gl (sq4 b2 w Q i))
theorem sq_runs (b1 b2 : Bool) (w : World) (Q : Sq) : tab (sqL b2 (fol b1 b2 w) Q) 15 = tab2 (sqA b2 (fol b1 b2 w) Q) 15 := by
  cases b1 <;> cases b2 <;> kernel_rfl
end Mine
end
section
set_option genInjectivity false
set_option maxRecDepth 100000
set_option maxHeartbeats 1000000
namespace Mine
open PySem PySem.Spec PySem.Calls PyProof.Rows PySem.W PySem.W.X
/-- the sizes that a ruler tells; k: the first stop, z: it is a 0 -/
noncomputable def sizesOf (xs : List (Int × Nat)) (k : Nat) (z : Bool) : List (Int × Nat) := xs.take k ++ cond z (List.replicate 7 (xs.getD (k - 1) (0, 0))) []
/-- the row of a ruler's sums -/
noncomputable def rowOf (l : List Int) : List Bool := (List.range 7).map fun j => (sumsI l).any (· == .ofNat (j + 1))
theorem zip_is (l : List (Nat × Nat)) : ((l.map (·.1)).zipIdx.map fun p => Value.int (.ofNat p.1) ((l.getD p.2 (0, 0)).2)) = l.map ivn := by
  refine List.ext_getElem (by simp) fun i h1 h2 => ?_
  have hi : i < l.length := by simpa using h2
  simp [ivn, hi]
theorem rulP_is (r : List (Int × Nat)) (c : Nat) (h : r.length = 4) (h0 : (r.getD 0 (0, 0)).1 = .ofNat (c + 1)) : rulP c (fun k => (r.getD k (0, 0)).1) (fun k => (r.getD k (0, 0)).2) = r.map ivv := by
  match r, h with
  | [(a, a'), b, c', d], _ =>
    have h0 : a = .ofNat (c + 1) := h0
    subst h0
    rfl
theorem getD_map {α : Type} (l : List α) (g : α → Value) (j : Nat) (a : α) (h : j < l.length) : (l.map g).getD j .none = g (l.getD j a) := by
  simp [h]
theorem pat_ok (i : Nat) (h : i < 15) : 1 ≤ smK i ∧ smK i ≤ 4 ∧ sqN i ≤ 10 ∧ sqN i ≠ 0 ∧ (sqI2 i).Nodup ∧ (sqI3 i).Nodup ∧ (sqI4 i).Nodup ∧ sqI2 i ≠ [] ∧ (sqI2 i).length = 5 ∧ (sqI3 i).length = 5 := by
  have all : ∀ i : Fin 15, 1 ≤ smK i ∧ smK i ≤ 4 ∧ sqN i ≤ 10 ∧ sqN i ≠ 0 ∧ (sqI2 i).Nodup ∧ (sqI3 i).Nodup ∧ (sqI4 i).Nodup ∧ sqI2 i ≠ [] ∧ (sqI2 i).length = 5 ∧ (sqI3 i).length = 5 := by decide +kernel
  exact all ⟨i, h⟩
noncomputable abbrev SumPost (r er : Nat) (gl : List GenState) (rl : List (Int × Nat)) (G : List Bool) : Nat → Result → List (Nat × Obj) → List GenState → Prop := fun tk' x E2 gl2 =>
  ∃ (y m : Nat) (out : List (Bool × Nat)), x = .ok (.ret (.ref (y + 178))) ∧ gl2 = gl ∧ E2 = [(r + 178, lst (rl.map ivv) er), (y + 178, lst (out.map bvv) m)] ∧ out.map (·.1) = G ∧ ∀ q ∈ out, InT tk' q.2
/-- what is known at a stage of _law_sums, in plain words -/
structure Sp where
  st : Nat
  r : Nat
  er : Nat
  c : Nat
  rl : List (Int × Nat)
  o1 : List (Nat × Nat)
  o2 : List (Int × Nat)
  o3 : List (Bool × Nat)
  hh : Nat → Int
  tt : Nat → Nat
  od : Nat → Value
  gl : List GenState
  U : Un
  U1 : Un
  U2 : Un
  U3 : Un
  U4 : Un
noncomputable def Sp.q (Q : Sp) : Sq := ⟨Q.r, Q.er, Q.c, fun k => (Q.rl.getD k (0, 0)).1, fun k => (Q.rl.getD k (0, 0)).2, fun k => (Q.o1.getD k (0, 0)).2, Q.hh, Q.tt, Q.od, fun j => (Q.o2.map ivv).getD j .none, fun j => (Q.o3.map bvv).getD j .none, Q.gl, Q.U, Q.U1, Q.U2, Q.U3, Q.U4⟩
structure SmF (rl : List (Int × Nat)) (c i : Nat) (zs : List (Int × Nat)) : Prop where
  hr : rl.length = 4
  hc : (rl.getD 0 (0, 0)).1 = .ofNat (c + 1)
  hi : i < 15
  hF : smF i = (List.range 4).filter (badR rl)
  hB : (((rl.drop (smK i)).take 1).map (fun p : Int × Nat => p.1)).any (· == 0) = smB i
  hz : (rl.map ivv).take (smK i) ++ cond (smB i) (List.replicate 7 ((rl.map ivv).getD (smK i - 1) .none)) [] = zs.map ivv
  hzl : zs.length = sqN i
structure SmX (w : World) (A : Around) (R : Result → Shared → Prop) (h : Heap) (d : Drawn) (os : OsState) (r er lo : Nat) (rl zs : List (Int × Nat)) (gl : List GenState) : Prop where
  hA : A.handled = none
  hdep : Room A 130
  Pr : Pre (ktw w) h [(r + 178, lst (rl.map ivv) er)]
  h0 : 0 < lo
  K : ∀ h' y (out : List (Bool × Nat)) tk', lo ≤ tk' → Fra h h' [(r + 178, lst (rl.map ivv) er)] [(r + 178, lst (rl.map ivv) er), (y + 178, lst (out.map bvv) 7)] → out.map (fun p : Bool × Nat => p.1) = rowOf (zs.map (fun p : Int × Nat => p.1)) → (∀ q ∈ out, InT tk' q.2) → R (.ok (.ret (.ref (y + 178)))) ⟨h', ⟨gl⟩, d, tk', os⟩
section
variable {b1 b2 : Bool} {w : World} {A : Around} {R : Result → Shared → Prop} {h : Heap} {d : Drawn} {os : OsState} {i : Nat} {zs : List (Int × Nat)}
theorem sq_R {Q : Sp} (F : SmF Q.rl Q.c i zs) : sqR Q.q = Q.rl.map ivv := rulP_is Q.rl Q.c F.hr F.hc
theorem sq_Z {Q : Sp} (F : SmF Q.rl Q.c i zs) : sqZ Q.q i = zs.map ivv := by
  unfold sqZ
  rw [sq_R F]
  exact F.hz
theorem sq_O1 {Q : Sp} (F : SmF Q.rl Q.c i zs) (h1 : Q.o1.map (fun p : Nat × Nat => p.1) = (List.range 4).filter (badR Q.rl)) : ((smF i).zipIdx.map fun p => Value.int (.ofNat p.1) (Q.q.tf p.2)) = Q.o1.map ivn ∧ (smF i).length = Q.o1.length := by
  rw [F.hF, ← h1]
  exact ⟨zip_is Q.o1, List.length_map ..⟩
theorem sm_s4 (Q : Sp) (X : SmX (fol b1 b2 w) A R h d os Q.r Q.er Q.U.tk Q.rl zs Q.gl) (F : SmF Q.rl Q.c i zs) (le : Q.U.tk ≤ Q.U4.tk) (ho : Q.o3.map (fun p : Bool × Nat => p.1) = rowOf (zs.map (fun p : Int × Nat => p.1))) (bo : ∀ q ∈ Q.o3, InT Q.U4.tk q.2) :
    SatX (vOf pw (fol b1 b2 w) A R) h ([(Q.r + 178, lst (Q.rl.map ivv) Q.er)].map (·.1)) d os Q.U4.tk (sq4 b2 (fol b1 b2 w) Q.q i) := by
  have r : vL (sqI4 i) (sq4 b2 (fol b1 b2 w) Q.q i) = vR (.ok (.ret (.ref (Q.U3.n + 2 + 178)))) [(Q.r + 178, lst (sqR Q.q) Q.er), (Q.U3.n + 2 + 178, lst (vals Q.q.v3 0 7) 7)] Q.gl (sq4 b2 (fol b1 b2 w) Q.q i) := congrArg (fun x => x.2.2.2.2) (tab_get (sq_runs b1 b2 w Q.q) i F.hi)
  have e3 : vals Q.q.v3 0 7 = Q.o3.map bvv := vals_map Q.o3 bvv (by have := congrArg List.length ho; simpa [rowOf] using this)
  rw [sq_R F, e3] at r
  exact sat_retV r (pat_ok i F.hi).2.2.2.2.2.2.1 fun h' tk' le' F' => X.K h' (Q.U3.n + 2) Q.o3 tk' (Nat.le_trans le le') F' ho fun x hx => (bo x hx).mono le'
theorem sm_s3 (Q : Sp) (X : SmX (fol b1 b2 w) A R h d os Q.r Q.er Q.U.tk Q.rl zs Q.gl) (F : SmF Q.rl Q.c i zs) (le : Q.U.tk ≤ Q.U3.tk) (ho : Q.o2.map (fun p : Int × Nat => p.1) = sumsI (zs.map (fun p : Int × Nat => p.1))) :
    SatX (vOf pw (fol b1 b2 w) A R) h ([(Q.r + 178, lst (Q.rl.map ivv) Q.er)].map (·.1)) d os Q.U3.tk (sq3 b2 (fol b1 b2 w) Q.q i) := by
  have r : vS (sqI3 i) (sq3 b2 (fol b1 b2 w) Q.q i) = vSR (smC sm3X sSums (sqC3 Q.q i)) 1 (smE (sqC3 Q.q i) (rgI 1 7 1) [] 0 (dct [] 0) (vals Q.q.v2 0 (sqN i))) Q.gl (sq3 b2 (fol b1 b2 w) Q.q i) := congrArg (fun x => x.2.2.2.1) (tab_get (sq_runs b1 b2 w Q.q) i F.hi)
  have e2 : vals Q.q.v2 0 (sqN i) = Q.o2.map ivv := vals_map Q.o2 ivv (by have := congrArg List.length ho; rw [← F.hzl]; simpa [sumsI] using this)
  rw [e2] at r
  have P := pat_ok i F.hi
  have t3 : 0 < Q.U3.tk := Nat.lt_of_lt_of_le X.h0 le
  refine sat_nx (D := 130) r (sm3_loop _ Q.gl Q.o2 (fol b1 b2 w) Q.U3.tk t3) (Nat.le_refl _) P.2.2.2.2.2.1 (by decide) X.hA X.hdep X.Pr (fun _ _ _ _ ⟨_, _, _, _, _, h, _⟩ => h) (fun _ _ _ ⟨_, _, _, _, _, _, _, h, _⟩ => by rw [h]; exact ok_same _ _ rfl P.2.2.2.2.2.2.2.2.2.symm) ?_
  rintro _ _ U4 le4 ⟨o3, h3, t3, x3, rfl, _, ho3, rfl, bo⟩ _
  have l3 : o3.length = 7 := by have := congrArg List.length ho3; simpa using this
  rw [← e2, ← vals_map o3 bvv l3]
  refine sm_s4 { Q with st := 4, o3 := o3, hh := fun k => cond (Nat.beq k 2) h3 (Q.hh k), tt := fun k => cond (Nat.beq k 2) t3 (Q.tt k), od := fun k => cond (Nat.beq k 2) x3 (Q.od k), U4 := U4 } X F (Nat.le_trans le le4) ?_ bo
  rw [ho3]
  unfold rowOf
  rw [ho]
theorem sm_s2 (Q : Sp) (X : SmX (fol b1 b2 w) A R h d os Q.r Q.er Q.U.tk Q.rl zs Q.gl) (F : SmF Q.rl Q.c i zs) (le : Q.U.tk ≤ Q.U2.tk) :
    SatX (vOf pw (fol b1 b2 w) A R) h ([(Q.r + 178, lst (Q.rl.map ivv) Q.er)].map (·.1)) d os Q.U2.tk (sq2 b2 (fol b1 b2 w) Q.q i) := by
  have r : vS (sqI2 i) (sq2 b2 (fol b1 b2 w) Q.q i) = vSR (smC sm2X sSizes (sqC2 Q.q i)) 1 (smE (sqC2 Q.q i) (rgI 0 (.ofNat (sqN i)) 1) [] 0 (dct [] 0) (sqZ Q.q i)) Q.gl (sq2 b2 (fol b1 b2 w) Q.q i) := congrArg (fun x => x.2.2.1) (tab_get (sq_runs b1 b2 w Q.q) i F.hi)
  have P := pat_ok i F.hi
  rw [sq_Z F, ← F.hzl] at r
  refine sat_nx (D := 130) r (sm2_loop _ Q.gl zs (by rw [F.hzl]; exact P.2.2.1) (by rw [F.hzl]; exact P.2.2.2.1) (fol b1 b2 w) 0) (Nat.zero_le _) P.2.2.2.2.1 (by decide) X.hA X.hdep X.Pr (fun _ _ _ _ ⟨_, _, _, _, _, h, _⟩ => h) (fun _ _ _ ⟨_, _, _, _, _, _, _, h⟩ => by rw [h]; exact ok_same _ _ rfl P.2.2.2.2.2.2.2.2.1.symm) ?_
  rintro _ _ U3 le3 ⟨o2, h2, t2, x2, rfl, _, ho2, rfl⟩ _
  have l2 : o2.length = sqN i := by
    have := congrArg List.length ho2
    rw [← F.hzl]
    simpa [sumsI] using this
  rw [F.hzl, ← sq_Z F, ← vals_map o2 ivv l2]
  exact sm_s3 { Q with st := 3, o2 := o2, hh := fun k => cond (Nat.beq k 1) h2 (Q.hh k), tt := fun k => cond (Nat.beq k 1) t2 (Q.tt k), od := fun k => cond (Nat.beq k 1) x2 (Q.od k), U3 := U3 } X F (Nat.le_trans le le3) ho2
theorem sm_s1 (Q : Sp) (X : SmX (fol b1 b2 w) A R h d os Q.r Q.er Q.U.tk Q.rl zs Q.gl) (F : SmF Q.rl Q.c i zs) (le : Q.U.tk ≤ Q.U1.tk) :
    SatX (vOf pw (fol b1 b2 w) A R) h ([(Q.r + 178, lst (Q.rl.map ivv) Q.er)].map (·.1)) d os Q.U1.tk (sq1 b2 (fol b1 b2 w) Q.q i) := by
  have r : vS [18] (sq1 b2 (fol b1 b2 w) Q.q i) = vSR (.call (.builtin "list.__contains__") ⟨[.ref (Q.U1.n + 9 + 178), .int 0 (Q.U1.tk + 2)], []⟩) 1 [(Q.U1.n + 9 + 178, lst (((sqR Q.q).drop (smK i)).take 1) 0)] Q.gl (sq1 b2 (fol b1 b2 w) Q.q i) := congrArg (fun x => x.2.1) (tab_get (sq_runs b1 b2 w Q.q) i F.hi)
  have el : ((sqR Q.q).drop (smK i)).take 1 = ((Q.rl.drop (smK i)).take 1).map ivv := by rw [sq_R F, List.map_take, List.map_drop]
  rw [el] at r
  refine sat_nx (D := 130) r (lc_spec (fol b1 b2 w) 0 Q.gl _ 0 ((Q.rl.drop (smK i)).take 1) 0 (Q.U1.tk + 2)) (Nat.zero_le _) (by decide) (by decide) X.hA X.hdep X.Pr (fun _ _ _ _ h => h.2.2) (fun _ _ _ h => by rw [h.2.1]; exact ok_same _ _ rfl rfl) ?_
  rintro _ _ U2 le2 ⟨rfl, rfl, _⟩ _
  rw [F.hB, ← el]
  exact sm_s2 { Q with st := 2, U2 := U2 } X F (Nat.le_trans le le2)
theorem sm_s0 (Q : Sp) (X : SmX (fol b1 b2 w) A R h d os Q.r Q.er Q.U.tk Q.rl zs Q.gl) (F : SmF Q.rl Q.c i zs) :
    SatX (vOf pw (fol b1 b2 w) A R) h ([(Q.r + 178, lst (Q.rl.map ivv) Q.er)].map (·.1)) d os Q.U.tk (sq0 b2 (fol b1 b2 w) Q.q i) := by
  have r : vS [6, 7, 8, 2, 0] (sq0 b2 (fol b1 b2 w) Q.q i) = vSR (smC sm1X sRuler (sqC1 Q.q)) 1 (smE (sqC1 Q.q) (rgI 0 4 1) [] 0 (dct [] 0) (sqR Q.q)) Q.gl (sq0 b2 (fol b1 b2 w) Q.q i) := congrArg (fun x => x.1) (tab_get (sq_runs b1 b2 w Q.q) i F.hi)
  rw [sq_R F] at r
  refine sat_nx (D := 130) r (sm1_loop _ Q.gl Q.rl F.hr (fol b1 b2 w) 0) (Nat.zero_le _) (by decide) (by decide) X.hA X.hdep X.Pr (fun _ _ _ _ ⟨_, _, _, _, _, h, _⟩ => h) (fun _ _ _ ⟨_, _, _, _, _, _, _, h⟩ => by rw [h]; exact ok_same _ _ rfl rfl) ?_
  rintro _ _ U1 le1 ⟨o1, h1, t1, x1, rfl, _, ho1, rfl⟩ _
  have z := sq_O1 (Q := { Q with o1 := o1 }) F ho1
  rw [← sq_R F, ← z.2, ← z.1]
  exact sm_s1 { Q with st := 1, o1 := o1, hh := fun k => cond (Nat.beq k 0) h1 (Q.hh k), tt := fun k => cond (Nat.beq k 0) t1 (Q.tt k), od := fun k => cond (Nat.beq k 0) x1 (Q.od k), U1 := U1 } X F le1
end
theorem sums_pat (w : World) (lo : Nat) (h0 : 0 < lo) (gl : List GenState) (r er : Nat) (rl : List (Int × Nat)) (hr : rl.length = 4) (c : Nat) (hc : (rl.getD 0 (0, 0)).1 = .ofNat (c + 1)) (i : Nat) (hi : i < 15)
    (hF : smF i = (List.range 4).filter (badR rl)) (hB : (((rl.drop (smK i)).take 1).map (·.1)).any (· == 0) = smB i) :
    SpcT w 130 lo (sumC r) gl [(r + 178, lst (rl.map ivv) er)] (SumPost r er gl rl (rowOf ((sizesOf rl (smK i) (smB i)).map (·.1)))) := by
  obtain ⟨k1, k4, _⟩ := pat_ok i hi
  have F : SmF rl c i (sizesOf rl (smK i) (smB i)) := by
    refine ⟨hr, hc, hi, hF, hB, ?_, ?_⟩
    · unfold sizesOf
      rw [List.map_append, List.map_take, getD_map rl ivv _ (0, 0) (by omega)]
      cases smB i <;> simp
    · unfold sizesOf sqN
      rw [List.length_append, List.length_take]
      cases smB i <;> simp <;> omega
  refine spcT_fol fun b1 b2 => spcT_of spS 4000 (smOc b2 i) 1 rfl (by kernel_rfl) (by decide) fun A R h d tk os hA hdep Pr hlo K n P B => ?_
  have X : SmX (fol b1 b2 w) A R h d os r er tk rl (sizesOf rl (smK i) (smB i)) gl := ⟨hA, hdep, Pr, Nat.lt_of_lt_of_le h0 hlo, fun h' y out tk' le F' ho bo => K _ _ _ _ _ le F' ⟨y, 7, out, rfl, rfl, rfl, ho, bo⟩⟩
  let Q0 : Sp := ⟨0, r, er, c, rl, [], [], [], fun _ => 0, fun _ => 0, fun _ => .none, gl, ⟨n, tk, P, B⟩, ⟨0, 0, P, B⟩, ⟨0, 0, P, B⟩, ⟨0, 0, P, B⟩, ⟨0, 0, P, B⟩⟩
  have z := sm_s0 (b1 := b1) (b2 := b2) Q0 X F
  unfold sq0 at z
  rw [sq_R (Q := Q0) F] at z
  exact z
end Mine
end
section
set_option maxRecDepth 100000
set_option maxHeartbeats 1000000
namespace Mine
open PySem PySem.Spec PySem.Calls PyProof.Rows PySem.W PySem.W.X
noncomputable def smOcZ : List Nat := [0, 0, 3, 3, 1, 3, 1, 1, 1, 1, 1, 6, 6, 6, 6, 6]
noncomputable def rulZ (xv : Nat → Int) (tv : Nat → Nat) : List Value := [0, 1, 2, 3].map fun k => cond (Nat.beq k 0) (.int 0 (tv 0)) (.int (xv k) (tv k))
noncomputable def sqz (w : World) (r er : Nat) (xv : Nat → Int) (tv : Nat → Nat) (gl : List GenState) (U : Un) : Out :=
  go w spS 1000 (sumC r) smOcZ U.P U.B [(r + 178, lst (rulZ xv tv) er)] 1 U.n U.tk gl
theorem sqz_run (b1 b2 : Bool) (w : World) (r er : Nat) (xv : Nat → Int) (tv : Nat → Nat) (gl : List GenState) (U : Un) :
    vLt [0, 6] (sqz (fol b1 b2 w) r er xv tv gl U) = (vR (.ok (.ret (.ref (U.n + 5 + 178)))) [(r + 178, lst (rulZ xv tv) er), (U.n + 5 + 178, lst (List.replicate 7 (.int 1 (U.tk + 2))) 0)] gl (sqz (fol b1 b2 w) r er xv tv gl U), U.tk + 4) := by
  cases b1 <;> kernel_rfl
theorem rulZ_is (r : List (Int × Nat)) (h : r.length = 4) (h0 : (r.getD 0 (0, 0)).1 = 0) : rulZ (fun k => (r.getD k (0, 0)).1) (fun k => (r.getD k (0, 0)).2) = r.map ivv := by
  match r, h with
  | [(a, a'), b, c', d], _ =>
    have h0 : a = 0 := h0
    subst h0
    rfl
/-- the first stop behind the first size -/
noncomputable def badI (x : Int) : Bool := x == 0 || x == 127
noncomputable def stopOf (xs : List Int) : Nat := cond (badI (xs.getD 1 0)) 1 (cond (badI (xs.getD 2 0)) 2 (cond (badI (xs.getD 3 0)) 3 4))
noncomputable def zeroOf (xs : List Int) : Bool := Nat.blt (stopOf xs) 4 && (xs.getD (stopOf xs) 0 == 0)
noncomputable def sizesI (xs : List Int) : List Int := xs.take (stopOf xs) ++ cond (zeroOf xs) (List.replicate 7 (xs.getD (stopOf xs - 1) 0)) []
/-- what _law_sums tells of a ruler -/
noncomputable def sumsB (xs : List Int) : List Bool := if xs.getD 0 0 = 0 then List.replicate 7 true else rowOf (sizesI xs)
theorem pat_of (r : List (Int × Nat)) (h : r.length = 4) (h0 : badR r 0 = false) : ∃ i, i < 15 ∧ smF i = (List.range 4).filter (badR r) ∧ (((r.drop (smK i)).take 1).map (·.1)).any (· == 0) = smB i ∧ (sizesOf r (smK i) (smB i)).map (·.1) = sizesI (r.map (·.1)) := by
  match r, h with
  | [(a, a'), (b, b'), (c, c'), (d, d')], _ =>
    have e0 : badI a = false := h0
    have ef : (List.range 4).filter (badR [(a, a'), (b, b'), (c, c'), (d, d')]) = cond (badI b) [1] [] ++ (cond (badI c) [2] [] ++ cond (badI d) [3] []) := by
      show List.filter _ [0, 1, 2, 3] = _
      have p0 : badR [(a, a'), (b, b'), (c, c'), (d, d')] 0 = badI a := rfl
      have p1 : badR [(a, a'), (b, b'), (c, c'), (d, d')] 1 = badI b := rfl
      have p2 : badR [(a, a'), (b, b'), (c, c'), (d, d')] 2 = badI c := rfl
      have p3 : badR [(a, a'), (b, b'), (c, c'), (d, d')] 3 = badI d := rfl
      simp only [List.filter_cons, List.filter_nil, p0, p1, p2, p3, e0]
      cases badI b <;> cases badI c <;> cases badI d <;> rfl
    rw [ef]
    have ez : zeroOf ([(a, a'), (b, b'), (c, c'), (d, d')].map (·.1)) = cond (badI b) (b == 0) (cond (badI c) (c == 0) (cond (badI d) (d == 0) false)) := by
      unfold zeroOf stopOf
      show (Nat.blt (cond (badI b) 1 (cond (badI c) 2 (cond (badI d) 3 4))) 4 && _) = _
      cases hb : badI b <;> cases hc : badI c <;> cases hd : badI d <;> simp [hb, hc, hd, Nat.blt] <;> rfl
    have es : stopOf ([(a, a'), (b, b'), (c, c'), (d, d')].map (·.1)) = cond (badI b) 1 (cond (badI c) 2 (cond (badI d) 3 4)) := rfl
    unfold sizesI
    rw [ez, es]
    cases hb : badI b with
    | true =>
      cases hz : b == 0 with
      | true =>
        cases hc : badI c with
        | true => cases hd : badI d with
          | true => exact ⟨14, by decide, rfl, by show (b == 0 || false) = true; rw [hz]; rfl, rfl⟩
          | false => exact ⟨11, by decide, rfl, by show (b == 0 || false) = true; rw [hz]; rfl, rfl⟩
        | false => cases hd : badI d with
          | true => exact ⟨12, by decide, rfl, by show (b == 0 || false) = true; rw [hz]; rfl, rfl⟩
          | false => exact ⟨8, by decide, rfl, by show (b == 0 || false) = true; rw [hz]; rfl, rfl⟩
      | false =>
        cases hc : badI c with
        | true => cases hd : badI d with
          | true => exact ⟨7, by decide, rfl, by show (b == 0 || false) = false; rw [hz]; rfl, rfl⟩
          | false => exact ⟨4, by decide, rfl, by show (b == 0 || false) = false; rw [hz]; rfl, rfl⟩
        | false => cases hd : badI d with
          | true => exact ⟨5, by decide, rfl, by show (b == 0 || false) = false; rw [hz]; rfl, rfl⟩
          | false => exact ⟨1, by decide, rfl, by show (b == 0 || false) = false; rw [hz]; rfl, rfl⟩
    | false =>
      cases hc : badI c with
      | true =>
        cases hz : c == 0 with
        | true => cases hd : badI d with
          | true => exact ⟨13, by decide, rfl, by show (c == 0 || false) = true; rw [hz]; rfl, rfl⟩
          | false => exact ⟨9, by decide, rfl, by show (c == 0 || false) = true; rw [hz]; rfl, rfl⟩
        | false => cases hd : badI d with
          | true => exact ⟨6, by decide, rfl, by show (c == 0 || false) = false; rw [hz]; rfl, rfl⟩
          | false => exact ⟨2, by decide, rfl, by show (c == 0 || false) = false; rw [hz]; rfl, rfl⟩
      | false =>
        cases hd : badI d with
        | true =>
          cases hz : d == 0 with
          | true => exact ⟨10, by decide, rfl, by show (d == 0 || false) = true; rw [hz]; rfl, rfl⟩
          | false => exact ⟨3, by decide, rfl, by show (d == 0 || false) = false; rw [hz]; rfl, rfl⟩
        | false => exact ⟨0, by decide, rfl, rfl, rfl⟩
/-- _law_sums -/
theorem sums_spec (w : World) (lo : Nat) (h0 : 0 < lo) (gl : List GenState) (r er : Nat) (rl : List (Int × Nat)) (hr : rl.length = 4) (hp : 0 ≤ (rl.map (·.1)).getD 0 0) (h7 : (rl.map (·.1)).getD 0 0 ≠ 127) :
    SpcT w 130 lo (sumC r) gl [(r + 178, lst (rl.map ivv) er)] (SumPost r er gl rl (sumsB (rl.map (·.1)))) := by
  have eg : (rl.map (·.1)).getD 0 0 = (rl.getD 0 (0, 0)).1 := by
    have : 0 < rl.length := by omega
    simp [this]
  rw [eg] at hp h7
  unfold sumsB
  by_cases hz : (rl.getD 0 (0, 0)).1 = 0
  · rw [eg, if_pos hz]
    refine spcT_fol fun b1 b2 => spcT_view spS 1000 smOcZ 1 [0, 6] (fun n tk P B _ => ?_) rfl (by kernel_rfl) (by decide) (by decide)
    have q := sqz_run b1 b2 w r er (fun k => (rl.getD k (0, 0)).1) (fun k => (rl.getD k (0, 0)).2) gl ⟨n, tk, P, B⟩
    unfold sqz at q
    rw [rulZ_is rl hr hz] at q
    refine ⟨_, _, _, _, q, fun _ => ⟨n + 5, 0, List.replicate 7 (true, tk + 2), rfl, rfl, rfl, rfl, fun x hx => ?_⟩⟩
    rw [List.eq_of_mem_replicate hx]
    exact InT.add (by decide) (by decide)
  · rw [eg, if_neg hz]
    have hb : badR rl 0 = false := by
      unfold badR
      rw [beq_eq_false_iff_ne.mpr hz, beq_eq_false_iff_ne.mpr h7]
      rfl
    obtain ⟨i, hi, hF, hB, hS⟩ := pat_of rl hr hb
    obtain ⟨c, hc⟩ : ∃ c, (rl.getD 0 (0, 0)).1 = .ofNat (c + 1) := ⟨(rl.getD 0 (0, 0)).1.toNat - 1, by
      show _ = (((rl.getD 0 (0, 0)).1.toNat - 1 + 1 : Nat) : Int)
      omega⟩
    rw [← hS]
    exact sums_pat w lo h0 gl r er rl hr c hc i hi hF hB
end Mine
end
section
set_option maxRecDepth 100000
set_option maxHeartbeats 1000000
namespace Mine
open PySem PySem.Spec PySem.Calls PyProof.Rows PySem.W PySem.W.X
/-- the class of a ruler -/
noncomputable def clsOf (xs : List Int) : Option Nat := (List.range 121).find? fun i => (mkC1 i).isPrefixOf xs
theorem cls_pre {xs : List Int} {i : Nat} (h : clsOf xs = some i) : (mkC1 i).isPrefixOf xs = true := by
  unfold clsOf at h
  exact List.find?_some (p := fun i => (mkC1 i).isPrefixOf xs) h
/-- what _law_marks tells of a ruler -/
noncomputable def marksB (xs : List Int) : List Bool := match clsOf xs with
  | some i => cond (Nat.beq i 0) (List.replicate 7 true) (mkBits i)
  | none => []
theorem insert_nd {E E' : List (Nat × Obj)} {p : Nat × Obj} {h h' : Heap} (F : Fra h h' E E') (hp : h.get? p.1 = some p.2) (hn : p.1 ∉ E.map (·.1)) : p.1 ∉ E'.map (·.1) := by
  intro hm
  obtain ⟨q, hq, e⟩ := List.mem_map.mp hm
  rcases F.new q hq with y | y
  · exact hn (e ▸ y)
  · rw [e] at y
    exact absurd (Heap.lt_size hp) (Nat.not_lt.mpr y)
/-- a claim of one entry that makes one, beside another entry -/
theorem frame_one {w : World} {D lo : Nat} {c : Code} {gl : List GenState} {e0 : Nat × Obj} {p : Nat × Obj} {Post : Nat → Result → List (Nat × Obj) → List GenState → Prop} (fl : List Env)
    (C : SpcT w D lo c gl [e0] Post) (hP : ∀ tk r E' gl2, Post tk r E' gl2 → ∃ y, E' = [e0, y]) :
    SpcF w fl D lo c gl [e0, p] (fun tk r E2 gl2 => ∃ y, Post tk r [e0, y] gl2 ∧ E2 = [e0, p, y]) := by
  intro A R h d tk os hA _ hdep P hlo K
  have hn : p.1 ∉ [e0].map (·.1) := by
    have := P.nd
    simp only [List.map_cons, List.map_nil, List.nodup_cons, List.mem_singleton] at this
    simp only [List.map_cons, List.map_nil, List.mem_singleton]
    exact fun e => this.1 e.symm
  have hp : h.get? p.1 = some p.2 := P.at_ p (.tail _ (.head _))
  refine C A R h d tk os hA hdep ⟨P.kt, fun q hq => P.at_ q (by rw [List.mem_singleton.mp hq]; exact .head _), by simp, fun q hq => P.lo q (by rw [List.mem_singleton.mp hq]; exact .head _), P.lim, P.sz⟩ hlo fun r h' E' gl' tk' le F po => ?_
  obtain ⟨y, rfl⟩ := hP _ _ _ _ po
  have hn2 := insert_nd F hp hn
  refine K r h' [e0, p, y] gl' tk' le ⟨F.big, fun b o e hb => F.keep b o e fun hm => hb ?_, fun q hq => ?_, ?_, fun q hq => ?_⟩ ⟨y, po, rfl⟩
  · simp only [List.map_cons, List.map_nil, List.mem_cons, List.not_mem_nil, or_false] at hm ⊢
    exact .inl hm
  · simp only [List.mem_cons, List.not_mem_nil, or_false] at hq
    rcases hq with rfl | rfl | rfl
    · exact F.at_ _ (.head _)
    · exact F.keep _ _ hp hn
    · exact F.at_ _ (.tail _ (.head _))
  · have nd := F.nd
    simp only [List.map_cons, List.map_nil, List.nodup_cons, List.mem_cons, List.not_mem_nil, or_false] at nd hn2 hn ⊢
    refine ⟨fun q => ?_, fun q => ?_, by simp⟩
    · rcases q with q | q
      · exact hn q.symm
      · exact nd.1 q
    · exact hn2 (.inr q)
  · simp only [List.mem_cons, List.not_mem_nil, or_false] at hq
    rcases hq with rfl | rfl | rfl
    · exact .inl (by simp)
    · exact .inl (by simp)
    · rcases F.new _ (.tail _ (.head _)) with z | z
      · refine .inl ?_
        simp only [List.map_cons, List.map_nil, List.mem_cons, List.not_mem_nil, or_false] at z ⊢
        exact .inl z
      · exact .inr z
theorem mkVals_is (c : List Int) (rl : List (Int × Nat)) (h : rl.length = 4) (hp : c.isPrefixOf (rl.map (·.1)) = true) : mkVals c (fun k => (rl.getD k (0, 0)).2) (fun k => ivv (rl.getD k (0, 0))) = rl.map ivv := by
  obtain ⟨t, ht⟩ := List.isPrefixOf_iff_prefix.mp hp
  have key : ∀ j, (match c[j]? with | some x => Value.int x ((rl.getD j (0, 0)).2) | none => ivv (rl.getD j (0, 0))) = ivv (rl.getD j (0, 0)) := fun j => by
    cases q : c[j]? with
    | none => rfl
    | some x =>
      have hj : j < c.length := (List.getElem?_eq_some_iff.mp q).1
      have e1 : (rl.map (·.1))[j]? = some x := by rw [← ht, List.getElem?_append_left hj]; exact q
      have hr : j < rl.length := by
        have := (List.getElem?_eq_some_iff.mp e1).1
        simpa using this
      have e2 : (rl.getD j (0, 0)).1 = x := by
        rw [List.getElem?_map, List.getElem?_eq_getElem hr] at e1
        have := Option.some.inj e1
        simp [hr, ← this]
      show Value.int x _ = Value.int (rl.getD j (0, 0)).1 _
      rw [e2]
  unfold mkVals
  refine (List.map_congr_left fun j _ => key j).trans ?_
  match rl, h with
  | [a, b, c, d], _ => rfl
noncomputable abbrev MarPost (r er lf : Nat) (l : Ent) (ln : Nat) (gl : List GenState) (rl : List (Int × Nat)) : Nat → Result → List (Nat × Obj) → List GenState → Prop := fun tk' x E2 gl2 =>
  ∃ (y : Nat) (o : List (Bool × Nat)) (g : GenState) (sl' : Array (Option Value)), x = .ok (.ret (.ref (y + 178))) ∧ gl2 = gl ++ [g] ∧ E2 = [(r + 178, lst (rl.map ivv) er), (lf + 178, frmS l ln sl'), (y + 178, lst (o.map bvv) 0)] ∧ o.map (·.1) = marksB (rl.map (·.1)) ∧ g.bare = true ∧ ∀ q ∈ o, InT tk' q.2
/-- _law_marks, called in law -/
theorem marks_spec (w : World) (gl : List GenState) (r er lf lc : Nat) (l : Ent) (ln : Nat) (sl : Array (Option Value)) (rl : List (Int × Nat)) (hr : rl.length = 4) (hc : clsOf (rl.map (·.1)) ≠ none) :
    SpcF w [lawEnv lf lc] 100 0 (marC r) gl [(r + 178, lst (rl.map ivv) er), (lf + 178, frmS l ln sl)] (MarPost r er lf l ln gl rl) := by
  obtain ⟨i, hi⟩ := Option.ne_none_iff_exists'.mp hc
  have hi1 : i < 121 := by
    unfold clsOf at hi
    have := List.mem_of_find?_eq_some hi
    simpa using this
  have hpre : (mkC1 i).isPrefixOf (rl.map (·.1)) = true := cls_pre hi
  have hv := mkVals_is (mkC1 i) rl hr hpre
  by_cases h0 : i = 0
  · subst h0
    have z := marks_refused w gl r er lf lc l ln sl (fun k => (rl.getD k (0, 0)).2) (fun k => ivv (rl.getD k (0, 0)))
    rw [show ([0] : List Int) = mkC1 0 from rfl, hv] at z
    intro A R h d tk os hA hF hdep P hlo K
    refine z A R h d tk os hA hF hdep P hlo fun r' h' E' gl' tk' le F ⟨y, o, g, sl', e1, e2, e3, e4, eb, e5⟩ => K r' h' E' gl' tk' le F ⟨y, o, g, sl', e1, e2, e3, ?_, eb, e5⟩
    rw [e4]
    unfold marksB
    rw [hi]
    rfl
  · have z := marks_class w gl r er (fun k => (rl.getD k (0, 0)).2) (fun k => ivv (rl.getD k (0, 0))) i (by omega) hi1
    rw [hv] at z
    have y := frame_one (p := (lf + 178, frmS l ln sl)) [lawEnv lf lc] z fun _ _ _ _ ⟨_, _, _, _, _, h, _⟩ => ⟨_, h⟩
    intro A R h d tk os hA hF hdep P hlo K
    refine y A R h d tk os hA hF hdep P hlo fun r' h' E' gl' tk' le F ⟨q, ⟨y, o, g, e1, e2, e3, e4, eb, e5⟩, e6⟩ => K r' h' E' gl' tk' le F ⟨y, o, g, sl, e1, e2, ?_, ?_, eb, e5⟩
    · injection e3 with _ e3
      injection e3 with e3 _
      rw [e6, e3]
    · rw [e4]
      unfold marksB
      rw [hi]
      have : Nat.beq i 0 = false := by
        cases q : Nat.beq i 0 with
        | false => rfl
        | true => exact absurd (Nat.eq_of_beq_eq_true q) h0
      show mkBits i = cond (Nat.beq i 0) _ _
      rw [this]
      rfl
end Mine
end
section
set_option maxRecDepth 100000
set_option maxHeartbeats 1000000
namespace Mine
open PySem PySem.Spec PySem.Calls PyProof.Rows PySem.W PySem.W.X PySem.SeqAt
/-! sorted, of three pairs -/
noncomputable def pairO (c : Int) (t k s : Nat) : Obj := { cls := .type "tuple", data := .seq #[.int c t, .int (.ofNat k) s] 0 }
/-- a sort's questions, answered -/
noncomputable def evK {α : Type} (lt : Nat → Nat → Bool) : KasT α → α
  | .ret a => a
  | .ask i j k => evK lt (k (lt i j))
/-- its questions are about the three -/
noncomputable def okK {α : Type} (lt : Nat → Nat → Bool) : KasT α → Bool
  | .ret _ => true
  | .ask i j k => Nat.blt i 3 && (Nat.blt j 3 && okK lt (k (lt i j)))
theorem evK_wp {α : Type} {lt : Nat → Nat → Bool} {cmp : Nat → Nat → (Bool → Shared → Prop) → Shared → Prop} {s : Shared} (h : ∀ i j C, i < 3 → j < 3 → C (lt i j) s → cmp i j C s) {Q : α → Shared → Prop} :
    ∀ (t : KasT α), okK lt t = true → Q (evK lt t) s → t.kasWp cmp Q s
  | .ret _, _, q => q
  | .ask i j k, o, q => by
    have o1 := Bool.and_eq_true_iff.mp o
    have o2 := Bool.and_eq_true_iff.mp o1.2
    exact h i j _ (Nat.le_of_ble_eq_true o1.1) (Nat.le_of_ble_eq_true o2.1) (evK_wp h (k (lt i j)) o2.2 q)
/-- orders of three; who stands ahead -/
noncomputable def perms : List (List Nat) := [[0, 1, 2], [0, 2, 1], [1, 0, 2], [1, 2, 0], [2, 0, 1], [2, 1, 0]]
noncomputable def ltP (π : List Nat) (i j : Nat) : Bool := decide (π.idxOf i < π.idxOf j)
theorem sort_perm : ∀ π ∈ perms, okK (ltP π) (kas_sort 3) = true ∧ (evK (ltP π) (kas_sort 3)).toList = π := by decide +kernel
noncomputable def lexlt (c : Nat → Int) (i j : Nat) : Bool := if c i = c j then decide (i < j) else decide (c i < c j)
/-- π tells the order of c -/
noncomputable def Sorted (c : Nat → Int) (π : List Nat) : Prop := π ∈ perms ∧ ∀ i j, i < 3 → j < 3 → lexlt c i j = ltP π i j
theorem sorted_any (c : Nat → Int) : ∃ π, Sorted c π := by
  have all : ∀ p : Nat → Nat → Prop, (p 0 0 ∧ p 0 1 ∧ p 0 2 ∧ p 1 0 ∧ p 1 1 ∧ p 1 2 ∧ p 2 0 ∧ p 2 1 ∧ p 2 2) → ∀ i j, i < 3 → j < 3 → p i j := by
    rintro p ⟨h0, h1, h2, h3, h4, h5, h6, h7, h8⟩ i j hi hj
    match i, hi, j, hj with
    | 0, _, 0, _ => exact h0
    | 0, _, 1, _ => exact h1
    | 0, _, 2, _ => exact h2
    | 1, _, 0, _ => exact h3
    | 1, _, 1, _ => exact h4
    | 1, _, 2, _ => exact h5
    | 2, _, 0, _ => exact h6
    | 2, _, 1, _ => exact h7
    | 2, _, 2, _ => exact h8
  have self : ∀ i, lexlt c i i = false := fun i => by unfold lexlt; rw [if_pos rfl]; simp
  have up : ∀ i j, i < j → c i ≤ c j → lexlt c i j = true ∧ lexlt c j i = false := fun i j h1 h2 => by
    unfold lexlt
    by_cases e : c i = c j
    · rw [if_pos e, if_pos e.symm]; simp; omega
    · rw [if_neg e, if_neg (fun q => e q.symm)]; simp; omega
  have dn : ∀ i j, i < j → ¬ c i ≤ c j → lexlt c i j = false ∧ lexlt c j i = true := fun i j h1 h2 => by
    unfold lexlt
    rw [if_neg (by omega), if_neg (by omega)]; simp; omega
  by_cases a : c 0 ≤ c 1
  · have a' := up 0 1 (by decide) a
    by_cases b : c 1 ≤ c 2
    · have b' := up 1 2 (by decide) b
      have d' := up 0 2 (by decide) (Int.le_trans a b)
      exact ⟨[0, 1, 2], by decide, all _ ⟨self 0, a'.1, d'.1, a'.2, self 1, b'.1, d'.2, b'.2, self 2⟩⟩
    · have b' := dn 1 2 (by decide) b
      by_cases d : c 0 ≤ c 2
      · have d' := up 0 2 (by decide) d
        exact ⟨[0, 2, 1], by decide, all _ ⟨self 0, a'.1, d'.1, a'.2, self 1, b'.1, d'.2, b'.2, self 2⟩⟩
      · have d' := dn 0 2 (by decide) d
        exact ⟨[2, 0, 1], by decide, all _ ⟨self 0, a'.1, d'.1, a'.2, self 1, b'.1, d'.2, b'.2, self 2⟩⟩
  · have a' := dn 0 1 (by decide) a
    by_cases b : c 1 ≤ c 2
    · have b' := up 1 2 (by decide) b
      by_cases d : c 0 ≤ c 2
      · have d' := up 0 2 (by decide) d
        exact ⟨[1, 0, 2], by decide, all _ ⟨self 0, a'.1, d'.1, a'.2, self 1, b'.1, d'.2, b'.2, self 2⟩⟩
      · have d' := dn 0 2 (by decide) d
        exact ⟨[1, 2, 0], by decide, all _ ⟨self 0, a'.1, d'.1, a'.2, self 1, b'.1, d'.2, b'.2, self 2⟩⟩
    · have b' := dn 1 2 (by decide) b
      have d' := dn 0 2 (by decide) (by omega)
      exact ⟨[2, 1, 0], by decide, all _ ⟨self 0, a'.1, d'.1, a'.2, self 1, b'.1, d'.2, b'.2, self 2⟩⟩
section
variable {w : World} {A : Around} {s : Shared} (a : Nat → Nat) (c : Nat → Int) (t u : Nat → Nat)
noncomputable abbrev soR : List Value := [.ref (a 0), .ref (a 1), .ref (a 2)]
theorem soR_get (i : Nat) (h : i < 3) : (soR a).getD i Value.none = .ref (a i) := by
  match i, h with
  | 0, _ => rfl
  | 1, _ => rfl
  | 2, _ => rfl
theorem ask_ok (hx : ∀ i, i < 3 → s.heap.get? (a i) = some (pairO (c i) (t i) i (u i))) (i j : Nat) (C : Bool → Shared → Prop) (hi : i < 3) (hj : j < 3) (h : C (lexlt c i j) s) : kas_ask pw w A (tuples' true) (soR a) i j C s := by
  unfold kas_ask
  rw [soR_get a i hi, soR_get a j hj]
  refine kat_lt (hx i hi) rfl (hx j hj) rfl ?_
  show KatLex pw w A true (decide (2 < 2)) C [(.int (c i) (t i), .int (c j) (t j)), (.int (.ofNat i) (u i), .int (.ofNat j) (u j))] 0 s
  refine kat_cons (EqAt.int_int _ _ _ _ pw w _ _ (kat_go (fun e => ?_) fun e => ?_))
  · have e : c i = c j := by simpa using e
    unfold lexlt at h
    rw [if_pos e] at h
    refine kat_yes (kat_cons (EqAt.int_int _ _ _ _ pw w _ _ (kat_go (fun e2 => ?_) fun e2 => ?_)))
    · have e2 : i = j := by
        have e3 : (Int.ofNat i) = Int.ofNat j := by simpa using e2
        exact Int.ofNat.inj e3
      subst e2
      refine kat_yes (kat_nil ?_)
      have : decide (i < i) = false := by simp
      rw [this] at h
      exact h
    · refine kat_no (kat_one _ _ (PyProof.Rows.lt_int ?_))
      show C (decide (Int.ofNat i < Int.ofNat j)) s
      have : decide (Int.ofNat i < Int.ofNat j) = decide (i < j) := by
        rw [Bool.eq_iff_iff]; simp
      rw [this]
      exact h
  · have e : ¬ c i = c j := by simpa using e
    unfold lexlt at h
    rw [if_neg e] at h
    exact kat_no (oneLt_int h)
end
end Mine
end
section
set_option maxRecDepth 100000
set_option maxHeartbeats 1000000
namespace Mine
open PySem PySem.Spec PySem.Calls PyProof.Rows PySem.W PySem.W.X PySem.SeqAt
/-- sorted(l), of three pairs -/
theorem sorted_spec (w : World) (lo : Nat) (gl : List GenState) (l m : Nat) (a : Nat → Nat) (c : Nat → Int) (t u : Nat → Nat) (π : List Nat) (hπ : Sorted c π) :
    SpcT w 110 lo (.call (.builtin "sorted") ⟨[.ref l], []⟩) gl [(l, lst (soR a) m), (a 0, pairO (c 0) (t 0) 0 (u 0)), (a 1, pairO (c 1) (t 1) 1 (u 1)), (a 2, pairO (c 2) (t 2) 2 (u 2))]
      (fun _ r E2 gl2 => ∃ x n, r = .ok (.ret (.ref x)) ∧ gl2 = gl ∧ E2 = [(l, lst (soR a) m), (a 0, pairO (c 0) (t 0) 0 (u 0)), (a 1, pairO (c 1) (t 1) 1 (u 1)), (a 2, pairO (c 2) (t 2) 2 (u 2)), (x, lst (π.map fun i => (soR a).getD i .none) n)]) := by
  intro A R h d tk os hA hdep P hlo K
  have hL : h.get? l = some (lst (soR a) m) := P.at_ _ (.head _)
  have hl : (⟨h, ⟨gl⟩, d, tk, os⟩ : Shared).heap.IsList l (soR a).toArray := ⟨_, hL, rfl, m, rfl⟩
  have hx : ∀ i, i < 3 → h.get? (a i) = some (pairO (c i) (t i) i (u i)) := fun i hi => by
    match i, hi with
    | 0, _ => exact P.at_ _ (.tail _ (.head _))
    | 1, _ => exact P.at_ _ (.tail _ (.tail _ (.head _)))
    | 2, _ => exact P.at_ _ (.tail _ (.tail _ (.tail _ (.head _))))
  refine codeAny_call_builtin plain_sorted entry_sorted ?_
  simp only [checkBuiltinCall, kind_sorted]
  have ha : argsOk "sorted" ⟨[.ref l], []⟩ := args_sorted1 _
  have hc : wpAny (model pw w) A.in1 (Builtin.«sorted» ⟨[.ref l], []⟩) (fun fin s' => match fin with
      | .done f => R (.ok f) s'
      | .again c' => c'.quiet = true ∧ codeAny (model pw w) A c' R s') (fun e s' => R (.error e) s') ⟨h, ⟨gl⟩, d, tk, os⟩ := by
    unfold Builtin.«sorted»
    refine wpAny_bind (m := checkCount "sorted" 1 1 _) (wpAny_pure ?_)
    refine wpAny_bind (collect_list hl ?_ (by rw [sizeLine_eq]; exact Nat.le_of_ble_eq_true rfl))
    refine wpAny_bind (wpAny_newList ?_ (by rw [sizeLine_eq]; exact Nat.le_of_ble_eq_true rfl))
    have hsz : ((h.push (seqObj "list" #[] 0)).update h.objs.size (Obj.mapSeq (· ++ (soR a).toArray))).objs.size = h.objs.size + 1 := by
      rw [Heap.size_update]; exact Heap.size_push ..
    have hoL : (((h.push (seqObj "list" #[] 0)).update h.objs.size (Obj.mapSeq (· ++ (soR a).toArray))).push (seqObj "list" (soR a).toArray 0)).get? (h.objs.size + 1) = some (seqObj "list" (soR a).toArray 0) := by
      rw [← hsz]; exact Heap.get?_push_size _ rfl
    have keep : ∀ b o, h.get? b = some o → (((h.push (seqObj "list" #[] 0)).update h.objs.size (Obj.mapSeq (· ++ (soR a).toArray))).push (seqObj "list" (soR a).toArray 0)).get? b = some o := fun b o q =>
      Heap.get?_push_of_some _ ((Heap.get?_update_other _ _ (Nat.ne_of_gt (Heap.lt_size q))).trans (Heap.get?_push_of_some _ q))
    have hsz1 : (((h.push (seqObj "list" #[] 0)).update h.objs.size (Obj.mapSeq (· ++ (soR a).toArray))).push (seqObj "list" (soR a).toArray 0)).objs.size = h.objs.size + 2 := by
      rw [Heap.size_push, hsz]
    show wpAny _ _ _ _ _ ⟨((h.push (seqObj "list" #[] 0)).update h.objs.size (Obj.mapSeq (· ++ (soR a).toArray))).push (seqObj "list" (soR a).toArray 0), ⟨gl⟩, d, tk, os⟩
    generalize ((h.push (seqObj "list" #[] 0)).update h.objs.size (Obj.mapSeq (· ++ (soR a).toArray))).push (seqObj "list" (soR a).toArray 0) = h1 at hoL keep hsz1 ⊢
    rw [hsz]
    refine wpAny_bind (wpAny_holding (wpAny_call_entry slot_list_sort ⟨_, hoL, rfl⟩ entry_list_sort ?body (args_list_sort _)))
    case body =>
      rw [list_sort_plain]
      have s1 := Heap.SameBut.update h1 (h.objs.size + 1) (Obj.mapSeq fun _ => (#[] : Array Value))
      obtain ⟨e1, ho1⟩ : ∃ e1, (h1.update (h.objs.size + 1) (Obj.mapSeq fun _ => (#[] : Array Value))).get? (h.objs.size + 1) = some (seqObj "list" #[] e1) := ⟨_, get?_update_seq hoL fun _ => #[]⟩
      have hsz2 : (h1.update (h.objs.size + 1) (Obj.mapSeq fun _ => (#[] : Array Value))).objs.size = h.objs.size + 2 := by rw [Heap.size_update, hsz1]
      have keep2 : ∀ b o, h.get? b = some o → (h1.update (h.objs.size + 1) (Obj.mapSeq fun _ => (#[] : Array Value))).get? b = some o := fun b o q =>
        (Heap.get?_update_other _ _ (Nat.ne_of_gt (Nat.lt_succ_of_lt (Heap.lt_size q)))).trans (keep b o q)
      refine wpAny_bind (listItems_at hoL rfl ?_)
      refine wpAny_bind (listUpdate_at hoL rfl ?_ (by rw [sizeLine_eq]; exact Nat.le_of_ble_eq_true rfl) (Nat.zero_le _))
      refine wpAny_bind (seqEpoch_at ho1 rfl ?_)
      refine wpAny_bind (wpAny_newTuple ?_ (by rw [sizeLine_eq]; exact Nat.le_of_ble_eq_true rfl))
      refine wpAny_bind (wpAny_newList ?_ (Nat.zero_le _))
      refine wpAny_holding ?_
      show wpAny (model pw w) _ _ _ _ ⟨((h1.update (h.objs.size + 1) (Obj.mapSeq fun _ => (#[] : Array Value))).push (seqObj "tuple" (soR a).toArray 0)).push (seqObj "list" #[] 0), ⟨gl⟩, d, tk, os⟩
      dsimp only
      generalize h1.update (h.objs.size + 1) (Obj.mapSeq fun _ => (#[] : Array Value)) = h2 at ho1 hsz2 keep2 ⊢
      have hoD : ((h2.push (seqObj "tuple" (soR a).toArray 0)).push (seqObj "list" #[] 0)).get? (h.objs.size + 1) = some (seqObj "list" #[] e1) := Heap.get?_push_of_some _ (Heap.get?_push_of_some _ ho1)
      have keep3 : ∀ b o, h.get? b = some o → ((h2.push (seqObj "tuple" (soR a).toArray 0)).push (seqObj "list" #[] 0)).get? b = some o := fun b o q => Heap.get?_push_of_some _ (Heap.get?_push_of_some _ (keep2 b o q))
      have hsz3 : ((h2.push (seqObj "tuple" (soR a).toArray 0)).push (seqObj "list" #[] 0)).objs.size = h.objs.size + 4 := by rw [Heap.size_push, Heap.size_push, hsz2]
      generalize (h2.push (seqObj "tuple" (soR a).toArray 0)).push (seqObj "list" #[] 0) = h3 at hoD keep3 hsz3 ⊢
      have hn2 : ¬ (soR a).toArray.size < 2 := by show ¬ 3 < 2; omega
      rw [if_neg hn2, if_neg hn2]
      have hx3 : ∀ i, i < 3 → h3.get? (a i) = some (pairO (c i) (t i) i (u i)) := fun i hi => keep3 _ _ (hx i hi)
      have tups : KatTups h3 (soR a) [.int (c 0) (t 0), .int (c 1) (t 1), .int (c 2) (t 2)] :=
        KatTups.cons (hx3 0 (by decide)) rfl rfl rfl (KatTups.cons (hx3 1 (by decide)) rfl rfl rfl (KatTups.cons (hx3 2 (by decide)) rfl rfl rfl KatTups.nil))
      refine wpAny_bind (kat_kind (T := .type "int") tups (Nat.le_of_ble_eq_true rfl) (fun v hv => ?_) rfl ?_)
      · have : ∃ x y, v = .int x y := by
          simp at hv
          rcases hv with rfl | rfl | rfl <;> exact ⟨_, _, rfl⟩
        obtain ⟨x, y, rfl⟩ := this
        exact Looks.of_pure rfl
      have ev := sort_perm π hπ.1
      refine wpAny_bind (wpAny_mono (kat_run (Q := fun st' s' => ∃ p : Array Nat, p.size = (soR a).length ∧ arrOf st' = p.map (kas_item ((soR a).toArray.zip (soR a).toArray)) ∧ failedOf st' = none ∧ p.toList = π ∧ s' = ⟨h3, ⟨gl⟩, d, tk, os⟩)
        (G := fun p s' => p.toList = π ∧ s' = ⟨h3, ⟨gl⟩, d, tk, os⟩) rfl (Nat.le_of_ble_eq_true rfl) (Nat.le_of_ble_eq_true rfl) (fun p' st' s' a1 a2 a3 a4 => ⟨p', a1, a2, a3, a4.1, a4.2⟩) ?_) ?_ fun _ _ e => e)
      · exact evK_wp (lt := ltP π) (fun i j C hi hj hC => ask_ok a c t u hx3 i j C hi hj (by rw [hπ.2 i j hi hj]; exact hC)) (kas_sort 3) ev.1 ⟨ev.2, rfl⟩
      rintro ⟨⟨⟩, st'⟩ s' ⟨p, hp, har, hf, hpe, rfl⟩
      dsimp only
      have hout := kat_snds (ks := soR a) (vs := soR a) rfl har
      rw [hout, hpe]
      refine wpAny_bind (seqEpoch_at hoD rfl ?_)
      have hsz4 : (List.toArray (π.map fun i => (soR a).getD i Value.none)).size = 3 := by
        rw [List.size_toArray, List.length_map, ← hpe, Array.length_toList, hp]
        rfl
      obtain ⟨n2, hn2⟩ : ∃ c2, (h3.update (h.objs.size + 1) (Obj.mapSeq fun _ => List.toArray (π.map fun i => (soR a).getD i Value.none))).get? (h.objs.size + 1) = some (seqObj "list" (List.toArray (π.map fun i => (soR a).getD i Value.none)) c2) := ⟨_, get?_update_seq hoD fun _ => List.toArray (π.map fun i => (soR a).getD i Value.none)⟩
      refine wpAny_bind (listUpdate_at hoD rfl ?_ (Nat.zero_le _) (by rw [hsz4, sizeLine_eq]; decide))
      rw [hf]
      simp only [bne_self_eq_false, Bool.false_eq_true, if_false]
      refine wpAny_pure ⟨_, rfl, wpAny_pure ?_⟩
      have hsz5 : (h3.update (h.objs.size + 1) (Obj.mapSeq fun _ => List.toArray (π.map fun i => (soR a).getD i Value.none))).objs.size = h.objs.size + 4 := by rw [Heap.size_update, hsz3]
      have keep5 : ∀ b o, h.get? b = some o → (h3.update (h.objs.size + 1) (Obj.mapSeq fun _ => List.toArray (π.map fun i => (soR a).getD i Value.none))).get? b = some o := fun b o q =>
        (Heap.get?_update_other _ _ (Nat.ne_of_gt (Nat.lt_succ_of_lt (Heap.lt_size q)))).trans (keep3 b o q)
      refine K _ _ ([(l, lst (soR a) m), (a 0, pairO (c 0) (t 0) 0 (u 0)), (a 1, pairO (c 1) (t 1) 1 (u 1)), (a 2, pairO (c 2) (t 2) 2 (u 2))] ++ [(h.objs.size + 1, lst (π.map fun i => (soR a).getD i .none) n2)]) gl tk (Nat.le_refl _) ⟨by rw [hsz5]; omega, fun b o e _ => keep5 b o e, fun p hp => ?_, ?_, fun p hp => ?_⟩ ⟨_, n2, rfl, rfl, rfl⟩
      · rcases List.mem_append.mp hp with hp | hp
        · exact keep5 _ _ (P.at_ p hp)
        · rw [List.mem_singleton.mp hp]; exact hn2
      · rw [List.map_append, List.nodup_append]
        refine ⟨P.nd, by simp, fun x hx' y hy => ?_⟩
        obtain ⟨p, hp, rfl⟩ := List.mem_map.mp hx'
        rw [List.mem_singleton.mp hy]
        exact Nat.ne_of_lt (Nat.lt_succ_of_lt (Heap.lt_size (P.at_ p hp)))
      · rcases List.mem_append.mp hp with hp | hp
        · exact .inl (List.mem_map_of_mem (f := (·.1)) hp)
        · rw [List.mem_singleton.mp hp]; exact .inr (Nat.le_succ _)
  cases hsig : Manifest.signature? "sorted" with
  | none => exact wpAny_pure hc
  | some sig =>
    simp only [argsOk, hsig] at ha
    have h2 : Bind.checkArgs "sorted" sig ⟨[.ref l], []⟩ = pure () := ha
    show wpAny _ A.in1 (Bind.checkArgs "sorted" sig ⟨[.ref l], []⟩) _ _ _
    rw [h2]; exact wpAny_pure hc
end Mine
end
section
set_option genInjectivity false
set_option maxRecDepth 100000
set_option maxHeartbeats 400000
namespace Mine
open PySem PySem.Spec PySem.Calls PyProof.Rows PySem.W PySem.W.X
/-! _law_rulers -/
/-- "_law_rulers.<locals>." -/
noncomputable def rlQ : List Nat := [95, 108, 97, 119, 95, 114, 117, 108, 101, 114, 115, 46, 60, 108, 111, 99, 97, 108, 115, 62, 46]
noncomputable abbrev sScript : List Nat := [115, 99, 114, 105, 112, 116]
noncomputable abbrev sCells : List Nat := [99, 101, 108, 108, 115]
noncomputable abbrev sX : List Nat := [120]
noncomputable abbrev sRulers : List Nat := [114, 117, 108, 101, 114, 115]
noncomputable abbrev sRow : List Nat := [114, 111, 119]
/-- the frame's first two names -/
structure Ff where
  l : Nat
  sc : Nat
  ce : Nat
  ha : Int
  hb : Int
  a : Nat
  b : Nat
noncomputable def ruB (F : Ff) : Ent := [(F.ha, sScript, F.a, .ref (F.sc + 178)), (F.hb, sCells, F.b, .ref (F.ce + 178))]
/-- hashes and tokens of the names that come in time -/
structure Fn where
  hp : Int
  p : Nat
  hx : Int
  x : Nat
  hr : Int
  r : Nat
  hw : Int
  w : Nat
noncomputable def ruF4 (F : Ff) (N : Fn) (pv xv : Value) : Ent := ruB F ++ [(N.hp, sPlace, N.p, pv), (N.hx, sX, N.x, xv)]
noncomputable abbrev ru1C (it l : Nat) : Code := .forLoop (forTgt (stAt 16 1)) (.ref (it + 178)) (forBody (stAt 16 1)) (forElse (stAt 16 1)) (envO 16 133 132 rlQ l)
noncomputable abbrev ru3C (it l : Nat) : Code := .forLoop (forTgt (stAt 16 3)) (.ref (it + 178)) (forBody (stAt 16 3)) (forElse (stAt 16 3)) (envO 16 133 132 rlQ l)
noncomputable def enO (it : Nat) (i : Nat) (u : Value) : Obj := { cls := .type "enumerate", data := .fields #[.none, .bool false, .ref (it + 178), .int (.ofNat i) 0, .none, u] }
noncomputable abbrev ru1E (F : Ff) (en it sl : Nat) (fo : Obj) (i : Nat) (u : Value) (vs : List Value) (cs : List Value) : List (Nat × Obj) :=
  [(F.l + 178, fo), (en + 178, enO it i u), (it + 178, itO (.ref (sl + 178)) i), (sl + 178, lst vs 0), (F.ce + 178, lst cs 0)]
noncomputable abbrev ru1Oc : List Nat := [2, 2, 2, 3, 3, 3, 3, 4, 3, 3, 2, 2, 2, 2, 2, 2, 2, 2, 2, 2, 2, 2, 2, 2, 2, 2, 2, 6, 6, 6, 6, 7, 7, 7, 7, 7, 6, 7, 7, 7, 7, 7, 7, 6, 7, 7, 7, 7, 7, 7, 6, 7, 7, 9, 1, 1, 1, 1, 1, 1, 5, 5, 5, 5, 1, 5, 5, 5, 5, 5, 5]
noncomputable def spRu : Code → Bool := fun c => match c with
  | .forLoop .. => true
  | .call f _ => match f with
    | .builtin id => isId id "tuple.__getitem__" || isId id "int.__floordiv__"
    | _ => false
  | _ => false
structure Rz where
  n : Nat
  tk : Nat
  P : Nat → Pos
  B : Nat → List (Code × Pos)
  N : Fn
  pv : Value
  xv : Value
  u : Value
  wf : Nat → Value
  rest : List Value
  cv : Nat → Int
  ct : Nat → Nat
  x : Int
  t : Nat
noncomputable def cel3 (cv : Nat → Int) (ct : Nat → Nat) : List Value := [0, 1, 2].map fun k => .int (cv k) (ct k)
/-- a cell grown -/
noncomputable def celUp (cv : Nat → Int) (ct : Nat → Nat) (j : Nat) (x : Int) (t : Nat) : List Value := [0, 1, 2].map fun k => cond (Nat.beq k j) (.int (cv k + x) t) (.int (cv k) (ct k))
noncomputable abbrev ruFo (F : Ff) (V : Rz) (i : Nat) : Obj := cond (Nat.beq i 0) (frm (ruB F) 2) (frm (ruF4 F V.N V.pv V.xv) 4)
noncomputable abbrev ruUv (V : Rz) (i : Nat) : Value := cond (Nat.beq i 0) .none V.u
noncomputable def ru10 (w : World) (F : Ff) (en it sl : Nat) (V : Rz) (gl : List GenState) (i : Nat) : Out :=
  go w spRu 1000 (ru1C en F.l) ru1Oc V.P V.B (ru1E F en it sl (ruFo F V i) i (ruUv V i) (vals V.wf 0 i ++ .int V.x V.t :: V.rest) (cel3 V.cv V.ct)) 5 V.n V.tk gl
end Mine
end
section
set_option maxRecDepth 100000
set_option maxHeartbeats 400000
namespace Mine
open PySem PySem.Spec PySem.Calls PyProof.Rows PySem.W PySem.W.X
/-- enumerate(l): the enumerator and its list iterator, made -/
theorem enum_new_spec (w : World) (lo : Nat) (gl : List GenState) (l n : Nat) (vs : List Value) :
    SpcT w 110 lo (.call (.builtin "enumerate.__new__") ⟨[.type "enumerate", .ref l], []⟩) gl [(l, lst vs n)]
      (fun _ r E2 gl2 => ∃ a b, r = .ok (.ret (.ref a)) ∧ E2 = [(l, lst vs n), (a, { cls := .type "enumerate", data := .fields #[.none, .bool false, .ref b, .int 0 0, .none, .none] }), (b, itO (.ref l) 0)] ∧ gl2 = gl) := by
  intro A R h d tk os hA hdep P hlo K
  have hL : h.get? l = some (lst vs n) := P.at_ _ (.head _)
  have hlt : l < h.objs.size := Heap.lt_size hL
  refine codeAny_call_builtin (by decide +kernel) F.entry_enumerate_new ?_
  rw [F.newCall_enumerate_1]
  refine wpAny_pure (meets_enumerate_newL l vs.toArray n none #[] pw w A R _ ⟨hL, ?_⟩)
  have hz : (h.push { cls := .type "list_iterator", data := .fields #[.ref l, .int 0 0] }).objs.size = h.objs.size + 1 := Heap.size_push ..
  refine K _ _ [(l, lst vs n), ((h.push { cls := .type "list_iterator", data := .fields #[.ref l, .int 0 0] }).objs.size, { cls := .type "enumerate", data := .fields #[.none, .bool false, .ref h.objs.size, .int 0 0, .none, .none] }), (h.objs.size, itO (.ref l) 0)] gl tk (Nat.le_refl _)
    ⟨?_, fun b o e _ => Heap.get?_push_of_some _ (Heap.get?_push_of_some _ e), fun p hp => ?_, ?_, fun p hp => ?_⟩ ⟨_, _, rfl, rfl, rfl⟩
  · rw [Heap.size_push, Heap.size_push]; exact Nat.le_succ_of_le (Nat.le_succ _)
  · rcases List.mem_cons.mp hp with rfl | hp
    · exact Heap.get?_push_of_some _ (Heap.get?_push_of_some _ hL)
    · rcases List.mem_cons.mp hp with rfl | hp
      · exact Heap.get?_push_size _ rfl
      · rw [List.mem_singleton.mp hp]; exact Heap.get?_push_of_some _ (Heap.get?_push_size _ rfl)
  · rw [hz]
    simp
    omega
  · rcases List.mem_cons.mp hp with rfl | hp
    · exact .inl (.head _)
    · rcases List.mem_cons.mp hp with rfl | hp
      · exact .inr (by rw [hz]; exact Nat.le_succ _)
      · rw [List.mem_singleton.mp hp]; exact .inr (Nat.le_refl _)
noncomputable def tupX (xs : List (Int × Nat)) : Obj := { cls := .type "tuple", data := .seq (xs.map ivv).toArray 0 }
theorem tuple_item_spec (w : World) (lo : Nat) (gl : List GenState) (a : Nat) (xs : List (Int × Nat)) (k : Int) (u : Nat) (h0 : 0 ≤ k) (h1 : k < xs.length) (hs : xs.length ≤ 1000) :
    SpcT w 110 lo (.call (.builtin "tuple.__getitem__") ⟨[.ref (a + 178), .int k u], []⟩) gl [(a + 178, tupX xs)] (fun _ r E2 gl2 => r = .ok (.ret (ivv (xs.getD k.toNat (0, 0)))) ∧ E2 = [(a + 178, tupX xs)] ∧ gl2 = gl) := by
  have hk : k.toNat < xs.length := by omega
  refine spc_meets F.slot_tuple_getitem F.entry_tuple_getitem (F.args_tuple_getitem_2 _ _) (MeetsSeq.tuple_getitem_at (a + 178) (xs.map ivv).toArray 0 k u k.toNat (ivv (xs.getD k.toNat (0, 0))) (by omega) (by omega) ?_ ?_) fun A R h d tk os hA hdep P hlo K =>
    ⟨⟨_, P.at_ _ (.head _), rfl⟩, P.at_ _ (.head _), K _ h _ gl tk (Nat.le_refl _) (Fra.refl P) ⟨rfl, rfl, rfl⟩⟩
  · unfold seqIndex?
    simp
    omega
  · simp [hk]
theorem floordiv_spec (w : World) (lo : Nat) (gl : List GenState) (x : Int) (t : Nat) (y : Int) (u : Nat) (hy : y = 8 ∨ y = 64 ∨ y = 512) :
    SpcT w 110 lo (.call (.builtin "int.__floordiv__") ⟨[.int x t, .int y u], []⟩) gl [] (fun _ r E2 gl2 => ∃ t', r = .ok (.ret (.int (x.fdiv y) t')) ∧ E2 = [] ∧ gl2 = gl) := by
  have h1 : ¬ (y == 0) = true := by rcases hy with rfl | rfl | rfl <;> decide
  have h2 : ¬ (Builtin.divisionGoesByPylong x y) = true := by
    unfold Builtin.divisionGoesByPylong
    dsimp only
    rw [Bool.and_eq_true_iff]
    rintro ⟨h, _⟩
    revert h
    rcases hy with rfl | rfl | rfl <;> decide +kernel
  refine spc_meets F.slot_int_floordiv F.entry_int_floordiv (F.args_int_floordiv_2 _ _) (Gives.meets (AutoIntG4.int___floordiv___int_int_1 x t y u h1 h2)) fun A R h d tk os hA hdep P hlo K => ⟨rfl, ?_⟩
  exact K _ h [] gl (tk + 1) (Nat.le_succ _) (Fra.refl P) ⟨tk, rfl, rfl, rfl⟩
end Mine
end
section
set_option maxRecDepth 100000
set_option maxHeartbeats 400000
namespace Mine
open PySem PySem.Spec PySem.Calls PyProof.Rows PySem.W PySem.W.X
/-! the loop's look for an owned tuple: the enumerator's last tuple is the one at hand -/
noncomputable abbrev tAgain (c : Code) : Sem Fin := PySem.W.Fast.tw12377390311714414960 c
/-- behind that look -/
noncomputable def ownRest (target : Expr) (it v : Value) (body orelse : List Stmt) (env : Env) : Unit → Sem Fin := fun _ =>
  R.bindR (PySem.W.Fast.tw17772580674575903948 target env v) fun _ => R.bindR (tExecs body env) fun f => match f with
    | .next => tAgain (.forLoop target it body orelse env)
    | .cont => tAgain (.forLoop target it body orelse env)
    | .brk => pure (.done .next)
    | .ret v => pure (.done (.ret v))
/-- the look, its load done -/
noncomputable def ownK (target : Expr) (it v : Value) (o : Obj) : Sem Unit := match PySem.W.Fast.tw1578499551869305889 target it v with
  | .load _ _ k => k o
  | _ => .unsupported ""
noncomputable def ownR (e : Nat) : Sem Unit := R.bindR (PySem.rule "for.unpacks-the-owned-tuple") fun _ => PySem.W.Fast.tw12367529300394763782 e 0 PySem.Value.none
noncomputable def enA (a : Nat) (it : Value) (i u : Value) : Obj := { cls := .type "enumerate", data := .fields #[rawInt ↑a, .bool false, it, i, .none, u] }
noncomputable abbrev ownC (n : String) : Bool := PySem.W.Fast.tw3471404346716756564 [PySem.W.SL.s14340494229221121180x9, PySem.W.SL.s14339709457334898076x3, PySem.W.SL.s2783514499706994809x17, PySem.W.SL.s2223374115958298951x24, PySem.W.SL.s4428606184754087035x14, PySem.W.SL.s14092991718984965784x21, PySem.W.SL.s5947345187589116515x18] n
theorem own_eq (xs : List Expr) (k : Nat) (p : Pos) (e a : Nat) (it i u : Value) : ownK (.Tuple xs k p) (.ref e) (.ref a) (enA a it i u) = ownR e := by
  have h : ownK (.Tuple xs k p) (.ref e) (.ref a) (enA a it i u) = if (ownC "enumerate" && (some (rawInt ↑a) == some (rawInt ↑a))) = true then ownR e else pure () := by kernel_rfl
  have h1 : ownC "enumerate" = true := by kernel_rfl
  rw [h, h1, Bool.true_and, if_pos (by simp)]
noncomputable def envA (i fn cd : Nat) (q : List Nat) (l : Nat) : Env := { scope := defScope (topAt i), locals := l, globals := 3, cells := [], qual := ⟨q.toArray⟩, func := some fn, code := .ref cd, frame := some l, builtins := 0 }
noncomputable def fldT (T : LT) (i j : Nat) : Value := match T.get i with
  | some q => match fieldAt q.2 j with
    | some v => v
    | none => .none
  | none => .none
/-- a loop's turn notes its frame when it raises -/
noncomputable def ownH (env : Env) (m : Sem Fin) : Sem Fin := R.onRaiseR m fun x => R.bindR (PySem.W.Fast.tw17872113653443481271 x env) fun _ => PySem.W.Fast.tw1623429502029203251 x
noncomputable def ruNx : List (LT → Nx) := [fun T => .ldk 1
  (ownH (envA 16 133 132 rlQ (adr T 0)) (R.bindR (ownK (forTgt (stAt 16 1)) (.ref (adr T 1)) (.ref (adr T 5)) (enA (adr T 5) (fldT T 1 2) (fldT T 1 3) (fldT T 1 5))) (ownRest (forTgt (stAt 16 1)) (.ref (adr T 1)) (.ref (adr T 5)) (forBody (stAt 16 1)) (forElse (stAt 16 1)) (envA 16 133 132 rlQ (adr T 0)))))
  (ownH (envA 16 133 132 rlQ (adr T 0)) (R.bindR (ownR (adr T 1)) (ownRest (forTgt (stAt 16 1)) (.ref (adr T 1)) (.ref (adr T 5)) (forBody (stAt 16 1)) (forElse (stAt 16 1)) (envA 16 133 132 rlQ (adr T 0)))))]
theorem tgt_is : ∃ xs k p, forTgt (stAt 16 1) = .Tuple xs k p := ⟨_, _, _, rfl⟩
theorem ru_nx : ∀ g ∈ ruNx, ∀ T p, (g T).pr = some p → p.1 = p.2 := by
  intro g hg T p e
  rw [List.mem_singleton.mp hg] at e
  injection e with e
  rw [← e]
  obtain ⟨xs, k, ps, ht⟩ := tgt_is
  rw [ht]
  dsimp only
  rw [own_eq]
noncomputable abbrev ru1Od : List Nat := [2, 2, 2, 3, 3, 3, 3, 4, 3, 3, 2, 2, 2, 2, 2, 2, 2, 2, 2, 2, 2, 2, 2, 2, 4001, 2, 2, 6, 6, 6, 6, 7, 7, 7, 7, 7, 6, 7, 7, 7, 7, 7, 7, 6, 7, 7, 7, 7, 7, 7, 6, 7, 7, 9, 1, 1, 1, 1, 1, 1, 5, 5, 5, 5, 1, 5, 5, 5, 5, 5, 5]
noncomputable def ru11 (w : World) (F : Ff) (en it sl : Nat) (V : Rz) (gl : List GenState) (i : Nat) : Out :=
  goN w spRu ruNx 1000 (ru1C en F.l) ru1Od V.P V.B (ru1E F en it sl (ruFo F V i) i (ruUv V i) (vals V.wf 0 i ++ .int V.x V.t :: V.rest) (cel3 V.cv V.ct)) 5 V.n V.tk gl
end Mine
end
section
set_option maxRecDepth 100000
set_option maxHeartbeats 400000
namespace Mine
open PySem PySem.Spec PySem.Calls PyProof.Rows PySem.W PySem.W.X
noncomputable abbrev ruN1 (w : World) (V : Rz) (i : Nat) : Fn := cond (Nat.beq i 0) ⟨PyData.keyHash w.params ⟨sPlace.toArray⟩, V.tk + 1, PyData.keyHash w.params ⟨sX.toArray⟩, V.tk + 2, 0, 0, 0, 0⟩ V.N
section
variable (b1 b2 : Bool) (w : World) (F : Ff) (en it sl : Nat) (V : Rz) (gl : List GenState)
theorem ru1_runs :
    tab (fun i => vNt i5 (ru11 (fol b1 b2 w) F en it sl V gl i)) 12 =
    tab2 (fun i => (vNR (ru1C en F.l) (ru1E F en it sl (frm (ruF4 F (ruN1 (fol b1 b2 w) V i) (.int (.ofNat i) V.tk) (.int V.x V.t)) 4) (i + 1) (.int V.x V.t) (vals V.wf 0 i ++ .int V.x V.t :: V.rest) (celUp V.cv V.ct (i % 3) (V.x.fmod 1000000) (V.tk + 7))) gl (ru11 (fol b1 b2 w) F en it sl V gl i), V.tk + 8)) 12 := by
  cases b1 <;> kernel_rfl
noncomputable abbrev ru1Ez (F : Ff) (en it sl : Nat) (fo : Obj) (i : Nat) (u : Value) (vs : List Value) (cs : List Value) : List (Nat × Obj) :=
  [(F.l + 178, fo), (en + 178, enO it i u), (it + 178, itZ i), (sl + 178, lst vs 0), (F.ce + 178, lst cs 0)]
noncomputable def ru1z (w : World) (F : Ff) (en it sl : Nat) (V : Rz) (gl : List GenState) (cs : List Value) (i : Nat) : Out :=
  go w spRu 1000 (ru1C en F.l) [2, 2, 2, 3, 3, 3, 3, 4, 3, 3, 7] V.P V.B (ru1E F en it sl (ruFo F V i) i (ruUv V i) (vals V.wf 0 i) cs) 5 V.n V.tk gl
theorem ru1_Z (cs : List Value) :
    tab (fun i => vL i5 (ru1z (fol b1 b2 w) F en it sl V gl cs i)) 13 =
    tab2 (fun i => vR (.ok .next) (ru1Ez F en it sl (ruFo F V i) i (ruUv V i) (vals V.wf 0 i) cs) gl (ru1z (fol b1 b2 w) F en it sl V gl cs i)) 13 := by
  cases b1 <;> kernel_rfl
end
end Mine
end
section
set_option genInjectivity false
set_option maxRecDepth 100000
set_option maxHeartbeats 400000
namespace Mine
open PySem PySem.Spec PySem.Calls PyProof.Rows PySem.W PySem.W.X
/-- the frame in the second loop; v: the script is not empty, s: row is bound -/
noncomputable def ruF3 (v s : Bool) (F : Ff) (N : Fn) (rl : Nat) (pv xv rv : Value) : Obj :=
  cond v (cond s (frm (ruB F ++ [(N.hp, sPlace, N.p, pv), (N.hx, sX, N.x, xv), (N.hr, sRulers, N.r, .ref (rl + 178)), (N.hw, sRow, N.w, rv)]) 6) (frm (ruB F ++ [(N.hp, sPlace, N.p, pv), (N.hx, sX, N.x, xv), (N.hr, sRulers, N.r, .ref (rl + 178))]) 5))
    (cond s (frm (ruB F ++ [(N.hr, sRulers, N.r, .ref (rl + 178)), (N.hx, sX, N.x, xv), (N.hw, sRow, N.w, rv)]) 5) (frm (ruB F ++ [(N.hr, sRulers, N.r, .ref (rl + 178))]) 3))
/-- rows made so far: their places, their items -/
noncomputable def rowsE (ra : Nat → Nat) (rw : Nat → List Value) (j : Nat) : List (Nat × Obj) := [0, 1, 2].filterMap fun k => cond (Nat.blt k j) (some (ra k + 178, lst (rw k) 0)) none
noncomputable def rowsR (ra : Nat → Nat) (j : Nat) : List Value := [0, 1, 2].filterMap fun k => cond (Nat.blt k j) (some (.ref (ra k + 178))) none
noncomputable abbrev ru3E (F : Ff) (it rl : Nat) (fo : Obj) (io : Obj) (cs : List Value) (ra : Nat → Nat) (rw : Nat → List Value) (j : Nat) : List (Nat × Obj) :=
  [(F.l + 178, fo), (it + 178, io), (F.ce + 178, lst cs 0), (rl + 178, lst (rowsR ra j) j)] ++ rowsE ra rw j
noncomputable def shO (j : Nat) (l : List Nat) : List Nat := l.map fun k => cond (Nat.blt 4 k) (k + j) k
noncomputable def ru3Oc (j : Nat) : List Nat := shO j [2, 2, 2, 2, 3, 2, 2, 1, 1, 1, 5, 5, 5, 1, 6, 6, 6, 1, 1, 1, 4, 4, 4, 4, 1, 1, 8, 8, 8, 1, 9, 9, 9, 7, 10, 7, 7, 10, 7, 10, 4, 4, 4, 4]
/-- the tuples of sizes, their tokens from t on -/
noncomputable def tupA (t : Nat) : List (Int × Nat) := [(1, t), (3, t + 1), (1, t + 2), (2, t + 3), (3, t + 4), (2, t + 5), (1, t + 6), (0, t + 7)]
noncomputable def tupB (t : Nat) : List (Int × Nat) := [(1, t), (3, t + 1), (2, t + 2), (1, t + 3), (2, t + 4), (3, t + 5), (0, t + 6), (127, t + 7)]
noncomputable def tupC (t : Nat) : List (Int × Nat) := [(127, t), (1, t + 1), (0, t + 2), (2, t + 3), (3, t + 4), (1, t + 5), (127, t + 6), (2, t + 7)]
noncomputable def tupD (t : Nat) : List (Int × Nat) := [(127, t), (2, t + 1), (1, t + 2), (3, t + 3)]
structure Rr where
  n : Nat
  tk : Nat
  P : Nat → Pos
  B : Nat → List (Code × Pos)
  N : Fn
  pv : Value
  xv : Value
  rv : Value
  ra : Nat → Nat
  rw : Nat → List Value
  cv : Nat → Int
  ct : Nat → Nat
  y : Nat → Int
  t : Nat → Nat
  q : Nat → Int
  s : Nat → Nat
  U1 : Un
  U2 : Un
  U3 : Un
  U4 : Un
  U5 : Un
  U6 : Un
  U7 : Un
noncomputable abbrev tgC (a : Nat) (k : Int) (u : Nat) : Code := .call (.builtin "tuple.__getitem__") ⟨[.ref (a + 178), .int k u], []⟩
noncomputable abbrev tfC (x : Int) (t : Nat) (y : Int) (u : Nat) : Code := .call (.builtin "int.__floordiv__") ⟨[.int x t, .int y u], []⟩
section
variable (v : Bool) (w : World) (F : Ff) (it rl : Nat) (V : Rr) (gl : List GenState) (j : Nat)
noncomputable def rq0 : Out := go w spRu 2000 (ru3C it F.l) (ru3Oc j) V.P V.B (ru3E F it rl (ruF3 v (Nat.blt 0 j) F V.N rl V.pv V.xv V.rv) (itO (.ref (F.ce + 178)) j) (cel3 V.cv V.ct) V.ra V.rw j) (4 + j) V.n V.tk gl
noncomputable def rq1 : Out := nx (rq0 v w F it rl V gl j) [4 + j] (.ok (.ret (.int (V.y 0) (V.t 0)))) [(V.n + 178, tupX (tupA (V.tk + 1)))] gl V.U1
noncomputable def rq2 : Out := nx (rq1 v w F it rl V gl j) [] (.ok (.ret (.int (V.q 0) (V.s 0)))) [] gl V.U2
noncomputable def rq3 : Out := nx (rq2 v w F it rl V gl j) [5 + j] (.ok (.ret (.int (V.y 1) (V.t 1)))) [(V.U1.n + 178, tupX (tupB V.U1.tk))] gl V.U3
noncomputable def rq4 : Out := nx (rq3 v w F it rl V gl j) [] (.ok (.ret (.int (V.q 1) (V.s 1)))) [] gl V.U4
noncomputable def rq5 : Out := nx (rq4 v w F it rl V gl j) [7 + j] (.ok (.ret (.int (V.y 2) (V.t 2)))) [(V.U3.n + 1 + 178, tupX (tupC (V.U3.tk + 1)))] gl V.U5
noncomputable def rq6 : Out := nx (rq5 v w F it rl V gl j) [] (.ok (.ret (.int (V.q 2) (V.s 2)))) [] gl V.U6
noncomputable def rq7 : Out := nx (rq6 v w F it rl V gl j) [8 + j] (.ok (.ret (.int (V.y 3) (V.t 3)))) [(V.U5.n + 178, tupX (tupD V.U5.tk))] gl V.U7
end
/-- the rows behind a turn -/
noncomputable def raTo (V : Rr) (j : Nat) (k : Nat) : Nat := cond (Nat.beq k j) (V.U7.n + 1) (V.ra k)
noncomputable def rwTo (V : Rr) (j : Nat) (k : Nat) : List Value := cond (Nat.beq k j) ([0, 1, 2, 3].map fun i => .int (V.y i) (V.t i)) (V.rw k)
noncomputable def rnT (v : Bool) (w : World) (V : Rr) (j : Nat) : Fn :=
  cond (Nat.beq j 0) ⟨V.N.hp, V.N.p, cond v V.N.hx (PyData.keyHash w.params ⟨sX.toArray⟩), cond v V.N.x V.tk, V.N.hr, V.N.r, PyData.keyHash w.params ⟨sRow.toArray⟩, V.U3.tk⟩ V.N
end Mine
end
section
set_option maxRecDepth 100000
set_option maxHeartbeats 400000
namespace Mine
open PySem PySem.Spec PySem.Calls PyProof.Rows PySem.W PySem.W.X
noncomputable abbrev ruI (j : Nat) : List Nat := [0, 1, 2, 3] ++ (([4, 5].filterMap fun k => cond (Nat.blt k (4 + j)) (some k) none) ++ [10 + j])
noncomputable abbrev rqL (v : Bool) (w : World) (F : Ff) (it rl : Nat) (V : Rr) (gl : List GenState) (j : Nat) :=
  (vS [4 + j] (rq0 v w F it rl V gl j), vS [] (rq1 v w F it rl V gl j), vS [5 + j] (rq2 v w F it rl V gl j), vS [] (rq3 v w F it rl V gl j), vS [7 + j] (rq4 v w F it rl V gl j), vS [] (rq5 v w F it rl V gl j), vS [8 + j] (rq6 v w F it rl V gl j), vNt (ruI j) (rq7 v w F it rl V gl j))
noncomputable abbrev rqA (v : Bool) (w : World) (F : Ff) (it rl : Nat) (V : Rr) (gl : List GenState) (j : Nat) :=
  (vSR (tgC V.n ((V.cv j).fmod 8) (V.tk + 10)) 0 [(V.n + 178, tupX (tupA (V.tk + 1)))] gl (rq0 v w F it rl V gl j),
   vSR (tfC (V.cv j) (V.ct j) 8 (V.U1.tk + 8)) 0 [] gl (rq1 v w F it rl V gl j),
   vSR (tgC V.U1.n ((V.q 0).fmod 8) (V.U2.tk + 1)) 0 [(V.U1.n + 178, tupX (tupB V.U1.tk))] gl (rq2 v w F it rl V gl j),
   vSR (tfC (V.cv j) (V.ct j) 64 (V.U3.tk + 9)) 0 [] gl (rq3 v w F it rl V gl j),
   vSR (tgC (V.U3.n + 1) ((V.q 1).fmod 8) (V.U4.tk + 1)) 0 [(V.U3.n + 1 + 178, tupX (tupC (V.U3.tk + 1)))] gl (rq4 v w F it rl V gl j),
   vSR (tfC (V.cv j) (V.ct j) 512 (V.U5.tk + 4)) 0 [] gl (rq5 v w F it rl V gl j),
   vSR (tgC V.U5.n ((V.q 2).fmod 4) (V.U6.tk + 1)) 0 [(V.U5.n + 178, tupX (tupD V.U5.tk))] gl (rq6 v w F it rl V gl j),
   (vNR (ru3C it F.l) (ru3E F it rl (ruF3 v true F (rnT v w V j) rl V.pv (.int (V.cv j) (V.ct j)) (.ref (V.U3.n + 178))) (itO (.ref (F.ce + 178)) (j + 1)) (cel3 V.cv V.ct) (raTo V j) (rwTo V j) (j + 1)) gl (rq7 v w F it rl V gl j), V.U7.tk))
theorem rq_runs (b1 b2 v : Bool) (w : World) (F : Ff) (it rl : Nat) (V : Rr) (gl : List GenState) :
    tab (rqL v (fol b1 b2 w) F it rl V gl) 3 = tab2 (rqA v (fol b1 b2 w) F it rl V gl) 3 := by
  cases b1 <;> cases v <;> kernel_rfl
noncomputable def rqz (v : Bool) (w : World) (F : Ff) (it rl : Nat) (V : Rr) (gl : List GenState) : Out :=
  go w spRu 1000 (ru3C it F.l) [2, 2, 2, 2, 3, 2, 2, 9] V.P V.B (ru3E F it rl (ruF3 v true F V.N rl V.pv V.xv V.rv) (itO (.ref (F.ce + 178)) 3) (cel3 V.cv V.ct) V.ra V.rw 3) 7 V.n V.tk gl
theorem rq_Z (b1 b2 v : Bool) (w : World) (F : Ff) (it rl : Nat) (V : Rr) (gl : List GenState) :
    vL [0, 1, 2, 3, 4, 5, 6] (rqz v (fol b1 b2 w) F it rl V gl) = vR (.ok .next) (ru3E F it rl (ruF3 v true F V.N rl V.pv V.xv V.rv) (itZ 3) (cel3 V.cv V.ct) V.ra V.rw 3) gl (rqz v (fol b1 b2 w) F it rl V gl) := by
  cases b1 <;> cases v <;> kernel_rfl
end Mine
end
section
set_option maxRecDepth 100000
set_option maxHeartbeats 1000000
namespace Mine
open PySem PySem.Spec PySem.Calls PyProof.Rows PySem.W PySem.W.X
/-- the cells when n numbers of the script have been added -/
noncomputable def cellsN (xs : List Int) : Nat → List Int
  | 0 => [0, 73, 144]
  | n + 1 => (cellsN xs n).set (n % 3) ((cellsN xs n).getD (n % 3) 0 + (xs.getD n 0).fmod 1000000)
theorem cellsN_succ (xs : List Int) (n : Nat) : cellsN xs (n + 1) = (cellsN xs n).set (n % 3) ((cellsN xs n).getD (n % 3) 0 + (xs.getD n 0).fmod 1000000) := rfl
theorem cellsN_len (xs : List Int) : ∀ n, (cellsN xs n).length = 3
  | 0 => rfl
  | n + 1 => by unfold cellsN; rw [List.length_set]; exact cellsN_len xs n
theorem cel3_is (cs : List (Int × Nat)) (h : cs.length = 3) : cel3 (fun k => (cs.getD k (0, 0)).1) (fun k => (cs.getD k (0, 0)).2) = cs.map ivv := by
  match cs, h with
  | [a, b, c], _ => rfl
theorem celUp_is (cs : List (Int × Nat)) (h : cs.length = 3) (j : Nat) (hj : j < 3) (x : Int) (t : Nat) : celUp (fun k => (cs.getD k (0, 0)).1) (fun k => (cs.getD k (0, 0)).2) j x t = (cs.set j ((cs.getD j (0, 0)).1 + x, t)).map ivv := by
  match cs, h, j, hj with
  | [a, b, c], _, 0, _ => rfl
  | [a, b, c], _, 1, _ => rfl
  | [a, b, c], _, 2, _ => rfl
noncomputable def F1Ok (F : Ff) (m : Nat) (fo : Obj) : Prop := (m = 0 ∧ fo = frm (ruB F) 2) ∨ (m ≠ 0 ∧ ∃ N pv xv, fo = frm (ruF4 F N pv xv) 4)
theorem f1_of {F : Ff} {m : Nat} {fo : Obj} (h : F1Ok F m fo) : ∃ N pv xv, ∀ V : Rz, V.N = N → V.pv = pv → V.xv = xv → fo = ruFo F V m := by
  rcases h with ⟨rfl, rfl⟩ | ⟨hm, N, pv, xv, rfl⟩
  · exact ⟨⟨0, 0, 0, 0, 0, 0, 0, 0⟩, .none, .none, fun _ _ _ _ => rfl⟩
  · refine ⟨N, pv, xv, fun V h1 h2 h3 => ?_⟩
    have : Nat.beq m 0 = false := by
      cases q : Nat.beq m 0 with
      | false => rfl
      | true => exact absurd (Nat.eq_of_beq_eq_true q) hm
    unfold ruFo
    rw [this, h1, h2, h3]
    rfl
noncomputable def U1Ok (m : Nat) (u : Value) : Prop := m = 0 → u = .none
theorem u1_of {m : Nat} {u : Value} (h : U1Ok m u) (V : Rz) (hv : V.u = u) : ruUv V m = u := by
  unfold ruUv
  cases q : Nat.beq m 0 with
  | false => exact hv
  | true => exact (h (Nat.eq_of_beq_eq_true q)).symm
theorem vals_take {α : Type} (l : List α) (g : α → Value) (j : Nat) (h : j ≤ l.length) : vals (fun k => (l.map g).getD k .none) 0 j = (l.take j).map g := by
  have := vals_of ((l.take j).map g) (fun k => (l.map g).getD k .none) 0 fun i hi => by
    have h1 : i < j := by simp at hi; omega
    have h2 : i < l.length := by omega
    rw [Nat.zero_add]
    simp [h2, List.getElem?_take, h1]
  rw [List.length_map, List.length_take, Nat.min_eq_left h] at this
  exact this
noncomputable abbrev Ru1Post (F : Ff) (en it sl : Nat) (gl : List GenState) (xs : List (Int × Nat)) : Nat → Result → List (Nat × Obj) → List GenState → Prop := fun _ x E2 gl2 =>
  ∃ (cs : List (Int × Nat)) (fo : Obj) (u : Value), x = .ok .next ∧ gl2 = gl ∧ cs.length = 3 ∧ cs.map (·.1) = cellsN (xs.map (·.1)) xs.length ∧ F1Ok F xs.length fo ∧ E2 = ru1Ez F en it sl fo xs.length u (xs.map ivv) (cs.map ivv)
theorem ru1_loop (F : Ff) (en it sl : Nat) (gl : List GenState) (xs : List (Int × Nat)) (hx : xs.length ≤ 12) (cs0 : List (Int × Nat)) (h0 : cs0.map (·.1) = [0, 73, 144]) (w : World) (lo : Nat) :
    SpcT w 110 lo (ru1C en F.l) gl (ru1E F en it sl (frm (ruB F) 2) 0 .none (xs.map ivv) (cs0.map ivv)) (Ru1Post F en it sl gl xs) := by
  refine loop_ind (N := xs.length) (fun lo j E => ∃ (cs : List (Int × Nat)) (fo : Obj) (u : Value), cs.map (·.1) = cellsN (xs.map (·.1)) j ∧ F1Ok F j fo ∧ U1Ok j u ∧ E = ru1E F en it sl fo j u (xs.map ivv) (cs.map ivv)) ?_ ?_ xs.length 0 (Nat.zero_add _) w lo _ ⟨cs0, _, _, h0, .inl ⟨rfl, rfl⟩, fun _ => rfl, rfl⟩
  · rintro w lo j E jn ⟨cs, fo, u, hc, hf, hu, rfl⟩ IH
    have lc : cs.length = 3 := by
      have := congrArg List.length hc
      rw [List.length_map, cellsN_len] at this
      exact this
    refine spcT_fol fun c1 c2 => ?_
    obtain ⟨N, pv, xv, hfo⟩ := f1_of hf
    refine spcT_ofN spRu ruNx ru_nx 1000 ru1Od 5 rfl (by kernel_rfl) (by decide) fun A R h d tk os hA hdep Pr hlo K n P B => ?_
    have q := tab_get (ru1_runs c1 c2 w F en it sl ⟨n, tk, P, B, N, pv, xv, u, fun k => (xs.map ivv).getD k .none, (xs.drop (j + 1)).map ivv, fun k => (cs.getD k (0, 0)).1, fun k => (cs.getD k (0, 0)).2, xs[j].1, xs[j].2⟩ gl) j (by omega)
    unfold ru11 vNt at q
    rw [← hfo _ rfl rfl rfl, u1_of hu _ rfl] at q
    simp only [Prod.mk.injEq] at q
    have ej : vals (fun k => (xs.map ivv).getD k .none) 0 j ++ Value.int xs[j].1 xs[j].2 :: (xs.drop (j + 1)).map ivv = xs.map ivv := by
      rw [vals_take xs ivv j (by omega)]
      show (xs.take j).map ivv ++ (xs[j] :: xs.drop (j + 1)).map ivv = _
      rw [← List.drop_eq_getElem_cons jn, ← List.map_append, List.take_append_drop]
    rw [ej, cel3_is cs lc, celUp_is cs lc _ (Nat.mod_lt _ (by decide))] at q
    have up : ((cs.set (j % 3) ((cs.getD (j % 3) (0, 0)).1 + xs[j].1.fmod 1000000, tk + 7)).map (·.1)) = cellsN (xs.map (·.1)) (j + 1) := ?_
    · exact sat_nextT q.1 (fun _ => Nat.le_of_eq q.2.symm) (IH _ (tk + 8) _ (by omega) ⟨_, _, _, up, .inr ⟨by omega, _, _, _, rfl⟩, fun h => absurd h (by omega), rfl⟩) (by decide) hA hdep Pr K
    have e1 : (xs.map (·.1)).getD j 0 = xs[j].1 := by simp [jn]
    have e2 : ∀ k, (cs.map (·.1)).getD k 0 = (cs.getD k (0, 0)).1 := fun k => by
      by_cases hk : k < cs.length
      · simp [hk]
      · simp [List.getElem?_eq_none (Nat.le_of_not_lt hk)]
    rw [cellsN_succ]
    rw [← hc, e1, e2, List.map_set]
  · rintro w lo E ⟨cs, fo, u, hc, hf, hu, rfl⟩
    have lc : cs.length = 3 := by
      have := congrArg List.length hc
      rw [List.length_map, cellsN_len] at this
      exact this
    refine spcT_fol fun c1 c2 => ?_
    obtain ⟨N, pv, xv, hfo⟩ := f1_of hf
    refine spcT_of spRu 1000 [2, 2, 2, 3, 3, 3, 3, 4, 3, 3, 7] 5 rfl (by kernel_rfl) (by decide) fun A R h d tk os hA hdep Pr hlo K n P B => ?_
    have q := tab_get (ru1_Z c1 c2 w F en it sl ⟨n, tk, P, B, N, pv, xv, u, fun k => (xs.map ivv).getD k .none, [], fun _ => 0, fun _ => 0, 0, 0⟩ gl (cs.map ivv)) xs.length (by omega)
    unfold ru1z at q
    rw [← hfo _ rfl rfl rfl, u1_of hu _ rfl] at q
    simp only at q
    rw [vals_all xs ivv] at q
    exact sat_retV q (by decide) fun h' tk' le F' => K _ _ _ _ _ le F' ⟨cs, fo, u, rfl, rfl, lc, hc, hf, rfl⟩
end Mine
end
section
set_option genInjectivity false
set_option maxRecDepth 100000
set_option maxHeartbeats 1000000
namespace Mine
open PySem PySem.Spec PySem.Calls PyProof.Rows PySem.W PySem.W.X
/-- the ruler that a cell makes -/
noncomputable def rulerOf (x : Int) : List Int := [([1, 3, 1, 2, 3, 2, 1, 0] : List Int).getD (x.fmod 8).toNat 0, ([1, 3, 2, 1, 2, 3, 0, 127] : List Int).getD ((x.fdiv 8).fmod 8).toNat 0, ([127, 1, 0, 2, 3, 1, 127, 2] : List Int).getD ((x.fdiv 64).fmod 8).toNat 0, ([127, 2, 1, 3] : List Int).getD ((x.fdiv 512).fmod 4).toNat 0]
theorem fmod8 (x : Int) : 0 ≤ x.fmod 8 ∧ x.fmod 8 < 8 := ⟨Int.fmod_nonneg_of_pos x (by decide), Int.fmod_lt_of_pos x (by decide)⟩
theorem fmod4 (x : Int) : 0 ≤ x.fmod 4 ∧ x.fmod 4 < 4 := ⟨Int.fmod_nonneg_of_pos x (by decide), Int.fmod_lt_of_pos x (by decide)⟩
theorem getD_fst (l : List (Int × Nat)) (k : Nat) : (l.getD k (0, 0)).1 = (l.map (·.1)).getD k 0 := by
  by_cases h : k < l.length
  · simp [h]
  · simp [List.getElem?_eq_none (Nat.le_of_not_lt h)]
theorem tupA_fst (t k : Nat) : ((tupA t).getD k (0, 0)).1 = ([1, 3, 1, 2, 3, 2, 1, 0] : List Int).getD k 0 := getD_fst _ _
theorem tupB_fst (t k : Nat) : ((tupB t).getD k (0, 0)).1 = ([1, 3, 2, 1, 2, 3, 0, 127] : List Int).getD k 0 := getD_fst _ _
theorem tupC_fst (t k : Nat) : ((tupC t).getD k (0, 0)).1 = ([127, 1, 0, 2, 3, 1, 127, 2] : List Int).getD k 0 := getD_fst _ _
theorem tupD_fst (t k : Nat) : ((tupD t).getD k (0, 0)).1 = ([127, 2, 1, 3] : List Int).getD k 0 := getD_fst _ _
theorem blt_pos (j : Nat) : Nat.blt 0 (j + 1) = true := by cases j <;> rfl
theorem ruI_nd : ∀ j, j < 3 → (ruI j).Nodup := by decide
theorem ru3E_len (F : Ff) (it rl : Nat) (fo : Obj) (io : Obj) (cs : List Value) (ra : Nat → Nat) (rw : Nat → List Value) (j : Nat) (h : j < 3) : (ru3E F it rl fo io cs ra rw j).length = 4 + j := by
  match j, h with
  | 0, _ => rfl
  | 1, _ => rfl
  | 2, _ => rfl
noncomputable abbrev RowsOk (cs : List (Int × Nat)) (rls : Nat → List (Int × Nat)) (j : Nat) : Prop := ∀ k, k < j → (rls k).length = 4 ∧ (rls k).map (·.1) = rulerOf (cs.getD k (0, 0)).1
noncomputable abbrev Ru3Post (v : Bool) (F : Ff) (it rl : Nat) (gl : List GenState) (cs : List (Int × Nat)) : Nat → Result → List (Nat × Obj) → List GenState → Prop := fun _ x E2 gl2 =>
  ∃ (N : Fn) (pv xv rv : Value) (ra : Nat → Nat) (rls : Nat → List (Int × Nat)), x = .ok .next ∧ gl2 = gl ∧ RowsOk cs rls 3 ∧ E2 = ru3E F it rl (ruF3 v true F N rl pv xv rv) (itZ 3) (cs.map ivv) ra (fun k => (rls k).map ivv) 3
/-- a turn's record, what the calls gave filled in -/
noncomputable def Rr.up (V : Rr) (y : Nat → Int) (t : Nat → Nat) (q : Nat → Int) (s : Nat → Nat) (U1 U2 U3 U4 U5 U6 U7 : Un) : Rr := ⟨V.n, V.tk, V.P, V.B, V.N, V.pv, V.xv, V.rv, V.ra, V.rw, V.cv, V.ct, y, t, q, s, U1, U2, U3, U4, U5, U6, U7⟩
noncomputable abbrev ru3I (v : Bool) (F : Ff) (it rl : Nat) (V : Rr) (j : Nat) : List (Nat × Obj) := ru3E F it rl (ruF3 v (Nat.blt 0 j) F V.N rl V.pv V.xv V.rv) (itO (.ref (F.ce + 178)) j) (cel3 V.cv V.ct) V.ra V.rw j
/-- around a turn -/
structure RuX (v : Bool) (w : World) (F : Ff) (it rl : Nat) (gl : List GenState) (j lo : Nat) (V : Rr) (A : Around) (R : Result → Shared → Prop) (h : Heap) (d : Drawn) (os : OsState) (Post : Nat → Result → List (Nat × Obj) → List GenState → Prop) : Prop where
  j3 : j < 3
  hA : A.handled = none
  hdep : Room A 110
  Pr : Pre (ktw w) h (ru3I v F it rl V j)
  hlo : lo ≤ V.tk
  nx : ∀ lo' y t q s U1 U2 U3 U4 U5 U6 U7, lo ≤ lo' → [y 0, y 1, y 2, y 3] = rulerOf (V.cv j) →
    SpcT w 110 lo' (ru3C it F.l) gl (ru3E F it rl (ruF3 v true F (rnT v w (V.up y t q s U1 U2 U3 U4 U5 U6 U7) j) rl V.pv (.int (V.cv j) (V.ct j)) (.ref (U3.n + 178))) (itO (.ref (F.ce + 178)) (j + 1)) (cel3 V.cv V.ct) (raTo (V.up y t q s U1 U2 U3 U4 U5 U6 U7) j) (rwTo (V.up y t q s U1 U2 U3 U4 U5 U6 U7) j) (j + 1)) Post
  K : ∀ r h' E2 gl2 tk', V.tk ≤ tk' → Fra h h' (ru3I v F it rl V j) E2 → Post tk' r E2 gl2 → R r ⟨h', ⟨gl2⟩, d, tk', os⟩
section
variable {v c1 c2 : Bool} {w : World} {F : Ff} {it rl : Nat} {gl : List GenState} {j lo : Nat} {V : Rr} {A : Around} {R : Result → Shared → Prop} {h : Heap} {d : Drawn} {os : OsState} {Post : Nat → Result → List (Nat × Obj) → List GenState → Prop}
theorem ru3_s7 (X : RuX v (fol c1 c2 w) F it rl gl j lo V A R h d os Post) (y : Nat → Int) (t : Nat → Nat) (q : Nat → Int) (s : Nat → Nat) (U1 U2 U3 U4 U5 U6 U7 : Un) (le1 : V.tk ≤ U1.tk) (hy0 : y 0 = ([1, 3, 1, 2, 3, 2, 1, 0] : List Int).getD ((V.cv j).fmod 8).toNat 0) (le2 : U1.tk ≤ U2.tk) (hq0 : q 0 = (V.cv j).fdiv 8) (le3 : U2.tk ≤ U3.tk) (hy1 : y 1 = ([1, 3, 2, 1, 2, 3, 0, 127] : List Int).getD (((V.cv j).fdiv 8).fmod 8).toNat 0) (le4 : U3.tk ≤ U4.tk) (hq1 : q 1 = (V.cv j).fdiv 64) (le5 : U4.tk ≤ U5.tk) (hy2 : y 2 = ([127, 1, 0, 2, 3, 1, 127, 2] : List Int).getD (((V.cv j).fdiv 64).fmod 8).toNat 0) (le6 : U5.tk ≤ U6.tk) (hq2 : q 2 = (V.cv j).fdiv 512) (le7 : U6.tk ≤ U7.tk) (hy3 : y 3 = ([127, 2, 1, 3] : List Int).getD (((V.cv j).fdiv 512).fmod 4).toNat 0) :
    SatX (vOf pw (fol c1 c2 w) A R) h ((ru3I v F it rl V j).map (·.1)) d os U7.tk (rq7 v (fol c1 c2 w) F it rl (V.up y t q s U1 U2 U3 U4 U5 U6 U7) gl j) := by
  have z := congrArg (fun x => x.2.2.2.2.2.2.2) (tab_get (rq_runs c1 c2 v w F it rl (V.up y t q s U1 U2 U3 U4 U5 U6 U7) gl) j X.j3)
  have e1 : vN (ruI j) (rq7 v (fol c1 c2 w) F it rl (V.up y t q s U1 U2 U3 U4 U5 U6 U7) gl j) = _ := congrArg Prod.fst z
  have e2 : (rq7 v (fol c1 c2 w) F it rl (V.up y t q s U1 U2 U3 U4 U5 U6 U7) gl j).st.tk = U7.tk := congrArg Prod.snd z
  refine sat_nextT e1 (fun _ => Nat.le_of_eq e2.symm) (X.nx U7.tk y t q s U1 U2 U3 U4 U5 U6 U7 (by have := X.hlo; omega) ?_) (ruI_nd j X.j3) X.hA X.hdep X.Pr fun r' h' E2 gl2 tk' le' => X.K r' h' E2 gl2 tk' (by omega)
  rw [hy0, hy1, hy2, hy3]
  rfl
theorem ru3_s6 (X : RuX v (fol c1 c2 w) F it rl gl j lo V A R h d os Post) (y : Nat → Int) (t : Nat → Nat) (q : Nat → Int) (s : Nat → Nat) (U1 U2 U3 U4 U5 U6 U7 : Un) (le1 : V.tk ≤ U1.tk) (hy0 : y 0 = ([1, 3, 1, 2, 3, 2, 1, 0] : List Int).getD ((V.cv j).fmod 8).toNat 0) (le2 : U1.tk ≤ U2.tk) (hq0 : q 0 = (V.cv j).fdiv 8) (le3 : U2.tk ≤ U3.tk) (hy1 : y 1 = ([1, 3, 2, 1, 2, 3, 0, 127] : List Int).getD (((V.cv j).fdiv 8).fmod 8).toNat 0) (le4 : U3.tk ≤ U4.tk) (hq1 : q 1 = (V.cv j).fdiv 64) (le5 : U4.tk ≤ U5.tk) (hy2 : y 2 = ([127, 1, 0, 2, 3, 1, 127, 2] : List Int).getD (((V.cv j).fdiv 64).fmod 8).toNat 0) (le6 : U5.tk ≤ U6.tk) (hq2 : q 2 = (V.cv j).fdiv 512) :
    SatX (vOf pw (fol c1 c2 w) A R) h ((ru3I v F it rl V j).map (·.1)) d os U6.tk (rq6 v (fol c1 c2 w) F it rl (V.up y t q s U1 U2 U3 U4 U5 U6 U7) gl j) := by
  have z : vS [8 + j] (rq6 v (fol c1 c2 w) F it rl (V.up y t q s U1 U2 U3 U4 U5 U6 U7) gl j) = vSR (tgC U5.n ((q 2).fmod 4) (U6.tk + 1)) 0 [(U5.n + 178, tupX (tupD U5.tk))] gl (rq6 v (fol c1 c2 w) F it rl (V.up y t q s U1 U2 U3 U4 U5 U6 U7) gl j) := congrArg (fun x => x.2.2.2.2.2.2.1) (tab_get (rq_runs c1 c2 v w F it rl (V.up y t q s U1 U2 U3 U4 U5 U6 U7) gl) j X.j3)
  rw [hq2] at z
  have b := fmod4 ((V.cv j).fdiv 512)
  refine sat_nx (D := 110) z (tuple_item_spec (fol c1 c2 w) 0 gl (U5.n) (tupD U5.tk) (((V.cv j).fdiv 512).fmod 4) (U6.tk + 1) b.1 b.2 (Nat.le_of_ble_eq_true rfl)) (Nat.zero_le _) (by simp) (by decide) X.hA X.hdep X.Pr (fun _ _ _ _ h => h.2.2) (fun _ _ _ h => by rw [h.2.1]; exact ok_same _ _ rfl rfl) ?_
  rintro _ _ U le ⟨rfl, rfl, _⟩ _
  exact ru3_s7 X (fun k => cond (Nat.beq k 3) (((tupD U5.tk).getD ((((V.cv j).fdiv 512).fmod 4)).toNat (0, 0)).1) (y k)) (fun k => cond (Nat.beq k 3) (((tupD U5.tk).getD ((((V.cv j).fdiv 512).fmod 4)).toNat (0, 0)).2) (t k)) q s U1 U2 U3 U4 U5 U6 U le1 hy0 le2 hq0 le3 hy1 le4 hq1 le5 hy2 le6 hq2 le (tupD_fst _ _)
theorem ru3_s5 (X : RuX v (fol c1 c2 w) F it rl gl j lo V A R h d os Post) (y : Nat → Int) (t : Nat → Nat) (q : Nat → Int) (s : Nat → Nat) (U1 U2 U3 U4 U5 U6 U7 : Un) (le1 : V.tk ≤ U1.tk) (hy0 : y 0 = ([1, 3, 1, 2, 3, 2, 1, 0] : List Int).getD ((V.cv j).fmod 8).toNat 0) (le2 : U1.tk ≤ U2.tk) (hq0 : q 0 = (V.cv j).fdiv 8) (le3 : U2.tk ≤ U3.tk) (hy1 : y 1 = ([1, 3, 2, 1, 2, 3, 0, 127] : List Int).getD (((V.cv j).fdiv 8).fmod 8).toNat 0) (le4 : U3.tk ≤ U4.tk) (hq1 : q 1 = (V.cv j).fdiv 64) (le5 : U4.tk ≤ U5.tk) (hy2 : y 2 = ([127, 1, 0, 2, 3, 1, 127, 2] : List Int).getD (((V.cv j).fdiv 64).fmod 8).toNat 0) :
    SatX (vOf pw (fol c1 c2 w) A R) h ((ru3I v F it rl V j).map (·.1)) d os U5.tk (rq5 v (fol c1 c2 w) F it rl (V.up y t q s U1 U2 U3 U4 U5 U6 U7) gl j) := by
  have z := congrArg (fun x => x.2.2.2.2.2.1) (tab_get (rq_runs c1 c2 v w F it rl (V.up y t q s U1 U2 U3 U4 U5 U6 U7) gl) j X.j3)
  refine sat_nx (D := 110) (o := rq5 v (fol c1 c2 w) F it rl (V.up y t q s U1 U2 U3 U4 U5 U6 U7) gl j) z (floordiv_spec (fol c1 c2 w) 0 gl (V.cv j) (V.ct j) 512 (U5.tk + 4) (.inr (.inr rfl))) (Nat.zero_le _) (by decide) (by decide) X.hA X.hdep X.Pr (fun _ _ _ _ ⟨_, _, _, h⟩ => h) (fun _ _ _ ⟨_, _, h, _⟩ => by rw [h]; exact ok_same _ _ rfl rfl) ?_
  rintro _ _ U le ⟨s1, rfl, rfl, _⟩ _
  exact ru3_s6 X y t (fun k => cond (Nat.beq k 2) ((V.cv j).fdiv 512) (q k)) (fun k => cond (Nat.beq k 2) s1 (s k)) U1 U2 U3 U4 U5 U U7 le1 hy0 le2 hq0 le3 hy1 le4 hq1 le5 hy2 le rfl
theorem ru3_s4 (X : RuX v (fol c1 c2 w) F it rl gl j lo V A R h d os Post) (y : Nat → Int) (t : Nat → Nat) (q : Nat → Int) (s : Nat → Nat) (U1 U2 U3 U4 U5 U6 U7 : Un) (le1 : V.tk ≤ U1.tk) (hy0 : y 0 = ([1, 3, 1, 2, 3, 2, 1, 0] : List Int).getD ((V.cv j).fmod 8).toNat 0) (le2 : U1.tk ≤ U2.tk) (hq0 : q 0 = (V.cv j).fdiv 8) (le3 : U2.tk ≤ U3.tk) (hy1 : y 1 = ([1, 3, 2, 1, 2, 3, 0, 127] : List Int).getD (((V.cv j).fdiv 8).fmod 8).toNat 0) (le4 : U3.tk ≤ U4.tk) (hq1 : q 1 = (V.cv j).fdiv 64) :
    SatX (vOf pw (fol c1 c2 w) A R) h ((ru3I v F it rl V j).map (·.1)) d os U4.tk (rq4 v (fol c1 c2 w) F it rl (V.up y t q s U1 U2 U3 U4 U5 U6 U7) gl j) := by
  have z : vS [7 + j] (rq4 v (fol c1 c2 w) F it rl (V.up y t q s U1 U2 U3 U4 U5 U6 U7) gl j) = vSR (tgC (U3.n + 1) ((q 1).fmod 8) (U4.tk + 1)) 0 [((U3.n + 1) + 178, tupX (tupC (U3.tk + 1)))] gl (rq4 v (fol c1 c2 w) F it rl (V.up y t q s U1 U2 U3 U4 U5 U6 U7) gl j) := congrArg (fun x => x.2.2.2.2.1) (tab_get (rq_runs c1 c2 v w F it rl (V.up y t q s U1 U2 U3 U4 U5 U6 U7) gl) j X.j3)
  rw [hq1] at z
  have b := fmod8 ((V.cv j).fdiv 64)
  refine sat_nx (D := 110) z (tuple_item_spec (fol c1 c2 w) 0 gl ((U3.n + 1)) (tupC (U3.tk + 1)) (((V.cv j).fdiv 64).fmod 8) (U4.tk + 1) b.1 b.2 (Nat.le_of_ble_eq_true rfl)) (Nat.zero_le _) (by simp) (by decide) X.hA X.hdep X.Pr (fun _ _ _ _ h => h.2.2) (fun _ _ _ h => by rw [h.2.1]; exact ok_same _ _ rfl rfl) ?_
  rintro _ _ U le ⟨rfl, rfl, _⟩ _
  exact ru3_s5 X (fun k => cond (Nat.beq k 2) (((tupC (U3.tk + 1)).getD ((((V.cv j).fdiv 64).fmod 8)).toNat (0, 0)).1) (y k)) (fun k => cond (Nat.beq k 2) (((tupC (U3.tk + 1)).getD ((((V.cv j).fdiv 64).fmod 8)).toNat (0, 0)).2) (t k)) q s U1 U2 U3 U4 U U6 U7 le1 hy0 le2 hq0 le3 hy1 le4 hq1 le (tupC_fst _ _)
theorem ru3_s3 (X : RuX v (fol c1 c2 w) F it rl gl j lo V A R h d os Post) (y : Nat → Int) (t : Nat → Nat) (q : Nat → Int) (s : Nat → Nat) (U1 U2 U3 U4 U5 U6 U7 : Un) (le1 : V.tk ≤ U1.tk) (hy0 : y 0 = ([1, 3, 1, 2, 3, 2, 1, 0] : List Int).getD ((V.cv j).fmod 8).toNat 0) (le2 : U1.tk ≤ U2.tk) (hq0 : q 0 = (V.cv j).fdiv 8) (le3 : U2.tk ≤ U3.tk) (hy1 : y 1 = ([1, 3, 2, 1, 2, 3, 0, 127] : List Int).getD (((V.cv j).fdiv 8).fmod 8).toNat 0) :
    SatX (vOf pw (fol c1 c2 w) A R) h ((ru3I v F it rl V j).map (·.1)) d os U3.tk (rq3 v (fol c1 c2 w) F it rl (V.up y t q s U1 U2 U3 U4 U5 U6 U7) gl j) := by
  have z := congrArg (fun x => x.2.2.2.1) (tab_get (rq_runs c1 c2 v w F it rl (V.up y t q s U1 U2 U3 U4 U5 U6 U7) gl) j X.j3)
  refine sat_nx (D := 110) (o := rq3 v (fol c1 c2 w) F it rl (V.up y t q s U1 U2 U3 U4 U5 U6 U7) gl j) z (floordiv_spec (fol c1 c2 w) 0 gl (V.cv j) (V.ct j) 64 (U3.tk + 9) (.inr (.inl rfl))) (Nat.zero_le _) (by decide) (by decide) X.hA X.hdep X.Pr (fun _ _ _ _ ⟨_, _, _, h⟩ => h) (fun _ _ _ ⟨_, _, h, _⟩ => by rw [h]; exact ok_same _ _ rfl rfl) ?_
  rintro _ _ U le ⟨s1, rfl, rfl, _⟩ _
  exact ru3_s4 X y t (fun k => cond (Nat.beq k 1) ((V.cv j).fdiv 64) (q k)) (fun k => cond (Nat.beq k 1) s1 (s k)) U1 U2 U3 U U5 U6 U7 le1 hy0 le2 hq0 le3 hy1 le rfl
theorem ru3_s2 (X : RuX v (fol c1 c2 w) F it rl gl j lo V A R h d os Post) (y : Nat → Int) (t : Nat → Nat) (q : Nat → Int) (s : Nat → Nat) (U1 U2 U3 U4 U5 U6 U7 : Un) (le1 : V.tk ≤ U1.tk) (hy0 : y 0 = ([1, 3, 1, 2, 3, 2, 1, 0] : List Int).getD ((V.cv j).fmod 8).toNat 0) (le2 : U1.tk ≤ U2.tk) (hq0 : q 0 = (V.cv j).fdiv 8) :
    SatX (vOf pw (fol c1 c2 w) A R) h ((ru3I v F it rl V j).map (·.1)) d os U2.tk (rq2 v (fol c1 c2 w) F it rl (V.up y t q s U1 U2 U3 U4 U5 U6 U7) gl j) := by
  have z : vS [5 + j] (rq2 v (fol c1 c2 w) F it rl (V.up y t q s U1 U2 U3 U4 U5 U6 U7) gl j) = vSR (tgC U1.n ((q 0).fmod 8) (U2.tk + 1)) 0 [(U1.n + 178, tupX (tupB U1.tk))] gl (rq2 v (fol c1 c2 w) F it rl (V.up y t q s U1 U2 U3 U4 U5 U6 U7) gl j) := congrArg (fun x => x.2.2.1) (tab_get (rq_runs c1 c2 v w F it rl (V.up y t q s U1 U2 U3 U4 U5 U6 U7) gl) j X.j3)
  rw [hq0] at z
  have b := fmod8 ((V.cv j).fdiv 8)
  refine sat_nx (D := 110) z (tuple_item_spec (fol c1 c2 w) 0 gl (U1.n) (tupB U1.tk) (((V.cv j).fdiv 8).fmod 8) (U2.tk + 1) b.1 b.2 (Nat.le_of_ble_eq_true rfl)) (Nat.zero_le _) (by simp) (by decide) X.hA X.hdep X.Pr (fun _ _ _ _ h => h.2.2) (fun _ _ _ h => by rw [h.2.1]; exact ok_same _ _ rfl rfl) ?_
  rintro _ _ U le ⟨rfl, rfl, _⟩ _
  exact ru3_s3 X (fun k => cond (Nat.beq k 1) (((tupB U1.tk).getD ((((V.cv j).fdiv 8).fmod 8)).toNat (0, 0)).1) (y k)) (fun k => cond (Nat.beq k 1) (((tupB U1.tk).getD ((((V.cv j).fdiv 8).fmod 8)).toNat (0, 0)).2) (t k)) q s U1 U2 U U4 U5 U6 U7 le1 hy0 le2 hq0 le (tupB_fst _ _)
theorem ru3_s1 (X : RuX v (fol c1 c2 w) F it rl gl j lo V A R h d os Post) (y : Nat → Int) (t : Nat → Nat) (q : Nat → Int) (s : Nat → Nat) (U1 U2 U3 U4 U5 U6 U7 : Un) (le1 : V.tk ≤ U1.tk) (hy0 : y 0 = ([1, 3, 1, 2, 3, 2, 1, 0] : List Int).getD ((V.cv j).fmod 8).toNat 0) :
    SatX (vOf pw (fol c1 c2 w) A R) h ((ru3I v F it rl V j).map (·.1)) d os U1.tk (rq1 v (fol c1 c2 w) F it rl (V.up y t q s U1 U2 U3 U4 U5 U6 U7) gl j) := by
  have z := congrArg (fun x => x.2.1) (tab_get (rq_runs c1 c2 v w F it rl (V.up y t q s U1 U2 U3 U4 U5 U6 U7) gl) j X.j3)
  refine sat_nx (D := 110) (o := rq1 v (fol c1 c2 w) F it rl (V.up y t q s U1 U2 U3 U4 U5 U6 U7) gl j) z (floordiv_spec (fol c1 c2 w) 0 gl (V.cv j) (V.ct j) 8 (U1.tk + 8) (.inl rfl)) (Nat.zero_le _) (by decide) (by decide) X.hA X.hdep X.Pr (fun _ _ _ _ ⟨_, _, _, h⟩ => h) (fun _ _ _ ⟨_, _, h, _⟩ => by rw [h]; exact ok_same _ _ rfl rfl) ?_
  rintro _ _ U le ⟨s1, rfl, rfl, _⟩ _
  exact ru3_s2 X y t (fun k => cond (Nat.beq k 0) ((V.cv j).fdiv 8) (q k)) (fun k => cond (Nat.beq k 0) s1 (s k)) U1 U U3 U4 U5 U6 U7 le1 hy0 le rfl
theorem ru3_s0 (X : RuX v (fol c1 c2 w) F it rl gl j lo V A R h d os Post) (y : Nat → Int) (t : Nat → Nat) (q : Nat → Int) (s : Nat → Nat) (U1 U2 U3 U4 U5 U6 U7 : Un)  :
    SatX (vOf pw (fol c1 c2 w) A R) h ((ru3I v F it rl V j).map (·.1)) d os V.tk (rq0 v (fol c1 c2 w) F it rl (V.up y t q s U1 U2 U3 U4 U5 U6 U7) gl j) := by
  have z : vS [4 + j] (rq0 v (fol c1 c2 w) F it rl (V.up y t q s U1 U2 U3 U4 U5 U6 U7) gl j) = vSR (tgC V.n ((V.cv j).fmod 8) (V.tk + 10)) 0 [(V.n + 178, tupX (tupA (V.tk + 1)))] gl (rq0 v (fol c1 c2 w) F it rl (V.up y t q s U1 U2 U3 U4 U5 U6 U7) gl j) := congrArg (fun x => x.1) (tab_get (rq_runs c1 c2 v w F it rl (V.up y t q s U1 U2 U3 U4 U5 U6 U7) gl) j X.j3)
  have b := fmod8 (V.cv j)
  refine sat_nx (D := 110) (z) (tuple_item_spec (fol c1 c2 w) 0 gl (V.n) (tupA (V.tk + 1)) ((V.cv j).fmod 8) (V.tk + 10) b.1 b.2 (Nat.le_of_ble_eq_true rfl)) (Nat.zero_le _) (by simp) (by decide) X.hA X.hdep X.Pr (fun _ _ _ _ h => h.2.2) (fun _ _ _ h => by rw [h.2.1]; exact ok_same _ _ rfl rfl) ?_
  rintro _ _ U le ⟨rfl, rfl, _⟩ _
  exact ru3_s1 X (fun k => cond (Nat.beq k 0) (((tupA (V.tk + 1)).getD (((V.cv j).fmod 8)).toNat (0, 0)).1) (y k)) (fun k => cond (Nat.beq k 0) (((tupA (V.tk + 1)).getD (((V.cv j).fmod 8)).toNat (0, 0)).2) (t k)) q s U U2 U3 U4 U5 U6 U7 le (tupA_fst _ _)
end
theorem beq_no {k j : Nat} (h : ¬ k = j) : Nat.beq k j = false := by
  cases e : Nat.beq k j with
  | false => rfl
  | true => exact absurd (Nat.eq_of_beq_eq_true e) h
theorem ru3_loop (v : Bool) (F : Ff) (it rl : Nat) (gl : List GenState) (cs : List (Int × Nat)) (hc : cs.length = 3) (N : Fn) (pv xv : Value) (w : World) (lo : Nat) :
    SpcT w 110 lo (ru3C it F.l) gl (ru3E F it rl (ruF3 v false F N rl pv xv .none) (itO (.ref (F.ce + 178)) 0) (cs.map ivv) (fun _ => 0) (fun _ => []) 0) (Ru3Post v F it rl gl cs) := by
  refine loop_ind (N := 3) (fun lo j E => ∃ (N : Fn) (pv xv rv : Value) (ra : Nat → Nat) (rls : Nat → List (Int × Nat)), RowsOk cs rls j ∧ E = ru3E F it rl (ruF3 v (Nat.blt 0 j) F N rl pv xv rv) (itO (.ref (F.ce + 178)) j) (cs.map ivv) ra (fun k => (rls k).map ivv) j) ?_ ?_ 3 0 rfl w lo _ ⟨N, pv, xv, .none, fun _ => 0, fun _ => [], fun k h => absurd h (Nat.not_lt_zero k), rfl⟩
  · rintro w lo j E j3 ⟨N, pv, xv, rv, ra, rls, ho, rfl⟩ IH
    refine spcT_fol fun c1 c2 => ?_
    rw [← cel3_is cs hc]
    refine spcT_of spRu 2000 (ru3Oc j) (4 + j) (ru3E_len F it rl _ _ _ _ _ j j3) (ltOk_full _ _ _ fun i h => absurd h (Nat.not_lt_zero i)) (by decide) fun A R h d tk os hA hdep Pr hlo K n P B => ?_
    let V : Rr := ⟨n, tk, P, B, N, pv, xv, rv, ra, fun k => (rls k).map ivv, fun k => (cs.getD k (0, 0)).1, fun k => (cs.getD k (0, 0)).2, fun _ => 0, fun _ => 0, fun _ => 0, fun _ => 0, ⟨0, 0, P, B⟩, ⟨0, 0, P, B⟩, ⟨0, 0, P, B⟩, ⟨0, 0, P, B⟩, ⟨0, 0, P, B⟩, ⟨0, 0, P, B⟩, ⟨0, 0, P, B⟩⟩
    have X : RuX v (fol c1 c2 w) F it rl gl j lo V A R h d os (Ru3Post v F it rl gl cs) := by
      refine ⟨j3, hA, hdep, Pr, hlo, fun lo' y t q s U1 U2 U3 U4 U5 U6 U7 le hy => ?_, K⟩
      have hr : rwTo (V.up y t q s U1 U2 U3 U4 U5 U6 U7) j = fun k => (cond (Nat.beq k j) [(y 0, t 0), (y 1, t 1), (y 2, t 2), (y 3, t 3)] (rls k)).map ivv := by
        funext k
        unfold rwTo
        cases Nat.beq k j <;> rfl
      rw [hr]
      show SpcT _ _ _ _ _ (ru3E F it rl _ _ (cel3 (fun k => (cs.getD k (0, 0)).1) (fun k => (cs.getD k (0, 0)).2)) _ _ _) _
      rw [cel3_is cs hc]
      refine IH _ lo' _ le ⟨_, _, _, _, _, fun k => cond (Nat.beq k j) [(y 0, t 0), (y 1, t 1), (y 2, t 2), (y 3, t 3)] (rls k), fun k hk => ?_, by rw [blt_pos j]⟩
      dsimp only
      by_cases hkj : k = j
      · subst hkj
        rw [show Nat.beq k k = true from Nat.beq_refl k]
        exact ⟨rfl, hy⟩
      · rw [beq_no hkj]
        exact ho k (by omega)
    exact ru3_s0 X (fun _ => 0) (fun _ => 0) (fun _ => 0) (fun _ => 0) ⟨0, 0, P, B⟩ ⟨0, 0, P, B⟩ ⟨0, 0, P, B⟩ ⟨0, 0, P, B⟩ ⟨0, 0, P, B⟩ ⟨0, 0, P, B⟩ ⟨0, 0, P, B⟩
  · rintro w lo E ⟨N, pv, xv, rv, ra, rls, ho, rfl⟩
    refine spcT_fol fun c1 c2 => ?_
    refine spcT_of spRu 1000 [2, 2, 2, 2, 3, 2, 2, 9] 7 rfl (by kernel_rfl) (by decide) fun A R h d tk os hA hdep Pr hlo K n P B => ?_
    have q := rq_Z c1 c2 v w F it rl ⟨n, tk, P, B, N, pv, xv, rv, ra, fun k => (rls k).map ivv, fun k => (cs.getD k (0, 0)).1, fun k => (cs.getD k (0, 0)).2, fun _ => 0, fun _ => 0, fun _ => 0, fun _ => 0, ⟨0, 0, P, B⟩, ⟨0, 0, P, B⟩, ⟨0, 0, P, B⟩, ⟨0, 0, P, B⟩, ⟨0, 0, P, B⟩, ⟨0, 0, P, B⟩, ⟨0, 0, P, B⟩⟩ gl
    unfold rqz at q
    simp only at q
    rw [cel3_is cs hc] at q
    exact sat_retV q (by decide) fun h' tk' le F' => K _ _ _ _ _ le F' ⟨N, pv, xv, rv, ra, rls, rfl, rfl, ho, rfl⟩
end Mine
end
section
set_option genInjectivity false
set_option maxRecDepth 100000
set_option maxHeartbeats 1000000
namespace Mine
open PySem PySem.Spec PySem.Calls PyProof.Rows PySem.W PySem.W.X
noncomputable def spRg : Code → Bool := fun c => match c with
  | .forLoop .. => true
  | .call f _ => match f with
    | .builtin id => isId id "list.__getitem__" || isId id "enumerate.__new__"
    | _ => false
  | _ => false
noncomputable abbrev ruC (sc : Nat) : Code := .call (.ref 133) ⟨[.ref (sc + 178)], []⟩
noncomputable abbrev ruOc : List Nat := [0, 0, 2, 2, 1, 2, 2, 0, 0, 2, 1, 1, 1, 6, 6, 6, 6, 6, 6, 6, 6, 2, 2, 2, 3, 3, 3, 9, 2]
structure Rs where
  sc : Nat
  e : Nat
  vs : List Value
  ws : List Value
  cs : List Value
  en : Nat
  it : Nat
  sl : Nat
  m : Nat
  u : Value
  N : Fn
  N2 : Fn
  pv : Value
  xv : Value
  rv : Value
  pv2 : Value
  xv2 : Value
  ra : Nat → Nat
  rw : Nat → List Value
  gl : List GenState
  U : Un
  U1 : Un
  U2 : Un
  U3 : Un
  U4 : Un
noncomputable abbrev rsF (w : World) (Q : Rs) : Ff := ⟨Q.U.n, Q.sc, Q.U.n + 1, kh w sScript, kh w sCells, Q.U.tk, Q.U.tk + 4⟩
noncomputable abbrev rsC0 (Q : Rs) : List Value := [.int 0 (Q.U.tk + 1), .int 73 (Q.U.tk + 2), .int 144 (Q.U.tk + 3)]
noncomputable def rs0 (w : World) (Q : Rs) : Out := go w spRg 2000 (ruC Q.sc) ruOc Q.U.P Q.U.B [(Q.sc + 178, lst Q.vs Q.e)] 1 Q.U.n Q.U.tk Q.gl
noncomputable def rs1 (w : World) (Q : Rs) : Out := nx (rs0 w Q) [0, 3] (.ok (.ret (.ref (Q.sl + 178)))) [(Q.sc + 178, lst Q.vs Q.e), (Q.U.n + 2 + 178, slO .none (.int 12 (Q.U.tk + 5)) .none), (Q.sl + 178, lst Q.ws 0)] Q.gl Q.U1
noncomputable def rs2 (w : World) (Q : Rs) : Out := nx (rs1 w Q) [4] (.ok (.ret (.ref (Q.en + 178)))) [(Q.sl + 178, lst Q.ws 0), (Q.en + 178, enO Q.it 0 .none), (Q.it + 178, itO (.ref (Q.sl + 178)) 0)] Q.gl Q.U2
noncomputable def rs3 (v : Bool) (w : World) (Q : Rs) : Out := nx (rs2 w Q) [1, 5, 6, 4, 2] (.ok .next) (ru1Ez (rsF w Q) Q.en Q.it Q.sl (cond v (frm (ruF4 (rsF w Q) Q.N Q.pv Q.xv) 4) (frm (ruB (rsF w Q)) 2)) Q.m Q.u Q.ws Q.cs) Q.gl Q.U3
noncomputable abbrev rsN (w : World) (Q : Rs) : Fn := ⟨Q.N.hp, Q.N.p, Q.N.hx, Q.N.x, kh w sRulers, Q.U3.tk, 0, 0⟩
noncomputable def rs4 (v : Bool) (w : World) (Q : Rs) : Out := nx (rs3 v w Q) [1, 8, 2, 7] (.ok .next) (ru3E (rsF w Q) (Q.U3.n + 1) Q.U3.n (ruF3 v true (rsF w Q) Q.N2 Q.U3.n Q.pv2 Q.xv2 Q.rv) (itZ 3) Q.cs Q.ra Q.rw 3) Q.gl Q.U4
noncomputable abbrev rsL (v : Bool) (w : World) (Q : Rs) :=
  (vS [0, 3] (rs0 w Q), vS [4] (rs1 w Q), vS [1, 5, 6, 4, 2] (rs2 w Q), vS [1, 8, 2, 7] (rs3 v w Q), vL [0, 7, 9, 10, 11] (rs4 v w Q), fullGo (rs0 w Q).st.T (rs0 w Q).st.m, fullGo (rs1 w Q).st.T (rs1 w Q).st.m, fullGo (rs3 v w Q).st.T (rs3 v w Q).st.m)
noncomputable abbrev rsA (v : Bool) (w : World) (Q : Rs) :=
  (vSR (.call (.builtin "list.__getitem__") ⟨[.ref (Q.sc + 178), .ref (Q.U.n + 2 + 178)], []⟩) 1 [(Q.sc + 178, lst Q.vs Q.e), (Q.U.n + 2 + 178, slO .none (.int 12 (Q.U.tk + 5)) .none)] Q.gl (rs0 w Q),
   vSR (.call (.builtin "enumerate.__new__") ⟨[.type "enumerate", .ref (Q.sl + 178)], []⟩) 6 [(Q.sl + 178, lst Q.ws 0)] Q.gl (rs1 w Q),
   vSR (ru1C Q.en Q.U.n) 1 (ru1E (rsF w Q) Q.en Q.it Q.sl (frm (ruB (rsF w Q)) 2) 0 .none Q.ws (rsC0 Q)) Q.gl (rs2 w Q),
   vSR (ru3C (Q.U3.n + 1) Q.U.n) 1 (ru3E (rsF w Q) (Q.U3.n + 1) Q.U3.n (ruF3 v false (rsF w Q) (rsN w Q) Q.U3.n Q.pv Q.xv .none) (itO (.ref (Q.U.n + 1 + 178)) 0) Q.cs (fun _ => 0) (fun _ => []) 0) Q.gl (rs3 v w Q),
   vR (.ok (.ret (.ref (Q.U3.n + 178)))) ([(Q.sc + 178, lst Q.vs Q.e), (Q.U3.n + 178, lst (rowsR Q.ra 3) 3)] ++ rowsE Q.ra Q.rw 3) Q.gl (rs4 v w Q), true, true, true)
theorem rs_runs (b1 b2 v : Bool) (w : World) (Q : Rs) : rsL v (fol b1 b2 w) Q = rsA v (fol b1 b2 w) Q := by
  cases b1 <;> cases v <;> kernel_rfl
/-- the script's first twelve numbers, added to the cells -/
noncomputable def cellsOf (ns : List Int) : List Int := cellsN (ns.take 12) (ns.take 12).length
noncomputable abbrev RulPost (sc e : Nat) (gl : List GenState) (xs : List (Int × Nat)) : Nat → Result → List (Nat × Obj) → List GenState → Prop := fun _ x E2 gl2 =>
  ∃ (y : Nat) (ra : Nat → Nat) (rls : Nat → List (Int × Nat)), x = .ok (.ret (.ref (y + 178))) ∧ gl2 = gl ∧
    (∀ k, k < 3 → (rls k).length = 4 ∧ (rls k).map (·.1) = rulerOf ((cellsOf (xs.map (·.1))).getD k 0)) ∧
    E2 = [(sc + 178, lst (xs.map ivv) e), (y + 178, lst (rowsR ra 3) 3)] ++ rowsE ra (fun k => (rls k).map ivv) 3
/-- what is known at a stage of _law_rulers, in plain words -/
structure Rt where
  st : Nat
  sc : Nat
  e : Nat
  xs : List (Int × Nat)
  cl : List (Int × Nat)
  en : Nat
  it : Nat
  sl : Nat
  m : Nat
  u : Value
  N : Fn
  N2 : Fn
  pv : Value
  xv : Value
  rv : Value
  pv2 : Value
  xv2 : Value
  ra : Nat → Nat
  rls : Nat → List (Int × Nat)
  gl : List GenState
  U : Un
  U1 : Un
  U2 : Un
  U3 : Un
  U4 : Un
noncomputable def Rt.q (Q : Rt) : Rs := ⟨Q.sc, Q.e, Q.xs.map ivv, (Q.xs.take 12).map ivv, Q.cl.map ivv, Q.en, Q.it, Q.sl, Q.m, Q.u, Q.N, Q.N2, Q.pv, Q.xv, Q.rv, Q.pv2, Q.xv2, Q.ra, fun k => (Q.rls k).map ivv, Q.gl, Q.U, Q.U1, Q.U2, Q.U3, Q.U4⟩
noncomputable abbrev CellsOk (xs cl : List (Int × Nat)) : Prop := cl.length = 3 ∧ cl.map (fun p : Int × Nat => p.1) = cellsOf (xs.map (fun p : Int × Nat => p.1))
structure RtX (w : World) (A : Around) (R : Result → Shared → Prop) (h : Heap) (d : Drawn) (os : OsState) (sc e lo : Nat) (xs : List (Int × Nat)) (gl : List GenState) : Prop where
  hA : A.handled = none
  hdep : Room A 130
  Pr : Pre (ktw w) h [(sc + 178, lst (xs.map ivv) e)]
  hx : xs.length ≤ 1000
  K : ∀ h' y (ra : Nat → Nat) (rls : Nat → List (Int × Nat)) tk', lo ≤ tk' → Fra h h' [(sc + 178, lst (xs.map ivv) e)] ([(sc + 178, lst (xs.map ivv) e), (y + 178, lst (rowsR ra 3) 3)] ++ rowsE ra (fun k => (rls k).map ivv) 3) →
    (∀ k, k < 3 → (rls k).length = 4 ∧ (rls k).map (fun p : Int × Nat => p.1) = rulerOf ((cellsOf (xs.map (fun p : Int × Nat => p.1))).getD k 0)) → R (.ok (.ret (.ref (y + 178)))) ⟨h', ⟨gl⟩, d, tk', os⟩
section
variable {b1 b2 : Bool} {w : World} {A : Around} {R : Result → Shared → Prop} {h : Heap} {d : Drawn} {os : OsState}
theorem rt_s4 (v : Bool) (Q : Rt) (X : RtX (fol b1 b2 w) A R h d os Q.sc Q.e Q.U.tk Q.xs Q.gl) (le : Q.U.tk ≤ Q.U4.tk) (C : CellsOk Q.xs Q.cl) (ho : RowsOk Q.cl Q.rls 3) :
    SatX (vOf pw (fol b1 b2 w) A R) h ([(Q.sc + 178, lst (Q.xs.map ivv) Q.e)].map (·.1)) d os Q.U4.tk (rs4 v (fol b1 b2 w) Q.q) := by
  have r : vL [0, 7, 9, 10, 11] (rs4 v (fol b1 b2 w) Q.q) = vR (.ok (.ret (.ref (Q.U3.n + 178)))) ([(Q.sc + 178, lst (Q.xs.map ivv) Q.e), (Q.U3.n + 178, lst (rowsR Q.ra 3) 3)] ++ rowsE Q.ra (fun k => (Q.rls k).map ivv) 3) Q.gl (rs4 v (fol b1 b2 w) Q.q) := congrArg (fun x => x.2.2.2.2.1) (rs_runs b1 b2 v w Q.q)
  refine sat_retV r (by decide) fun h' tk' le' F' => X.K h' Q.U3.n Q.ra Q.rls tk' (Nat.le_trans le le') F' fun k hk => ⟨(ho k hk).1, (ho k hk).2.trans ?_⟩
  rw [getD_fst, C.2]
theorem rt_s3 (v : Bool) (Q : Rt) (X : RtX (fol b1 b2 w) A R h d os Q.sc Q.e Q.U.tk Q.xs Q.gl) (le : Q.U.tk ≤ Q.U3.tk) (C : CellsOk Q.xs Q.cl) :
    SatX (vOf pw (fol b1 b2 w) A R) h ([(Q.sc + 178, lst (Q.xs.map ivv) Q.e)].map (·.1)) d os Q.U3.tk (rs3 v (fol b1 b2 w) Q.q) := by
  have z := rs_runs b1 b2 v w Q.q
  refine sat_nx (D := 130) (congrArg (fun x => x.2.2.2.1) z) (ru3_loop v (rsF (fol b1 b2 w) Q.q) (Q.U3.n + 1) Q.U3.n Q.gl Q.cl C.1 (rsN (fol b1 b2 w) Q.q) Q.pv Q.xv (fol b1 b2 w) 0) (Nat.zero_le _) (by decide) (by decide) X.hA X.hdep X.Pr (fun _ _ _ _ ⟨_, _, _, _, _, _, _, h, _⟩ => h) (fun _ _ _ ⟨_, _, _, _, _, _, _, _, _, h⟩ => by rw [h]; exact ok_new rfl (congrArg (fun x => x.2.2.2.2.2.2.2) z)) ?_
  rintro _ _ U4 le4 ⟨N2, pv2, xv2, rv, ra, rls, rfl, _, ho, rfl⟩ _
  exact rt_s4 v { Q with st := 4, N2 := N2, pv2 := pv2, xv2 := xv2, rv := rv, ra := ra, rls := rls, U4 := U4 } X (Nat.le_trans le le4) C ho
theorem rt_s2 (Q : Rt) (X : RtX (fol b1 b2 w) A R h d os Q.sc Q.e Q.U.tk Q.xs Q.gl) (le : Q.U.tk ≤ Q.U2.tk) :
    SatX (vOf pw (fol b1 b2 w) A R) h ([(Q.sc + 178, lst (Q.xs.map ivv) Q.e)].map (·.1)) d os Q.U2.tk (rs2 (fol b1 b2 w) Q.q) := by
  have z := rs_runs b1 b2 true w Q.q
  have hm : (Q.xs.take 12).length ≤ 12 := List.length_take_le _ _
  refine sat_nx (D := 130) (congrArg (fun x => x.2.2.1) z) (ru1_loop (rsF (fol b1 b2 w) Q.q) Q.en Q.it Q.sl Q.gl (Q.xs.take 12) hm [(0, Q.U.tk + 1), (73, Q.U.tk + 2), (144, Q.U.tk + 3)] rfl (fol b1 b2 w) 0) (Nat.zero_le _) (by decide) (by decide) X.hA X.hdep X.Pr (fun _ _ _ _ ⟨_, _, _, _, h, _⟩ => h) (fun _ _ _ ⟨_, _, _, _, _, _, _, _, h⟩ => by rw [h]; exact ok_same _ _ rfl rfl) ?_
  rintro _ _ U3 le3 ⟨cs, fo, u, rfl, _, lc, hc, hf, rfl⟩ _
  have C : CellsOk Q.xs cs := ⟨lc, by unfold cellsOf; rw [hc, List.map_take, List.length_take, List.length_take, List.length_map]⟩
  rcases hf with ⟨_, rfl⟩ | ⟨_, N, pv, xv, rfl⟩
  · exact rt_s3 false { Q with st := 3, cl := cs, m := (Q.xs.take 12).length, u := u, pv := .none, xv := .none, U3 := U3 } X (Nat.le_trans le le3) C
  · exact rt_s3 true { Q with st := 3, cl := cs, m := (Q.xs.take 12).length, u := u, N := N, pv := pv, xv := xv, U3 := U3 } X (Nat.le_trans le le3) C
theorem rt_s1 (Q : Rt) (X : RtX (fol b1 b2 w) A R h d os Q.sc Q.e Q.U.tk Q.xs Q.gl) (le : Q.U.tk ≤ Q.U1.tk) :
    SatX (vOf pw (fol b1 b2 w) A R) h ([(Q.sc + 178, lst (Q.xs.map ivv) Q.e)].map (·.1)) d os Q.U1.tk (rs1 (fol b1 b2 w) Q.q) := by
  have z := rs_runs b1 b2 true w Q.q
  refine sat_nx (D := 130) (congrArg (fun x => x.2.1) z) (enum_new_spec (fol b1 b2 w) 0 Q.gl (Q.sl + 178) 0 ((Q.xs.take 12).map ivv)) (Nat.zero_le _) (by decide) (by decide) X.hA X.hdep X.Pr (fun _ _ _ _ ⟨_, _, _, _, h⟩ => h) (fun _ _ _ ⟨_, _, _, h, _⟩ => by rw [h]; exact ok_new rfl (congrArg (fun x => x.2.2.2.2.2.2.1) z)) ?_
  rintro _ _ U2 le2 ⟨a, b, rfl, rfl, _⟩ hy
  obtain ⟨en, he⟩ := hy (a, _) (.head _)
  obtain ⟨it, hi⟩ := hy (b, _) (.tail _ (.head _))
  dsimp only at he hi
  subst he hi
  exact rt_s2 { Q with st := 2, en := en, it := it, U2 := U2 } X (Nat.le_trans le le2)
theorem rt_s0 (Q : Rt) (X : RtX (fol b1 b2 w) A R h d os Q.sc Q.e Q.U.tk Q.xs Q.gl) :
    SatX (vOf pw (fol b1 b2 w) A R) h ([(Q.sc + 178, lst (Q.xs.map ivv) Q.e)].map (·.1)) d os Q.U.tk (rs0 (fol b1 b2 w) Q.q) := by
  have z := rs_runs b1 b2 true w Q.q
  refine sat_nx (D := 130) (congrArg (fun x => x.1) z) (slice_spec (fol b1 b2 w) 0 Q.gl _ _ (Q.xs.map ivv) Q.e _ _ none _ .none (.int _ _) (by rw [List.length_map]; exact X.hx)) (Nat.zero_le _) (by decide) (by decide) X.hA X.hdep X.Pr (fun _ _ _ _ ⟨_, _, _, h⟩ => h) (fun _ _ _ ⟨_, _, h, _⟩ => by rw [h]; exact ok_new rfl (congrArg (fun x => x.2.2.2.2.2.1) z)) ?_
  rintro _ _ U1 le1 ⟨x, rfl, rfl, _⟩ hy
  obtain ⟨sl, hy⟩ := hy (x, _) (.head _)
  dsimp only at hy
  subst hy
  have ep : (slicePick (Q.xs.map ivv).toArray none (some 12) none).toList = (Q.xs.take 12).map ivv := by rw [show (12 : Int) = .ofNat 12 from rfl, pick_upto, ← List.map_take]
  rw [ep]
  exact rt_s1 { Q with st := 1, sl := sl, U1 := U1 } X le1
end
/-- _law_rulers -/
theorem rulers_spec (w : World) (lo : Nat) (gl : List GenState) (sc e : Nat) (xs : List (Int × Nat)) (hx : xs.length ≤ 1000) :
    SpcT w 130 lo (ruC sc) gl [(sc + 178, lst (xs.map ivv) e)] (RulPost sc e gl xs) := by
  refine spcT_fol fun b1 b2 => spcT_of spRg 2000 ruOc 1 rfl (by kernel_rfl) (by decide) fun A R h d tk os hA hdep Pr hlo K n P B => ?_
  have X : RtX (fol b1 b2 w) A R h d os sc e tk xs gl := ⟨hA, hdep, Pr, hx, fun h' y ra rls tk' le F' ho => K _ _ _ _ _ le F' ⟨y, ra, rls, rfl, rfl, ho, rfl⟩⟩
  let Q0 : Rt := ⟨0, sc, e, xs, [], 0, 0, 0, 0, .none, ⟨0, 0, 0, 0, 0, 0, 0, 0⟩, ⟨0, 0, 0, 0, 0, 0, 0, 0⟩, .none, .none, .none, .none, .none, fun _ => 0, fun _ => [], gl, ⟨n, tk, P, B⟩, ⟨0, 0, P, B⟩, ⟨0, 0, P, B⟩, ⟨0, 0, P, B⟩, ⟨0, 0, P, B⟩⟩
  have z := rt_s0 (b1 := b1) (b2 := b2) Q0 X
  exact z
end Mine
end
section
set_option genInjectivity false
set_option maxRecDepth 100000
set_option maxHeartbeats 1000000
namespace Mine
open PySem PySem.Spec PySem.Calls PyProof.Rows PySem.W PySem.W.X
/-! law -/
noncomputable def lwOcH (b2 : Bool) : List Nat := cond b2 [0, 0, 3, 3, 1, 0, 3, 0, 3, 3, 3, 5, 5, 5, 9, 9, 9, 9, 9, 5, 9, 9, 11, 11, 0, 11, 0, 10, 10, 10, 10, 9, 9, 9, 9, 5, 9, 9, 11, 11, 0, 11, 0, 10, 10, 10, 10, 9, 9, 9, 9, 5, 9, 9, 11, 11, 0, 11, 0, 10, 10, 10, 10, 9, 9, 9, 9, 5, 9, 9, 16, 11, 11, 11, 4, 4, 0, 0, 0, 0, 17, 17, 17, 17, 17, 17, 17, 17, 17, 17, 18, 18, 18, 18, 18, 18, 18, 18, 18, 18, 20, 20, 0, 4, 20, 10, 10, 10, 10, 10, 0, 20, 19, 19, 19, 19, 18, 18, 18, 18, 18, 18, 18, 18, 18, 20, 20, 0, 4, 20, 10, 10, 10, 10, 10, 0, 20, 19, 19, 19, 19, 18, 18, 18, 18, 18, 18, 18, 18, 18, 20, 20, 0, 4, 20, 10, 10, 10, 10, 10, 0, 20, 19, 19, 19, 19, 18, 18, 18, 18, 18, 25, 20, 20, 20, 3, 3, 4, 3, 5, 5, 5, 27, 27, 27, 27, 27, 5, 27, 27, 29, 29, 0, 29, 0, 28, 28, 28, 28, 27, 27, 27, 27, 5, 27, 27, 29, 29, 0, 29, 0, 28, 28, 28, 28, 27, 27, 27, 27, 5, 27, 27, 29, 29, 0, 29, 0, 28, 28, 28, 28, 27, 27, 27, 27, 5, 27, 27, 34, 29, 29, 29, 3, 0, 10, 28, 10, 0] [0, 0, 3, 3, 1, 0, 3, 0, 3, 3, 3, 5, 5, 5, 9, 9, 9, 9, 9, 9, 9, 9, 9, 5, 9, 9, 11, 11, 0, 11, 0, 10, 10, 10, 10, 9, 9, 9, 9, 5, 9, 9, 11, 11, 0, 11, 0, 10, 10, 10, 10, 9, 9, 9, 9, 5, 9, 9, 11, 11, 0, 11, 0, 10, 10, 10, 10, 9, 9, 9, 9, 5, 9, 9, 16, 11, 11, 11, 4, 4, 0, 0, 0, 0, 17, 17, 17, 17, 17, 17, 17, 17, 17, 17, 18, 18, 18, 18, 18, 18, 18, 18, 18, 18, 18, 18, 18, 18, 20, 20, 0, 4, 20, 10, 10, 10, 10, 10, 0, 20, 19, 19, 19, 19, 18, 18, 18, 18, 18, 18, 18, 18, 18, 20, 20, 0, 4, 20, 10, 10, 10, 10, 10, 0, 20, 19, 19, 19, 19, 18, 18, 18, 18, 18, 18, 18, 18, 18, 20, 20, 0, 4, 20, 10, 10, 10, 10, 10, 0, 20, 19, 19, 19, 19, 18, 18, 18, 18, 18, 25, 20, 20, 20, 3, 3, 4, 3, 5, 5, 5, 27, 27, 27, 27, 27, 27, 27, 27, 27, 5, 27, 27, 29, 29, 0, 29, 0, 28, 28, 28, 28, 27, 27, 27, 27, 5, 27, 27, 29, 29, 0, 29, 0, 28, 28, 28, 28, 27, 27, 27, 27, 5, 27, 27, 29, 29, 0, 29, 0, 28, 28, 28, 28, 27, 27, 27, 27, 5, 27, 27, 34, 29, 29, 29, 3, 0, 10, 28, 10, 0]
noncomputable def lwOc (b2 : Bool) (π : List Nat) : List Nat := lwOcH b2 ++ (([0, 1, 2].map fun k => [4, 3, 26, 26, 26, 26, 26] ++ List.replicate 5 (21 + π.getD k 0) ++ [10, 10, 10, 10, 10]).flatten ++ [0])
noncomputable def spLw : Code → Bool := fun c => match c with
  | .call f _ => match f with
    | .builtin id => isId id "sorted" || isId id "list.__ne__"
    | .ref a => Nat.beq a 133 || Nat.beq a 140 || Nat.beq a 119 || Nat.beq a 145 || Nat.beq a 172
    | _ => false
  | _ => false
noncomputable def lawEnvA (l c : Nat) : Env := { scope := defScope (topAt 24), locals := l, globals := 3, cells := [(⟨sRows.toArray⟩, c)], qual := ⟨lawQ.toArray⟩, func := some 177, code := .ref 176, frame := some l, builtins := 0 }
noncomputable def lwCx : List (LT → CmpOp × Nat × Nat × Cx Value) := [
  fun T => (.NotEq, adr T 9, adr T 27, cxTest (adr T 9) (adr T 27) (cxIf (lawEnvA (adr T 2) (adr T 3)) (ifParts (stAt 24 3)).2.1 (ifParts (stAt 24 3)).2.2 ((defBody (topAt 24)).drop 4)))]
noncomputable abbrev lawC (sc : Nat) : Code := .call (.ref 177) ⟨[.ref (sc + 178)], []⟩
/-- what is known at a stage; st: the stage, so that two stages part at once -/
structure Lq where
  st : Nat
  sc : Nat
  e : Nat
  vs : List Value
  y : Nat
  ra : Nat → Nat
  rw : Nat → List Value
  sl : Nat → Array (Option Value)
  ya : Nat → Nat
  yw : Nat → List Value
  gs : Nat → List GenState
  c : Nat → Int
  ct : Nat → Nat
  x : Nat
  n : Nat
  za : Nat → Nat
  zw : Nat → List Value
  zm : Nat → Nat
  c1 : Nat
  c2 : Nat
  a : Nat
  b : Nat
  r : List Value
  U : Nat → Un
section
variable (b2 : Bool) (w : World) (Q : Lq) (π : List Nat)
noncomputable abbrev lwL : Ent := [(kh w sScript, sScript, (Q.U 0).tk, .ref (Q.sc + 178)), (kh w sRulers, sRulers, (Q.U 1).tk, .ref (Q.y + 178))]
noncomputable abbrev lwFr (k : Nat) : Nat × Obj := ((Q.U 0).n + 178, frmS (lwL w Q) 2 (cond (Nat.beq k 0) #[] (Q.sl k)))
noncomputable abbrev lwR (k : Nat) : Nat × Obj := (Q.ra k + 178, lst (Q.rw k) 0)
noncomputable abbrev lwY (k : Nat) : Nat × Obj := (Q.ya k + 178, lst (Q.yw k) 0)
noncomputable abbrev lwZ (k : Nat) : Nat × Obj := (Q.za k + 178, lst (Q.zw k) (Q.zm k))
/-- the pairs' places -/
noncomputable abbrev lwT (k : Nat) : Nat := (Q.U (5 + k)).n + 178
noncomputable def lw0 : Out := goF w spLw lwCx [] 4000 (lawC Q.sc) (lwOc b2 π) (Q.U 0).P (Q.U 0).B [(Q.sc + 178, lst Q.vs Q.e), (121, tab0)] 2 (Q.U 0).n (Q.U 0).tk (Q.gs 0)
noncomputable def lw1 : Out := nx (lw0 b2 w Q π) [0] (.ok (.ret (.ref (Q.y + 178)))) ([(Q.sc + 178, lst Q.vs Q.e), (Q.y + 178, lst (rowsR Q.ra 3) 3)] ++ rowsE Q.ra Q.rw 3) (Q.gs 0) (Q.U 1)
noncomputable def lw2 : Out := nx (lw1 b2 w Q π) [5, 2] (.ok (.ret (.ref (Q.ya 0 + 178)))) [lwR Q 0, lwFr w Q 1, lwY Q 0] (Q.gs 1) (Q.U 2)
noncomputable def lw3 : Out := nx (lw2 b2 w Q π) [6, 2] (.ok (.ret (.ref (Q.ya 1 + 178)))) [lwR Q 1, lwFr w Q 2, lwY Q 1] (Q.gs 2) (Q.U 3)
noncomputable def lw4 : Out := nx (lw3 b2 w Q π) [7, 2] (.ok (.ret (.ref (Q.ya 2 + 178)))) [lwR Q 2, lwFr w Q 3, lwY Q 2] (Q.gs 3) (Q.U 4)
noncomputable def lw5 : Out := nx (lw4 b2 w Q π) [11] (.ok (.ret (.int (Q.c 0) (Q.ct 0)))) [lwY Q 0] (Q.gs 3) (Q.U 5)
noncomputable def lw6 : Out := nx (lw5 b2 w Q π) [12] (.ok (.ret (.int (Q.c 1) (Q.ct 1)))) [lwY Q 1] (Q.gs 3) (Q.U 6)
noncomputable def lw7 : Out := nx (lw6 b2 w Q π) [13] (.ok (.ret (.int (Q.c 2) (Q.ct 2)))) [lwY Q 2] (Q.gs 3) (Q.U 7)
noncomputable abbrev lwP (k : Nat) : Nat × Obj := (lwT Q k, pairO (Q.c k) (Q.ct k) k (cond (Nat.beq k 0) ((Q.U 4).tk + 3) (Q.U (4 + k)).tk))
noncomputable abbrev lwS : List (Nat × Obj) := [((Q.U 4).n + 4 + 178, lst (soR (lwT Q)) 3), lwP Q 0, lwP Q 1, lwP Q 2]
noncomputable def lw8 : Out := nx (lw7 b2 w Q π) [18, 20, 21, 22] (.ok (.ret (.ref (Q.x + 178)))) (lwS Q ++ [(Q.x + 178, lst (π.map fun i => (soR (lwT Q)).getD i .none) Q.n)]) (Q.gs 3) (Q.U 8)
noncomputable def lw9 : Out := nx (lw8 b2 w Q π) [5] (.ok (.ret (.ref (Q.za 0 + 178)))) [lwR Q 0, lwZ Q 0] (Q.gs 3) (Q.U 9)
noncomputable def lw10 : Out := nx (lw9 b2 w Q π) [6] (.ok (.ret (.ref (Q.za 1 + 178)))) [lwR Q 1, lwZ Q 1] (Q.gs 3) (Q.U 10)
noncomputable def lw11 : Out := nx (lw10 b2 w Q π) [7] (.ok (.ret (.ref (Q.za 2 + 178)))) [lwR Q 2, lwZ Q 2] (Q.gs 3) (Q.U 11)
noncomputable abbrev lwNe : List (Nat × Obj) := [((Q.U 1).n + 1 + 178, lst [.ref (Q.ya 0 + 178), .ref (Q.ya 1 + 178), .ref (Q.ya 2 + 178)] 3), ((Q.U 8).n + 1 + 178, lst [.ref (Q.za 0 + 178), .ref (Q.za 1 + 178), .ref (Q.za 2 + 178)] 3), lwY Q 0, lwY Q 1, lwY Q 2, lwZ Q 0, lwZ Q 1, lwZ Q 2]
noncomputable def lw12 : Out := nx (lw11 b2 w Q π) [9, 27, 11, 12, 13, 29, 30, 31] (.ok (.ret (.bool false))) (lwNe Q) (Q.gs 3) (Q.U 12)
noncomputable abbrev lwI (π : List Nat) : List Nat := [11 + π.getD 0 0, 11 + π.getD 1 0, 11 + π.getD 2 0, 1]
noncomputable def lw13 : Out := nx (lw12 b2 w Q π) (lwI π) (.ok (.ret (.bool true))) [lwY Q (π.getD 0 0), lwY Q (π.getD 1 0), lwY Q (π.getD 2 0), (121, tab1 Q.c1 Q.c2), (Q.c1 + 178, codeO Q.a Q.b Q.r)] (Q.gs 3) (Q.U 13)
end
end Mine
end
section
set_option maxRecDepth 100000
set_option maxHeartbeats 1000000
namespace Mine
open PySem PySem.Spec PySem.Calls PyProof.Rows PySem.W PySem.W.X
noncomputable abbrev cntC (y : Nat) (t : Nat) : Code := .call (.ref 119) ⟨[.ref (y + 178), .int 1 t], []⟩
noncomputable def fgo (o : Out) : Bool := fullGo o.st.T o.st.m
noncomputable def fks (o : Out) : List Env := frK [] true o.kk
noncomputable abbrev lwL1 (b2 : Bool) (w : World) (Q : Lq) (π : List Nat) :=
  ((vS [0] (lw0 b2 w Q π), vS [5, 2] (lw1 b2 w Q π), vS [6, 2] (lw2 b2 w Q π), vS [7, 2] (lw3 b2 w Q π)),
   (fks (lw1 b2 w Q π), fks (lw2 b2 w Q π), fks (lw3 b2 w Q π)),
   (fgo (lw0 b2 w Q π), fgo (lw1 b2 w Q π), fgo (lw2 b2 w Q π), fgo (lw3 b2 w Q π)),
   (vS [11] (lw4 b2 w Q π), vS [12] (lw5 b2 w Q π), vS [13] (lw6 b2 w Q π), vS [18, 20, 21, 22] (lw7 b2 w Q π)),
   (vS [5] (lw8 b2 w Q π), vS [6] (lw9 b2 w Q π), vS [7] (lw10 b2 w Q π), vS [9, 27, 11, 12, 13, 29, 30, 31] (lw11 b2 w Q π)),
   (fgo (lw7 b2 w Q π), fgo (lw8 b2 w Q π), fgo (lw9 b2 w Q π), fgo (lw10 b2 w Q π), fgo (lw12 b2 w Q π)),
   vS (lwI π) (lw12 b2 w Q π), vL [0, 1] (lw13 b2 w Q π))
noncomputable abbrev lwA1 (b2 : Bool) (w : World) (Q : Lq) (π : List Nat) :=
  ((vSR (ruC Q.sc) 1 [(Q.sc + 178, lst Q.vs Q.e)] (Q.gs 0) (lw0 b2 w Q π), vSR (marC (Q.ra 0)) 2 [lwR Q 0, lwFr w Q 0] (Q.gs 0) (lw1 b2 w Q π), vSR (marC (Q.ra 1)) 2 [lwR Q 1, lwFr w Q 1] (Q.gs 1) (lw2 b2 w Q π), vSR (marC (Q.ra 2)) 2 [lwR Q 2, lwFr w Q 2] (Q.gs 2) (lw3 b2 w Q π)),
   (([lawEnv (Q.U 0).n ((Q.U 0).n + 1 + 178)] : List Env), ([lawEnv (Q.U 0).n ((Q.U 0).n + 1 + 178)] : List Env), ([lawEnv (Q.U 0).n ((Q.U 0).n + 1 + 178)] : List Env)),
   (true, true, true, true),
   (vSR (cntC (Q.ya 0) ((Q.U 4).tk + 5)) 2 [lwY Q 0] (Q.gs 3) (lw4 b2 w Q π), vSR (cntC (Q.ya 1) ((Q.U 5).tk + 2)) 2 [lwY Q 1] (Q.gs 3) (lw5 b2 w Q π), vSR (cntC (Q.ya 2) ((Q.U 6).tk + 2)) 2 [lwY Q 2] (Q.gs 3) (lw6 b2 w Q π), vSR (.call (.builtin "sorted") ⟨[.ref ((Q.U 4).n + 4 + 178)], []⟩) 1 (lwS Q) (Q.gs 3) (lw7 b2 w Q π)),
   (vSR (sumC (Q.ra 0)) 2 [lwR Q 0] (Q.gs 3) (lw8 b2 w Q π), vSR (sumC (Q.ra 1)) 2 [lwR Q 1] (Q.gs 3) (lw9 b2 w Q π), vSR (sumC (Q.ra 2)) 2 [lwR Q 2] (Q.gs 3) (lw10 b2 w Q π), vSR (.call (.builtin "list.__ne__") ⟨[.ref ((Q.U 1).n + 1 + 178), .ref ((Q.U 8).n + 1 + 178)], []⟩) 1 (lwNe Q) (Q.gs 3) (lw11 b2 w Q π)),
   (true, true, true, true, true),
   vSR (exCode (Q.ya (π.getD 0 0)) (Q.ya (π.getD 1 0)) (Q.ya (π.getD 2 0))) 1 [lwY Q (π.getD 0 0), lwY Q (π.getD 1 0), lwY Q (π.getD 2 0), (121, tab0)] (Q.gs 3) (lw12 b2 w Q π), vR (.ok (.ret (.bool true))) [(Q.sc + 178, lst Q.vs Q.e), (121, tab1 Q.c1 Q.c2)] (Q.gs 3) (lw13 b2 w Q π))
theorem lw_runs (b1 b2 : Bool) (w : World) (Q : Lq) : tab (fun i => lwL1 b2 (fol b1 b2 w) Q (perms.getD i [])) 6 = tab2 (fun i => lwA1 b2 (fol b1 b2 w) Q (perms.getD i [])) 6 := by
  cases b1 <;> cases b2 <;> kernel_rfl
end Mine
end
section
set_option genInjectivity false
set_option maxRecDepth 100000
set_option maxHeartbeats 1000000
namespace Mine
open PySem PySem.Spec PySem.Calls PyProof.Rows PySem.W PySem.W.X PySem.SeqAt
theorem cmp_bit {lo u : Nat} {x : Bool × Nat} (hx : InT lo x.2) (hu : lo ≤ u) (h0 : 0 < u) : CmpOk (.int 1 u) (bvv x) x.1 := by
  obtain ⟨β, t⟩ := x
  have ht : 0 < t := hx.1
  have hne : t ≠ u := Nat.ne_of_lt (Nat.lt_of_lt_of_le hx.2 hu)
  cases β with
  | true => exact cmp_int (a := 1) (c := 1) ht h0 (by decide) fun _ => hne
  | false => exact cmp_int (a := 0) (c := 1) ht h0 (by decide) fun _ => hne
/-- countOf(row, 1) -/
theorem cnt_bits (w : World) (lo : Nat) (h0 : 0 < lo) (gl : List GenState) (y n : Nat) (o : List (Bool × Nat)) (bo : ∀ q ∈ o, InT lo q.2) (u : Nat) (hu : lo ≤ u) :
    SpcT w 120 lo (cntC y u) gl [(y + 178, lst (o.map bvv) n)] (fun tk' r E2 gl2 => ∃ t, r = .ok (.ret (.int (cntT (o.map (·.1)) : Int) t)) ∧ E2 = [(y + 178, lst (o.map bvv) n)] ∧ gl2 = gl ∧ InT tk' t) :=
  cnt_call w lo h0 gl (y + 178) n (o.map bvv) (.int 1 u) (o.map (·.1)) (by simp) fun i v β hv hb => by
    rw [List.getElem?_map] at hv hb
    cases q : o[i]? with
    | none => rw [q] at hv; cases hv
    | some x =>
      rw [q] at hv hb
      cases hv
      cases hb
      exact cmp_bit (bo x (List.mem_of_getElem? q)) hu (Nat.lt_of_lt_of_le h0 hu)
theorem bits_eq (A : Around) (s : Shared) (u v : List (Bool × Nat)) (h : u.map (·.1) = v.map (·.1)) : ∀ j (h1 : j < (u.map bvv).length) (h2 : j < (v.map bvv).length), EqAt A s (u.map bvv)[j] (v.map bvv)[j] true := fun j h1 h2 => by
  rw [List.length_map] at h1 h2
  rw [List.getElem_map, List.getElem_map]
  have e : u[j].1 = v[j].1 := by
    have e1 : (u.map (·.1))[j]? = some u[j].1 := by rw [List.getElem?_map, List.getElem?_eq_getElem h1]; rfl
    have e2 : (v.map (·.1))[j]? = some v[j].1 := by rw [List.getElem?_map, List.getElem?_eq_getElem h2]; rfl
    rw [h, e2] at e1
    exact (Option.some.inj e1).symm
  obtain ⟨a, t⟩ : ∃ p : Bool × Nat, u[j] = p := ⟨_, rfl⟩
  obtain ⟨b, t'⟩ : ∃ p : Bool × Nat, v[j] = p := ⟨_, rfl⟩
  generalize u[j] = p at e ⊢
  generalize v[j] = q at e ⊢
  obtain ⟨p1, p2⟩ := p
  obtain ⟨q1, q2⟩ := q
  have e : p1 = q1 := e
  subst e
  cases p1 with
  | true => exact EqAt.int_int 1 p2 1 q2
  | false => exact EqAt.int_int 0 p2 0 q2
theorem rows_eq {A : Around} {s : Shared} {a b n m : Nat} (u v : List (Bool × Nat)) (h : u.map (·.1) = v.map (·.1)) (ha : s.heap.get? a = some (lst (u.map bvv) n)) (hb : s.heap.get? b = some (lst (v.map bvv) m)) (hu : A.units < cLine) : EqAt A s (.ref a) (.ref b) true := by
  by_cases e : a = b
  · subst e
    exact EqAt.same _
  · have hl : (u.map bvv).length = (v.map bvv).length := by
      have := congrArg List.length h
      simpa using this
    have z := RcAt.lists (A := A) (s := s) (e := fun _ => true) ⟨_, ha, rfl, n, rfl⟩ ⟨_, hb, rfl, m, rfl⟩ (by simpa using hl) hu fun j h1 h2 => by
      have := bits_eq A.in1 s u v h j (by simpa using h1) (by simpa using h2)
      simpa using this
    rw [all_true] at z
    exact EqAt.of_refs e z
/-- rows != sums, of equal rows -/
theorem rows_ne (w : World) (lo : Nat) (gl : List GenState) (a b : Nat) (ya za : Nat → Nat) (O Z : Nat → List (Bool × Nat)) (zm : Nat → Nat) (h : ∀ k, k < 3 → (O k).map (·.1) = (Z k).map (·.1)) :
    SpcT w 110 lo (.call (.builtin "list.__ne__") ⟨[.ref (a + 178), .ref (b + 178)], []⟩) gl
      [(a + 178, lst [.ref (ya 0 + 178), .ref (ya 1 + 178), .ref (ya 2 + 178)] 3), (b + 178, lst [.ref (za 0 + 178), .ref (za 1 + 178), .ref (za 2 + 178)] 3), (ya 0 + 178, lst ((O 0).map bvv) 0), (ya 1 + 178, lst ((O 1).map bvv) 0), (ya 2 + 178, lst ((O 2).map bvv) 0), (za 0 + 178, lst ((Z 0).map bvv) (zm 0)), (za 1 + 178, lst ((Z 1).map bvv) (zm 1)), (za 2 + 178, lst ((Z 2).map bvv) (zm 2))]
      (fun _ r E2 gl2 => r = .ok (.ret (.bool false)) ∧ E2 = [(a + 178, lst [.ref (ya 0 + 178), .ref (ya 1 + 178), .ref (ya 2 + 178)] 3), (b + 178, lst [.ref (za 0 + 178), .ref (za 1 + 178), .ref (za 2 + 178)] 3), (ya 0 + 178, lst ((O 0).map bvv) 0), (ya 1 + 178, lst ((O 1).map bvv) 0), (ya 2 + 178, lst ((O 2).map bvv) 0), (za 0 + 178, lst ((Z 0).map bvv) (zm 0)), (za 1 + 178, lst ((Z 1).map bvv) (zm 1)), (za 2 + 178, lst ((Z 2).map bvv) (zm 2))] ∧ gl2 = gl) :=
  list_ne_spec w lo gl (a + 178) (b + 178) _ _ 3 3 _ rfl fun A s hu hr j h1 h2 => by
    have hu' : A.units < cLine := by omega
    match j, h1 with
    | 0, _ => exact rows_eq (O 0) (Z 0) (h 0 (by decide)) (hr _ (.head _)) (hr _ (.tail _ (.tail _ (.tail _ (.head _))))) hu'
    | 1, _ => exact rows_eq (O 1) (Z 1) (h 1 (by decide)) (hr _ (.tail _ (.head _))) (hr _ (.tail _ (.tail _ (.tail _ (.tail _ (.head _)))))) hu'
    | 2, _ => exact rows_eq (O 2) (Z 2) (h 2 (by decide)) (hr _ (.tail _ (.tail _ (.head _)))) (hr _ (.tail _ (.tail _ (.tail _ (.tail _ (.tail _ (.head _))))))) hu'
section
variable {w : World} {A : Around} {R : Result → Shared → Prop} {d : Drawn} {os : OsState} {h : Heap} {E : List (Nat × Obj)} {t0 : Nat}
theorem sat_nxF {l fl : List Env} {D D' K lo : Nat} {o : Out} {idx : List Nat} {c : Code} {E1 : List (Nat × Obj)} {gl : List GenState} {Post1 : Nat → Result → List (Nat × Obj) → List GenState → Prop}
    (h1 : vS idx o = vSR c K E1 gl o) (hfr : A.frames = some l) (hfl : frK l true o.kk = fl) (C : SpcF w fl D' lo c gl E1 Post1) (hlo : lo ≤ t0) (nd : idx.Nodup) (hD : K + D' ≤ D)
    (hA : A.handled = none) (hdep : Room A D) (P : Pre (ktw w) h E)
    (ok : ∀ tk2 r E2 gl2, Post1 tk2 r E2 gl2 → (E2.take idx.length).map (·.1) = E1.map (·.1) ∧ ltOk (E2.drop idx.length) o.st.m (setL o.st.T idx E2) = true)
    (G : ∀ r E2 gl2 (U : Un), t0 ≤ U.tk → Post1 U.tk r E2 gl2 → (∀ p ∈ E2.drop idx.length, ∃ y, p.1 = y + 178) → SatX (vOf pw w A R) h (E.map (·.1)) d os U.tk (nx o idx r E2 gl2 U)) :
    SatX (vOf pw w A R) h (E.map (·.1)) d os t0 o :=
  sat_specFT h1 hfr hfl (fun le => Nat.le_trans hlo le) C nd hD hA hdep P ok fun r E2 gl2 n2 tk2 le _ p q P B => G r E2 gl2 ⟨n2, tk2, P, B⟩ le p q
end
/-- what is known at a stage, in plain words -/
structure Lp where
  st : Nat
  sc : Nat
  e : Nat
  vs : List Value
  y : Nat
  ra : Nat → Nat
  rl : Nat → List (Int × Nat)
  sl : Nat → Array (Option Value)
  ya : Nat → Nat
  yo : Nat → List (Bool × Nat)
  gs : Nat → List GenState
  c : Nat → Int
  ct : Nat → Nat
  x : Nat
  n : Nat
  za : Nat → Nat
  zo : Nat → List (Bool × Nat)
  zm : Nat → Nat
  c1 : Nat
  c2 : Nat
  a : Nat
  b : Nat
  r : List Value
  U : Nat → Un
noncomputable def Lp.q (Q : Lp) : Lq := ⟨Q.st, Q.sc, Q.e, Q.vs, Q.y, Q.ra, fun k => (Q.rl k).map ivv, Q.sl, Q.ya, fun k => (Q.yo k).map bvv, Q.gs, Q.c, Q.ct, Q.x, Q.n, Q.za, fun k => (Q.zo k).map bvv, Q.zm, Q.c1, Q.c2, Q.a, Q.b, Q.r, Q.U⟩
end Mine
end
section
set_option genInjectivity false
set_option maxRecDepth 100000
set_option maxHeartbeats 1000000
namespace Mine
open PySem PySem.Spec PySem.Calls PyProof.Rows PySem.W PySem.W.X
section
variable (b1 b2 : Bool) (w : World) (Q : Lq) (i : Nat) (hi : i < 6)
include hi
theorem lw_r0 : vS [0] (lw0 b2 (fol b1 b2 w) Q (perms.getD i [])) = (vSR (ruC Q.sc) 1 [(Q.sc + 178, lst Q.vs Q.e)] (Q.gs 0) (lw0 b2 (fol b1 b2 w) Q (perms.getD i []))) := congrArg (fun x => x.1.1) (tab_get (lw_runs b1 b2 w Q) i hi)
theorem lw_r1 : vS [5, 2] (lw1 b2 (fol b1 b2 w) Q (perms.getD i [])) = (vSR (marC (Q.ra 0)) 2 [lwR Q 0, lwFr (fol b1 b2 w) Q 0] (Q.gs 0) (lw1 b2 (fol b1 b2 w) Q (perms.getD i []))) := congrArg (fun x => x.1.2.1) (tab_get (lw_runs b1 b2 w Q) i hi)
theorem lw_r2 : vS [6, 2] (lw2 b2 (fol b1 b2 w) Q (perms.getD i [])) = (vSR (marC (Q.ra 1)) 2 [lwR Q 1, lwFr (fol b1 b2 w) Q 1] (Q.gs 1) (lw2 b2 (fol b1 b2 w) Q (perms.getD i []))) := congrArg (fun x => x.1.2.2.1) (tab_get (lw_runs b1 b2 w Q) i hi)
theorem lw_r3 : vS [7, 2] (lw3 b2 (fol b1 b2 w) Q (perms.getD i [])) = (vSR (marC (Q.ra 2)) 2 [lwR Q 2, lwFr (fol b1 b2 w) Q 2] (Q.gs 2) (lw3 b2 (fol b1 b2 w) Q (perms.getD i []))) := congrArg (fun x => x.1.2.2.2) (tab_get (lw_runs b1 b2 w Q) i hi)
theorem lw_r4 : vS [11] (lw4 b2 (fol b1 b2 w) Q (perms.getD i [])) = (vSR (cntC (Q.ya 0) ((Q.U 4).tk + 5)) 2 [lwY Q 0] (Q.gs 3) (lw4 b2 (fol b1 b2 w) Q (perms.getD i []))) := congrArg (fun x => x.2.2.2.1.1) (tab_get (lw_runs b1 b2 w Q) i hi)
theorem lw_r5 : vS [12] (lw5 b2 (fol b1 b2 w) Q (perms.getD i [])) = (vSR (cntC (Q.ya 1) ((Q.U 5).tk + 2)) 2 [lwY Q 1] (Q.gs 3) (lw5 b2 (fol b1 b2 w) Q (perms.getD i []))) := congrArg (fun x => x.2.2.2.1.2.1) (tab_get (lw_runs b1 b2 w Q) i hi)
theorem lw_r6 : vS [13] (lw6 b2 (fol b1 b2 w) Q (perms.getD i [])) = (vSR (cntC (Q.ya 2) ((Q.U 6).tk + 2)) 2 [lwY Q 2] (Q.gs 3) (lw6 b2 (fol b1 b2 w) Q (perms.getD i []))) := congrArg (fun x => x.2.2.2.1.2.2.1) (tab_get (lw_runs b1 b2 w Q) i hi)
theorem lw_r7 : vS [18, 20, 21, 22] (lw7 b2 (fol b1 b2 w) Q (perms.getD i [])) = (vSR (.call (.builtin "sorted") ⟨[.ref ((Q.U 4).n + 4 + 178)], []⟩) 1 (lwS Q) (Q.gs 3) (lw7 b2 (fol b1 b2 w) Q (perms.getD i []))) := congrArg (fun x => x.2.2.2.1.2.2.2) (tab_get (lw_runs b1 b2 w Q) i hi)
theorem lw_r8 : vS [5] (lw8 b2 (fol b1 b2 w) Q (perms.getD i [])) = (vSR (sumC (Q.ra 0)) 2 [lwR Q 0] (Q.gs 3) (lw8 b2 (fol b1 b2 w) Q (perms.getD i []))) := congrArg (fun x => x.2.2.2.2.1.1) (tab_get (lw_runs b1 b2 w Q) i hi)
theorem lw_r9 : vS [6] (lw9 b2 (fol b1 b2 w) Q (perms.getD i [])) = (vSR (sumC (Q.ra 1)) 2 [lwR Q 1] (Q.gs 3) (lw9 b2 (fol b1 b2 w) Q (perms.getD i []))) := congrArg (fun x => x.2.2.2.2.1.2.1) (tab_get (lw_runs b1 b2 w Q) i hi)
theorem lw_r10 : vS [7] (lw10 b2 (fol b1 b2 w) Q (perms.getD i [])) = (vSR (sumC (Q.ra 2)) 2 [lwR Q 2] (Q.gs 3) (lw10 b2 (fol b1 b2 w) Q (perms.getD i []))) := congrArg (fun x => x.2.2.2.2.1.2.2.1) (tab_get (lw_runs b1 b2 w Q) i hi)
theorem lw_r11 : vS [9, 27, 11, 12, 13, 29, 30, 31] (lw11 b2 (fol b1 b2 w) Q (perms.getD i [])) = (vSR (.call (.builtin "list.__ne__") ⟨[.ref ((Q.U 1).n + 1 + 178), .ref ((Q.U 8).n + 1 + 178)], []⟩) 1 (lwNe Q) (Q.gs 3) (lw11 b2 (fol b1 b2 w) Q (perms.getD i []))) := congrArg (fun x => x.2.2.2.2.1.2.2.2) (tab_get (lw_runs b1 b2 w Q) i hi)
theorem lw_r12 : vS (lwI (perms.getD i [])) (lw12 b2 (fol b1 b2 w) Q (perms.getD i [])) = (vSR (exCode (Q.ya ((perms.getD i []).getD 0 0)) (Q.ya ((perms.getD i []).getD 1 0)) (Q.ya ((perms.getD i []).getD 2 0))) 1 [lwY Q ((perms.getD i []).getD 0 0), lwY Q ((perms.getD i []).getD 1 0), lwY Q ((perms.getD i []).getD 2 0), (121, tab0)] (Q.gs 3) (lw12 b2 (fol b1 b2 w) Q (perms.getD i []))) := congrArg (fun x => x.2.2.2.2.2.2.1) (tab_get (lw_runs b1 b2 w Q) i hi)
theorem lw_r13 : vL [0, 1] (lw13 b2 (fol b1 b2 w) Q (perms.getD i [])) = vR (.ok (.ret (.bool true))) [(Q.sc + 178, lst Q.vs Q.e), (121, tab1 Q.c1 Q.c2)] (Q.gs 3) (lw13 b2 (fol b1 b2 w) Q (perms.getD i [])) := congrArg (fun x => x.2.2.2.2.2.2.2) (tab_get (lw_runs b1 b2 w Q) i hi)
theorem lw_k1 : frK [] true (lw1 b2 (fol b1 b2 w) Q (perms.getD i [])).kk = [lawEnv (Q.U 0).n ((Q.U 0).n + 1 + 178)] := congrArg (fun x => x.2.1.1) (tab_get (lw_runs b1 b2 w Q) i hi)
theorem lw_k2 : frK [] true (lw2 b2 (fol b1 b2 w) Q (perms.getD i [])).kk = [lawEnv (Q.U 0).n ((Q.U 0).n + 1 + 178)] := congrArg (fun x => x.2.1.2.1) (tab_get (lw_runs b1 b2 w Q) i hi)
theorem lw_k3 : frK [] true (lw3 b2 (fol b1 b2 w) Q (perms.getD i [])).kk = [lawEnv (Q.U 0).n ((Q.U 0).n + 1 + 178)] := congrArg (fun x => x.2.1.2.2) (tab_get (lw_runs b1 b2 w Q) i hi)
theorem lw_f0 : fullGo (lw0 b2 (fol b1 b2 w) Q (perms.getD i [])).st.T (lw0 b2 (fol b1 b2 w) Q (perms.getD i [])).st.m = true := congrArg (fun x => x.2.2.1.1) (tab_get (lw_runs b1 b2 w Q) i hi)
theorem lw_f1 : fullGo (lw1 b2 (fol b1 b2 w) Q (perms.getD i [])).st.T (lw1 b2 (fol b1 b2 w) Q (perms.getD i [])).st.m = true := congrArg (fun x => x.2.2.1.2.1) (tab_get (lw_runs b1 b2 w Q) i hi)
theorem lw_f2 : fullGo (lw2 b2 (fol b1 b2 w) Q (perms.getD i [])).st.T (lw2 b2 (fol b1 b2 w) Q (perms.getD i [])).st.m = true := congrArg (fun x => x.2.2.1.2.2.1) (tab_get (lw_runs b1 b2 w Q) i hi)
theorem lw_f3 : fullGo (lw3 b2 (fol b1 b2 w) Q (perms.getD i [])).st.T (lw3 b2 (fol b1 b2 w) Q (perms.getD i [])).st.m = true := congrArg (fun x => x.2.2.1.2.2.2) (tab_get (lw_runs b1 b2 w Q) i hi)
theorem lw_f7 : fullGo (lw7 b2 (fol b1 b2 w) Q (perms.getD i [])).st.T (lw7 b2 (fol b1 b2 w) Q (perms.getD i [])).st.m = true := congrArg (fun x => x.2.2.2.2.2.1.1) (tab_get (lw_runs b1 b2 w Q) i hi)
theorem lw_f8 : fullGo (lw8 b2 (fol b1 b2 w) Q (perms.getD i [])).st.T (lw8 b2 (fol b1 b2 w) Q (perms.getD i [])).st.m = true := congrArg (fun x => x.2.2.2.2.2.1.2.1) (tab_get (lw_runs b1 b2 w Q) i hi)
theorem lw_f9 : fullGo (lw9 b2 (fol b1 b2 w) Q (perms.getD i [])).st.T (lw9 b2 (fol b1 b2 w) Q (perms.getD i [])).st.m = true := congrArg (fun x => x.2.2.2.2.2.1.2.2.1) (tab_get (lw_runs b1 b2 w Q) i hi)
theorem lw_f10 : fullGo (lw10 b2 (fol b1 b2 w) Q (perms.getD i [])).st.T (lw10 b2 (fol b1 b2 w) Q (perms.getD i [])).st.m = true := congrArg (fun x => x.2.2.2.2.2.1.2.2.2.1) (tab_get (lw_runs b1 b2 w Q) i hi)
theorem lw_f12 : fullGo (lw12 b2 (fol b1 b2 w) Q (perms.getD i [])).st.T (lw12 b2 (fol b1 b2 w) Q (perms.getD i [])).st.m = true := congrArg (fun x => x.2.2.2.2.2.1.2.2.2.2) (tab_get (lw_runs b1 b2 w Q) i hi)
end
/-- what law asks, in plain words: of the script's numbers -/
structure LawOk (ns : List Int) : Prop where
  cls : ∀ k, k < 3 → clsOf (rulerOf ((cellsOf ns).getD k 0)) ≠ none
  same : ∀ k, k < 3 → marksB (rulerOf ((cellsOf ns).getD k 0)) = sumsB (rulerOf ((cellsOf ns).getD k 0))
  len : ∀ k, k < 3 → (sumsB (rulerOf ((cellsOf ns).getD k 0))).length = 7
  pos : ∀ k, k < 3 → 0 ≤ (rulerOf ((cellsOf ns).getD k 0)).getD 0 0
  ne : ∀ k, k < 3 → (rulerOf ((cellsOf ns).getD k 0)).getD 0 0 ≠ 127
  good : ∀ π, Sorted (fun k => (cntT (sumsB (rulerOf ((cellsOf ns).getD k 0))) : Int)) π → ∃ x, Good (sumsB (rulerOf ((cellsOf ns).getD (π.getD 0 0) 0))) (sumsB (rulerOf ((cellsOf ns).getD (π.getD 1 0) 0))) (sumsB (rulerOf ((cellsOf ns).getD (π.getD 2 0) 0))) x
theorem sorted_congr {c c' : Nat → Int} {π : List Nat} (h : Sorted c π) (e : ∀ k, k < 3 → c k = c' k) : Sorted c' π :=
  ⟨h.1, fun i j hi hj => by
    rw [← h.2 i j hi hj]
    unfold lexlt
    rw [e i hi, e j hj]⟩
theorem perms_at {π : List Nat} (h : π ∈ perms) : ∃ i, i < 6 ∧ perms.getD i [] = π := by
  obtain ⟨i, hi, e⟩ := List.getElem_of_mem h
  exact ⟨i, hi, by rw [← e, List.getD_eq_getElem?_getD, List.getElem?_eq_getElem hi]; rfl⟩
theorem lwI_nd : ∀ i, i < 6 → (lwI (perms.getD i [])).Nodup ∧ (perms.getD i []).getD 0 0 < 3 ∧ (perms.getD i []).getD 1 0 < 3 ∧ (perms.getD i []).getD 2 0 < 3 := by decide
theorem all3 {p : Nat → Prop} (h0 : p 0) (h1 : p 1) (h2 : p 2) : ∀ k, k < 3 → p k := fun k hk => by
  match k, hk with
  | 0, _ => exact h0
  | 1, _ => exact h1
  | 2, _ => exact h2
theorem spcF_fol {fl : List Env} {w : World} {D lo : Nat} {c : Code} {gl : List GenState} {E : List (Nat × Obj)} {Post : Nat → Result → List (Nat × Obj) → List GenState → Prop} (H : ∀ b1 b2, SpcF (fol b1 b2 w) fl D lo c gl E Post) : SpcF w fl D lo c gl E Post := by
  obtain ⟨b1, b2, e⟩ := fol_any w
  rw [e]
  exact H b1 b2
theorem bareL_app {gl : List GenState} {g : GenState} (h : bareL gl = true) (hg : g.bare = true) : bareL (gl ++ [g]) = true := by
  unfold bareL at h ⊢
  rw [List.all_append, h]
  show (g.bare && true) = true
  rw [hg]; rfl
/-- three rows S in their order, exchanged well -/
structure LwS (S : Nat → List Bool) (π : List Nat) : Prop where
  srt : Sorted (fun k => (cntT (S k) : Int)) π
  len : ∀ k, k < 3 → (S k).length = 7
  good : ∃ x, Good (S (π.getD 0 0)) (S (π.getD 1 0)) (S (π.getD 2 0)) x
/-- a ruler that says S -/
structure RlF (S : List Bool) (rl : List (Int × Nat)) : Prop where
  len : rl.length = 4
  cls : clsOf (rl.map (·.1)) ≠ none
  mr : marksB (rl.map (·.1)) = S
  sm : sumsB (rl.map (·.1)) = S
  pos : 0 ≤ (rl.map (·.1)).getD 0 0
  ne : (rl.map (·.1)).getD 0 0 ≠ 127
/-- around law -/
structure LwX (w : World) (A : Around) (R : Result → Shared → Prop) (h : Heap) (d : Drawn) (os : OsState) (sc e lo : Nat) (vs : List Value) (gl : List GenState) : Prop where
  hA : A.handled = none
  hF : A.frames = some []
  hdep : Room A 200
  Pr : Pre (ktw w) h [(sc + 178, lst vs e), (121, tab0)]
  K : ∀ h' c1 c2 gl' tk', lo ≤ tk' → Fra h h' [(sc + 178, lst vs e), (121, tab0)] [(sc + 178, lst vs e), (121, tab1 c1 c2)] → (bareL gl = true → bareL gl' = true) → R (.ok (.ret (.bool true))) ⟨h', ⟨gl'⟩, d, tk', os⟩
section
variable {b1 b2 : Bool} {w : World} {A : Around} {R : Result → Shared → Prop} {h : Heap} {d : Drawn} {os : OsState} {S : Nat → List Bool} {i : Nat}
theorem law_s13 (hi : i < 6) (HS : LwS S (perms.getD i [])) (Q : Lp) (X : LwX (fol b1 b2 w) A R h d os Q.sc Q.e (Q.U 0).tk Q.vs (Q.gs 0)) (h0 : 0 < (Q.U 0).tk) (le1 : (Q.U 0).tk ≤ (Q.U 1).tk) (hr : ∀ k, k < 3 → RlF (S k) (Q.rl k)) (le2 : (Q.U 1).tk ≤ (Q.U 2).tk) (ho0 : (Q.yo 0).map (·.1) = S 0) (bo0 : ∀ q ∈ Q.yo 0, InT (Q.U 2).tk q.2) (br0 : bareL (Q.gs 0) = true → bareL (Q.gs 1) = true) (le3 : (Q.U 2).tk ≤ (Q.U 3).tk) (ho1 : (Q.yo 1).map (·.1) = S 1) (bo1 : ∀ q ∈ Q.yo 1, InT (Q.U 3).tk q.2) (br1 : bareL (Q.gs 1) = true → bareL (Q.gs 2) = true) (le4 : (Q.U 3).tk ≤ (Q.U 4).tk) (ho2 : (Q.yo 2).map (·.1) = S 2) (bo2 : ∀ q ∈ Q.yo 2, InT (Q.U 4).tk q.2) (br2 : bareL (Q.gs 2) = true → bareL (Q.gs 3) = true) (le5 : (Q.U 4).tk ≤ (Q.U 5).tk) (hc0 : Q.c 0 = (cntT (S 0) : Int)) (le6 : (Q.U 5).tk ≤ (Q.U 6).tk) (hc1 : Q.c 1 = (cntT (S 1) : Int)) (le7 : (Q.U 6).tk ≤ (Q.U 7).tk) (hc2 : Q.c 2 = (cntT (S 2) : Int)) (le8 : (Q.U 7).tk ≤ (Q.U 8).tk) (le9 : (Q.U 8).tk ≤ (Q.U 9).tk) (hl0 : (Q.zo 0).map (·.1) = S 0) (le10 : (Q.U 9).tk ≤ (Q.U 10).tk) (hl1 : (Q.zo 1).map (·.1) = S 1) (le11 : (Q.U 10).tk ≤ (Q.U 11).tk) (hl2 : (Q.zo 2).map (·.1) = S 2) (le12 : (Q.U 11).tk ≤ (Q.U 12).tk) (le13 : (Q.U 12).tk ≤ (Q.U 13).tk) :
    SatX (vOf pw (fol b1 b2 w) A R) h ([(Q.sc + 178, lst Q.vs Q.e), (121, tab0)].map (·.1)) d os (Q.U 13).tk (lw13 b2 (fol b1 b2 w) Q.q (perms.getD i [])) := by
  exact sat_retV (lw_r13 b1 b2 w Q.q i hi) (by decide) fun h' tk' le F' => X.K h' Q.c1 Q.c2 _ _ (by omega) F' fun hb => br2 (br1 (br0 hb))
theorem law_s12 (hi : i < 6) (HS : LwS S (perms.getD i [])) (Q : Lp) (X : LwX (fol b1 b2 w) A R h d os Q.sc Q.e (Q.U 0).tk Q.vs (Q.gs 0)) (h0 : 0 < (Q.U 0).tk) (le1 : (Q.U 0).tk ≤ (Q.U 1).tk) (hr : ∀ k, k < 3 → RlF (S k) (Q.rl k)) (le2 : (Q.U 1).tk ≤ (Q.U 2).tk) (ho0 : (Q.yo 0).map (·.1) = S 0) (bo0 : ∀ q ∈ Q.yo 0, InT (Q.U 2).tk q.2) (br0 : bareL (Q.gs 0) = true → bareL (Q.gs 1) = true) (le3 : (Q.U 2).tk ≤ (Q.U 3).tk) (ho1 : (Q.yo 1).map (·.1) = S 1) (bo1 : ∀ q ∈ Q.yo 1, InT (Q.U 3).tk q.2) (br1 : bareL (Q.gs 1) = true → bareL (Q.gs 2) = true) (le4 : (Q.U 3).tk ≤ (Q.U 4).tk) (ho2 : (Q.yo 2).map (·.1) = S 2) (bo2 : ∀ q ∈ Q.yo 2, InT (Q.U 4).tk q.2) (br2 : bareL (Q.gs 2) = true → bareL (Q.gs 3) = true) (le5 : (Q.U 4).tk ≤ (Q.U 5).tk) (hc0 : Q.c 0 = (cntT (S 0) : Int)) (le6 : (Q.U 5).tk ≤ (Q.U 6).tk) (hc1 : Q.c 1 = (cntT (S 1) : Int)) (le7 : (Q.U 6).tk ≤ (Q.U 7).tk) (hc2 : Q.c 2 = (cntT (S 2) : Int)) (le8 : (Q.U 7).tk ≤ (Q.U 8).tk) (le9 : (Q.U 8).tk ≤ (Q.U 9).tk) (hl0 : (Q.zo 0).map (·.1) = S 0) (le10 : (Q.U 9).tk ≤ (Q.U 10).tk) (hl1 : (Q.zo 1).map (·.1) = S 1) (le11 : (Q.U 10).tk ≤ (Q.U 11).tk) (hl2 : (Q.zo 2).map (·.1) = S 2) (le12 : (Q.U 11).tk ≤ (Q.U 12).tk) :
    SatX (vOf pw (fol b1 b2 w) A R) h ([(Q.sc + 178, lst Q.vs Q.e), (121, tab0)].map (·.1)) d os (Q.U 12).tk (lw12 b2 (fol b1 b2 w) Q.q (perms.getD i [])) := by
  obtain ⟨nI, p0, p1, p2⟩ := lwI_nd i hi
  obtain ⟨x, GD⟩ := HS.good
  have hO : ∀ k, k < 3 → (Q.yo k).map (·.1) = S k := all3 ho0 ho1 ho2
  have hO7 : ∀ k, k < 3 → (Q.yo k).length = 7 := fun k hk => by rw [← HS.len k hk, ← hO k hk, List.length_map]
  rw [← hO _ p0, ← hO _ p1, ← hO _ p2] at GD
  refine sat_nx (D := 200) (lw_r12 b1 b2 w Q.q i hi) (exchanged_spec (fol b1 b2 w) (Q.U 12).tk (by omega) (Q.gs 3) (Q.ya ((perms.getD i []).getD 0 0)) (Q.ya ((perms.getD i []).getD 1 0)) (Q.ya ((perms.getD i []).getD 2 0)) 0 0 0 (Q.yo ((perms.getD i []).getD 0 0)) (Q.yo ((perms.getD i []).getD 1 0)) (Q.yo ((perms.getD i []).getD 2 0)) (hO7 _ p0) (hO7 _ p1) (hO7 _ p2) x GD) (Nat.le_refl _) nI (by decide) X.hA X.hdep X.Pr (fun _ _ _ _ ⟨_, _, _, _, _, _, h, _⟩ => h) (fun _ _ _ ⟨_, _, _, _, _, _, _, h⟩ => by rw [h]; exact ok_new rfl (lw_f12 b1 b2 w Q.q i hi)) ?_
  rintro _ _ U le ⟨c1, c2, a, b, rr, rfl, _, rfl⟩ _
  exact law_s13 hi HS { Q with st := 13, c1 := c1, c2 := c2, a := a, b := b, r := rr, U := fun k => cond (Nat.beq k 13) U (Q.U k) } X h0 le1 hr le2 ho0 bo0 br0 le3 ho1 bo1 br1 le4 ho2 bo2 br2 le5 hc0 le6 hc1 le7 hc2 le8 le9 hl0 le10 hl1 le11 hl2 le12 le
theorem law_s11 (hi : i < 6) (HS : LwS S (perms.getD i [])) (Q : Lp) (X : LwX (fol b1 b2 w) A R h d os Q.sc Q.e (Q.U 0).tk Q.vs (Q.gs 0)) (h0 : 0 < (Q.U 0).tk) (le1 : (Q.U 0).tk ≤ (Q.U 1).tk) (hr : ∀ k, k < 3 → RlF (S k) (Q.rl k)) (le2 : (Q.U 1).tk ≤ (Q.U 2).tk) (ho0 : (Q.yo 0).map (·.1) = S 0) (bo0 : ∀ q ∈ Q.yo 0, InT (Q.U 2).tk q.2) (br0 : bareL (Q.gs 0) = true → bareL (Q.gs 1) = true) (le3 : (Q.U 2).tk ≤ (Q.U 3).tk) (ho1 : (Q.yo 1).map (·.1) = S 1) (bo1 : ∀ q ∈ Q.yo 1, InT (Q.U 3).tk q.2) (br1 : bareL (Q.gs 1) = true → bareL (Q.gs 2) = true) (le4 : (Q.U 3).tk ≤ (Q.U 4).tk) (ho2 : (Q.yo 2).map (·.1) = S 2) (bo2 : ∀ q ∈ Q.yo 2, InT (Q.U 4).tk q.2) (br2 : bareL (Q.gs 2) = true → bareL (Q.gs 3) = true) (le5 : (Q.U 4).tk ≤ (Q.U 5).tk) (hc0 : Q.c 0 = (cntT (S 0) : Int)) (le6 : (Q.U 5).tk ≤ (Q.U 6).tk) (hc1 : Q.c 1 = (cntT (S 1) : Int)) (le7 : (Q.U 6).tk ≤ (Q.U 7).tk) (hc2 : Q.c 2 = (cntT (S 2) : Int)) (le8 : (Q.U 7).tk ≤ (Q.U 8).tk) (le9 : (Q.U 8).tk ≤ (Q.U 9).tk) (hl0 : (Q.zo 0).map (·.1) = S 0) (le10 : (Q.U 9).tk ≤ (Q.U 10).tk) (hl1 : (Q.zo 1).map (·.1) = S 1) (le11 : (Q.U 10).tk ≤ (Q.U 11).tk) (hl2 : (Q.zo 2).map (·.1) = S 2) :
    SatX (vOf pw (fol b1 b2 w) A R) h ([(Q.sc + 178, lst Q.vs Q.e), (121, tab0)].map (·.1)) d os (Q.U 11).tk (lw11 b2 (fol b1 b2 w) Q.q (perms.getD i [])) := by
  refine sat_nx (D := 200) (lw_r11 b1 b2 w Q.q i hi) (rows_ne (fol b1 b2 w) 0 (Q.gs 3) ((Q.U 1).n + 1) ((Q.U 8).n + 1) Q.ya Q.za Q.yo Q.zo Q.zm (all3 (ho0.trans hl0.symm) (ho1.trans hl1.symm) (ho2.trans hl2.symm))) (Nat.zero_le _) (by decide) (by decide) X.hA X.hdep X.Pr (fun _ _ _ _ h => h.2.2) (fun _ _ _ h => by rw [h.2.1]; exact ok_same _ _ rfl rfl) ?_
  rintro _ _ U le ⟨rfl, rfl, _⟩ _
  exact law_s12 hi HS { Q with st := 12, U := fun k => cond (Nat.beq k 12) U (Q.U k) } X h0 le1 hr le2 ho0 bo0 br0 le3 ho1 bo1 br1 le4 ho2 bo2 br2 le5 hc0 le6 hc1 le7 hc2 le8 le9 hl0 le10 hl1 le11 hl2 le
theorem law_s10 (hi : i < 6) (HS : LwS S (perms.getD i [])) (Q : Lp) (X : LwX (fol b1 b2 w) A R h d os Q.sc Q.e (Q.U 0).tk Q.vs (Q.gs 0)) (h0 : 0 < (Q.U 0).tk) (le1 : (Q.U 0).tk ≤ (Q.U 1).tk) (hr : ∀ k, k < 3 → RlF (S k) (Q.rl k)) (le2 : (Q.U 1).tk ≤ (Q.U 2).tk) (ho0 : (Q.yo 0).map (·.1) = S 0) (bo0 : ∀ q ∈ Q.yo 0, InT (Q.U 2).tk q.2) (br0 : bareL (Q.gs 0) = true → bareL (Q.gs 1) = true) (le3 : (Q.U 2).tk ≤ (Q.U 3).tk) (ho1 : (Q.yo 1).map (·.1) = S 1) (bo1 : ∀ q ∈ Q.yo 1, InT (Q.U 3).tk q.2) (br1 : bareL (Q.gs 1) = true → bareL (Q.gs 2) = true) (le4 : (Q.U 3).tk ≤ (Q.U 4).tk) (ho2 : (Q.yo 2).map (·.1) = S 2) (bo2 : ∀ q ∈ Q.yo 2, InT (Q.U 4).tk q.2) (br2 : bareL (Q.gs 2) = true → bareL (Q.gs 3) = true) (le5 : (Q.U 4).tk ≤ (Q.U 5).tk) (hc0 : Q.c 0 = (cntT (S 0) : Int)) (le6 : (Q.U 5).tk ≤ (Q.U 6).tk) (hc1 : Q.c 1 = (cntT (S 1) : Int)) (le7 : (Q.U 6).tk ≤ (Q.U 7).tk) (hc2 : Q.c 2 = (cntT (S 2) : Int)) (le8 : (Q.U 7).tk ≤ (Q.U 8).tk) (le9 : (Q.U 8).tk ≤ (Q.U 9).tk) (hl0 : (Q.zo 0).map (·.1) = S 0) (le10 : (Q.U 9).tk ≤ (Q.U 10).tk) (hl1 : (Q.zo 1).map (·.1) = S 1) :
    SatX (vOf pw (fol b1 b2 w) A R) h ([(Q.sc + 178, lst Q.vs Q.e), (121, tab0)].map (·.1)) d os (Q.U 10).tk (lw10 b2 (fol b1 b2 w) Q.q (perms.getD i [])) := by
  have H := hr 2 (by decide)
  refine sat_nx (D := 200) (lw_r10 b1 b2 w Q.q i hi) (sums_spec (fol b1 b2 w) (Q.U 10).tk (by omega) (Q.gs 3) (Q.ra 2) 0 (Q.rl 2) H.len H.pos H.ne) (Nat.le_refl _) (by decide) (by decide) X.hA X.hdep X.Pr (fun _ _ _ _ ⟨_, _, _, _, h, _⟩ => h) (fun _ _ _ ⟨_, _, _, _, _, h, _⟩ => by rw [h]; exact ok_new rfl (lw_f10 b1 b2 w Q.q i hi)) ?_
  rintro _ _ U le ⟨z, m, l, rfl, _, rfl, hl, _⟩ _
  exact law_s11 hi HS { Q with st := 11, za := fun k => cond (Nat.beq k 2) z (Q.za k), zo := fun k => cond (Nat.beq k 2) l (Q.zo k), zm := fun k => cond (Nat.beq k 2) m (Q.zm k), U := fun k => cond (Nat.beq k 11) U (Q.U k) } X h0 le1 hr le2 ho0 bo0 br0 le3 ho1 bo1 br1 le4 ho2 bo2 br2 le5 hc0 le6 hc1 le7 hc2 le8 le9 hl0 le10 hl1 le (hl.trans H.sm)
theorem law_s9 (hi : i < 6) (HS : LwS S (perms.getD i [])) (Q : Lp) (X : LwX (fol b1 b2 w) A R h d os Q.sc Q.e (Q.U 0).tk Q.vs (Q.gs 0)) (h0 : 0 < (Q.U 0).tk) (le1 : (Q.U 0).tk ≤ (Q.U 1).tk) (hr : ∀ k, k < 3 → RlF (S k) (Q.rl k)) (le2 : (Q.U 1).tk ≤ (Q.U 2).tk) (ho0 : (Q.yo 0).map (·.1) = S 0) (bo0 : ∀ q ∈ Q.yo 0, InT (Q.U 2).tk q.2) (br0 : bareL (Q.gs 0) = true → bareL (Q.gs 1) = true) (le3 : (Q.U 2).tk ≤ (Q.U 3).tk) (ho1 : (Q.yo 1).map (·.1) = S 1) (bo1 : ∀ q ∈ Q.yo 1, InT (Q.U 3).tk q.2) (br1 : bareL (Q.gs 1) = true → bareL (Q.gs 2) = true) (le4 : (Q.U 3).tk ≤ (Q.U 4).tk) (ho2 : (Q.yo 2).map (·.1) = S 2) (bo2 : ∀ q ∈ Q.yo 2, InT (Q.U 4).tk q.2) (br2 : bareL (Q.gs 2) = true → bareL (Q.gs 3) = true) (le5 : (Q.U 4).tk ≤ (Q.U 5).tk) (hc0 : Q.c 0 = (cntT (S 0) : Int)) (le6 : (Q.U 5).tk ≤ (Q.U 6).tk) (hc1 : Q.c 1 = (cntT (S 1) : Int)) (le7 : (Q.U 6).tk ≤ (Q.U 7).tk) (hc2 : Q.c 2 = (cntT (S 2) : Int)) (le8 : (Q.U 7).tk ≤ (Q.U 8).tk) (le9 : (Q.U 8).tk ≤ (Q.U 9).tk) (hl0 : (Q.zo 0).map (·.1) = S 0) :
    SatX (vOf pw (fol b1 b2 w) A R) h ([(Q.sc + 178, lst Q.vs Q.e), (121, tab0)].map (·.1)) d os (Q.U 9).tk (lw9 b2 (fol b1 b2 w) Q.q (perms.getD i [])) := by
  have H := hr 1 (by decide)
  refine sat_nx (D := 200) (lw_r9 b1 b2 w Q.q i hi) (sums_spec (fol b1 b2 w) (Q.U 9).tk (by omega) (Q.gs 3) (Q.ra 1) 0 (Q.rl 1) H.len H.pos H.ne) (Nat.le_refl _) (by decide) (by decide) X.hA X.hdep X.Pr (fun _ _ _ _ ⟨_, _, _, _, h, _⟩ => h) (fun _ _ _ ⟨_, _, _, _, _, h, _⟩ => by rw [h]; exact ok_new rfl (lw_f9 b1 b2 w Q.q i hi)) ?_
  rintro _ _ U le ⟨z, m, l, rfl, _, rfl, hl, _⟩ _
  exact law_s10 hi HS { Q with st := 10, za := fun k => cond (Nat.beq k 1) z (Q.za k), zo := fun k => cond (Nat.beq k 1) l (Q.zo k), zm := fun k => cond (Nat.beq k 1) m (Q.zm k), U := fun k => cond (Nat.beq k 10) U (Q.U k) } X h0 le1 hr le2 ho0 bo0 br0 le3 ho1 bo1 br1 le4 ho2 bo2 br2 le5 hc0 le6 hc1 le7 hc2 le8 le9 hl0 le (hl.trans H.sm)
theorem law_s8 (hi : i < 6) (HS : LwS S (perms.getD i [])) (Q : Lp) (X : LwX (fol b1 b2 w) A R h d os Q.sc Q.e (Q.U 0).tk Q.vs (Q.gs 0)) (h0 : 0 < (Q.U 0).tk) (le1 : (Q.U 0).tk ≤ (Q.U 1).tk) (hr : ∀ k, k < 3 → RlF (S k) (Q.rl k)) (le2 : (Q.U 1).tk ≤ (Q.U 2).tk) (ho0 : (Q.yo 0).map (·.1) = S 0) (bo0 : ∀ q ∈ Q.yo 0, InT (Q.U 2).tk q.2) (br0 : bareL (Q.gs 0) = true → bareL (Q.gs 1) = true) (le3 : (Q.U 2).tk ≤ (Q.U 3).tk) (ho1 : (Q.yo 1).map (·.1) = S 1) (bo1 : ∀ q ∈ Q.yo 1, InT (Q.U 3).tk q.2) (br1 : bareL (Q.gs 1) = true → bareL (Q.gs 2) = true) (le4 : (Q.U 3).tk ≤ (Q.U 4).tk) (ho2 : (Q.yo 2).map (·.1) = S 2) (bo2 : ∀ q ∈ Q.yo 2, InT (Q.U 4).tk q.2) (br2 : bareL (Q.gs 2) = true → bareL (Q.gs 3) = true) (le5 : (Q.U 4).tk ≤ (Q.U 5).tk) (hc0 : Q.c 0 = (cntT (S 0) : Int)) (le6 : (Q.U 5).tk ≤ (Q.U 6).tk) (hc1 : Q.c 1 = (cntT (S 1) : Int)) (le7 : (Q.U 6).tk ≤ (Q.U 7).tk) (hc2 : Q.c 2 = (cntT (S 2) : Int)) (le8 : (Q.U 7).tk ≤ (Q.U 8).tk) :
    SatX (vOf pw (fol b1 b2 w) A R) h ([(Q.sc + 178, lst Q.vs Q.e), (121, tab0)].map (·.1)) d os (Q.U 8).tk (lw8 b2 (fol b1 b2 w) Q.q (perms.getD i [])) := by
  have H := hr 0 (by decide)
  refine sat_nx (D := 200) (lw_r8 b1 b2 w Q.q i hi) (sums_spec (fol b1 b2 w) (Q.U 8).tk (by omega) (Q.gs 3) (Q.ra 0) 0 (Q.rl 0) H.len H.pos H.ne) (Nat.le_refl _) (by decide) (by decide) X.hA X.hdep X.Pr (fun _ _ _ _ ⟨_, _, _, _, h, _⟩ => h) (fun _ _ _ ⟨_, _, _, _, _, h, _⟩ => by rw [h]; exact ok_new rfl (lw_f8 b1 b2 w Q.q i hi)) ?_
  rintro _ _ U le ⟨z, m, l, rfl, _, rfl, hl, _⟩ _
  exact law_s9 hi HS { Q with st := 9, za := fun k => cond (Nat.beq k 0) z (Q.za k), zo := fun k => cond (Nat.beq k 0) l (Q.zo k), zm := fun k => cond (Nat.beq k 0) m (Q.zm k), U := fun k => cond (Nat.beq k 9) U (Q.U k) } X h0 le1 hr le2 ho0 bo0 br0 le3 ho1 bo1 br1 le4 ho2 bo2 br2 le5 hc0 le6 hc1 le7 hc2 le8 le (hl.trans H.sm)
theorem law_s7 (hi : i < 6) (HS : LwS S (perms.getD i [])) (Q : Lp) (X : LwX (fol b1 b2 w) A R h d os Q.sc Q.e (Q.U 0).tk Q.vs (Q.gs 0)) (h0 : 0 < (Q.U 0).tk) (le1 : (Q.U 0).tk ≤ (Q.U 1).tk) (hr : ∀ k, k < 3 → RlF (S k) (Q.rl k)) (le2 : (Q.U 1).tk ≤ (Q.U 2).tk) (ho0 : (Q.yo 0).map (·.1) = S 0) (bo0 : ∀ q ∈ Q.yo 0, InT (Q.U 2).tk q.2) (br0 : bareL (Q.gs 0) = true → bareL (Q.gs 1) = true) (le3 : (Q.U 2).tk ≤ (Q.U 3).tk) (ho1 : (Q.yo 1).map (·.1) = S 1) (bo1 : ∀ q ∈ Q.yo 1, InT (Q.U 3).tk q.2) (br1 : bareL (Q.gs 1) = true → bareL (Q.gs 2) = true) (le4 : (Q.U 3).tk ≤ (Q.U 4).tk) (ho2 : (Q.yo 2).map (·.1) = S 2) (bo2 : ∀ q ∈ Q.yo 2, InT (Q.U 4).tk q.2) (br2 : bareL (Q.gs 2) = true → bareL (Q.gs 3) = true) (le5 : (Q.U 4).tk ≤ (Q.U 5).tk) (hc0 : Q.c 0 = (cntT (S 0) : Int)) (le6 : (Q.U 5).tk ≤ (Q.U 6).tk) (hc1 : Q.c 1 = (cntT (S 1) : Int)) (le7 : (Q.U 6).tk ≤ (Q.U 7).tk) (hc2 : Q.c 2 = (cntT (S 2) : Int)) :
    SatX (vOf pw (fol b1 b2 w) A R) h ([(Q.sc + 178, lst Q.vs Q.e), (121, tab0)].map (·.1)) d os (Q.U 7).tk (lw7 b2 (fol b1 b2 w) Q.q (perms.getD i [])) := by
  have hs : Sorted Q.c (perms.getD i []) := sorted_congr HS.srt (all3 hc0.symm hc1.symm hc2.symm)
  refine sat_nx (D := 200) (lw_r7 b1 b2 w Q.q i hi) (sorted_spec (fol b1 b2 w) 0 (Q.gs 3) ((Q.U 4).n + 4 + 178) 3 (lwT Q.q) Q.c Q.ct (fun k => cond (Nat.beq k 0) ((Q.U 4).tk + 3) (Q.U (4 + k)).tk) _ hs) (Nat.zero_le _) (by decide) (by decide) X.hA X.hdep X.Pr (fun _ _ _ _ ⟨_, _, _, h, _⟩ => h) (fun _ _ _ ⟨_, _, _, _, h⟩ => by rw [h]; exact ok_new rfl (lw_f7 b1 b2 w Q.q i hi)) ?_
  rintro _ _ U le ⟨x', nx', rfl, _, rfl⟩ hy
  obtain ⟨xl, hy⟩ := hy (x', _) (.head _)
  dsimp only at hy
  subst hy
  exact law_s8 hi HS { Q with st := 8, x := xl, n := nx', U := fun k => cond (Nat.beq k 8) U (Q.U k) } X h0 le1 hr le2 ho0 bo0 br0 le3 ho1 bo1 br1 le4 ho2 bo2 br2 le5 hc0 le6 hc1 le7 hc2 le
theorem law_s6 (hi : i < 6) (HS : LwS S (perms.getD i [])) (Q : Lp) (X : LwX (fol b1 b2 w) A R h d os Q.sc Q.e (Q.U 0).tk Q.vs (Q.gs 0)) (h0 : 0 < (Q.U 0).tk) (le1 : (Q.U 0).tk ≤ (Q.U 1).tk) (hr : ∀ k, k < 3 → RlF (S k) (Q.rl k)) (le2 : (Q.U 1).tk ≤ (Q.U 2).tk) (ho0 : (Q.yo 0).map (·.1) = S 0) (bo0 : ∀ q ∈ Q.yo 0, InT (Q.U 2).tk q.2) (br0 : bareL (Q.gs 0) = true → bareL (Q.gs 1) = true) (le3 : (Q.U 2).tk ≤ (Q.U 3).tk) (ho1 : (Q.yo 1).map (·.1) = S 1) (bo1 : ∀ q ∈ Q.yo 1, InT (Q.U 3).tk q.2) (br1 : bareL (Q.gs 1) = true → bareL (Q.gs 2) = true) (le4 : (Q.U 3).tk ≤ (Q.U 4).tk) (ho2 : (Q.yo 2).map (·.1) = S 2) (bo2 : ∀ q ∈ Q.yo 2, InT (Q.U 4).tk q.2) (br2 : bareL (Q.gs 2) = true → bareL (Q.gs 3) = true) (le5 : (Q.U 4).tk ≤ (Q.U 5).tk) (hc0 : Q.c 0 = (cntT (S 0) : Int)) (le6 : (Q.U 5).tk ≤ (Q.U 6).tk) (hc1 : Q.c 1 = (cntT (S 1) : Int)) :
    SatX (vOf pw (fol b1 b2 w) A R) h ([(Q.sc + 178, lst Q.vs Q.e), (121, tab0)].map (·.1)) d os (Q.U 6).tk (lw6 b2 (fol b1 b2 w) Q.q (perms.getD i [])) := by
  refine sat_nx (D := 200) (lw_r6 b1 b2 w Q.q i hi) (cnt_bits (fol b1 b2 w) (Q.U 6).tk (by omega) (Q.gs 3) (Q.ya 2) 0 (Q.yo 2) (fun x hx => (bo2 x hx).mono (by omega)) ((Q.U 6).tk + 2) (by omega)) (Nat.le_refl _) (by decide) (by decide) X.hA X.hdep X.Pr (fun _ _ _ _ ⟨_, _, _, h, _⟩ => h) (fun _ _ _ ⟨_, _, h, _⟩ => by rw [h]; exact ok_same _ _ rfl rfl) ?_
  rintro _ _ U le ⟨u, rfl, rfl, _, _⟩ _
  rw [ho2]
  exact law_s7 hi HS { Q with st := 7, c := fun k => cond (Nat.beq k 2) (cntT (S 2) : Int) (Q.c k), ct := fun k => cond (Nat.beq k 2) u (Q.ct k), U := fun k => cond (Nat.beq k 7) U (Q.U k) } X h0 le1 hr le2 ho0 bo0 br0 le3 ho1 bo1 br1 le4 ho2 bo2 br2 le5 hc0 le6 hc1 le rfl
theorem law_s5 (hi : i < 6) (HS : LwS S (perms.getD i [])) (Q : Lp) (X : LwX (fol b1 b2 w) A R h d os Q.sc Q.e (Q.U 0).tk Q.vs (Q.gs 0)) (h0 : 0 < (Q.U 0).tk) (le1 : (Q.U 0).tk ≤ (Q.U 1).tk) (hr : ∀ k, k < 3 → RlF (S k) (Q.rl k)) (le2 : (Q.U 1).tk ≤ (Q.U 2).tk) (ho0 : (Q.yo 0).map (·.1) = S 0) (bo0 : ∀ q ∈ Q.yo 0, InT (Q.U 2).tk q.2) (br0 : bareL (Q.gs 0) = true → bareL (Q.gs 1) = true) (le3 : (Q.U 2).tk ≤ (Q.U 3).tk) (ho1 : (Q.yo 1).map (·.1) = S 1) (bo1 : ∀ q ∈ Q.yo 1, InT (Q.U 3).tk q.2) (br1 : bareL (Q.gs 1) = true → bareL (Q.gs 2) = true) (le4 : (Q.U 3).tk ≤ (Q.U 4).tk) (ho2 : (Q.yo 2).map (·.1) = S 2) (bo2 : ∀ q ∈ Q.yo 2, InT (Q.U 4).tk q.2) (br2 : bareL (Q.gs 2) = true → bareL (Q.gs 3) = true) (le5 : (Q.U 4).tk ≤ (Q.U 5).tk) (hc0 : Q.c 0 = (cntT (S 0) : Int)) :
    SatX (vOf pw (fol b1 b2 w) A R) h ([(Q.sc + 178, lst Q.vs Q.e), (121, tab0)].map (·.1)) d os (Q.U 5).tk (lw5 b2 (fol b1 b2 w) Q.q (perms.getD i [])) := by
  refine sat_nx (D := 200) (lw_r5 b1 b2 w Q.q i hi) (cnt_bits (fol b1 b2 w) (Q.U 5).tk (by omega) (Q.gs 3) (Q.ya 1) 0 (Q.yo 1) (fun x hx => (bo1 x hx).mono (by omega)) ((Q.U 5).tk + 2) (by omega)) (Nat.le_refl _) (by decide) (by decide) X.hA X.hdep X.Pr (fun _ _ _ _ ⟨_, _, _, h, _⟩ => h) (fun _ _ _ ⟨_, _, h, _⟩ => by rw [h]; exact ok_same _ _ rfl rfl) ?_
  rintro _ _ U le ⟨u, rfl, rfl, _, _⟩ _
  rw [ho1]
  exact law_s6 hi HS { Q with st := 6, c := fun k => cond (Nat.beq k 1) (cntT (S 1) : Int) (Q.c k), ct := fun k => cond (Nat.beq k 1) u (Q.ct k), U := fun k => cond (Nat.beq k 6) U (Q.U k) } X h0 le1 hr le2 ho0 bo0 br0 le3 ho1 bo1 br1 le4 ho2 bo2 br2 le5 hc0 le rfl
theorem law_s4 (hi : i < 6) (HS : LwS S (perms.getD i [])) (Q : Lp) (X : LwX (fol b1 b2 w) A R h d os Q.sc Q.e (Q.U 0).tk Q.vs (Q.gs 0)) (h0 : 0 < (Q.U 0).tk) (le1 : (Q.U 0).tk ≤ (Q.U 1).tk) (hr : ∀ k, k < 3 → RlF (S k) (Q.rl k)) (le2 : (Q.U 1).tk ≤ (Q.U 2).tk) (ho0 : (Q.yo 0).map (·.1) = S 0) (bo0 : ∀ q ∈ Q.yo 0, InT (Q.U 2).tk q.2) (br0 : bareL (Q.gs 0) = true → bareL (Q.gs 1) = true) (le3 : (Q.U 2).tk ≤ (Q.U 3).tk) (ho1 : (Q.yo 1).map (·.1) = S 1) (bo1 : ∀ q ∈ Q.yo 1, InT (Q.U 3).tk q.2) (br1 : bareL (Q.gs 1) = true → bareL (Q.gs 2) = true) (le4 : (Q.U 3).tk ≤ (Q.U 4).tk) (ho2 : (Q.yo 2).map (·.1) = S 2) (bo2 : ∀ q ∈ Q.yo 2, InT (Q.U 4).tk q.2) (br2 : bareL (Q.gs 2) = true → bareL (Q.gs 3) = true) :
    SatX (vOf pw (fol b1 b2 w) A R) h ([(Q.sc + 178, lst Q.vs Q.e), (121, tab0)].map (·.1)) d os (Q.U 4).tk (lw4 b2 (fol b1 b2 w) Q.q (perms.getD i [])) := by
  refine sat_nx (D := 200) (lw_r4 b1 b2 w Q.q i hi) (cnt_bits (fol b1 b2 w) (Q.U 4).tk (by omega) (Q.gs 3) (Q.ya 0) 0 (Q.yo 0) (fun x hx => (bo0 x hx).mono (by omega)) ((Q.U 4).tk + 5) (by omega)) (Nat.le_refl _) (by decide) (by decide) X.hA X.hdep X.Pr (fun _ _ _ _ ⟨_, _, _, h, _⟩ => h) (fun _ _ _ ⟨_, _, h, _⟩ => by rw [h]; exact ok_same _ _ rfl rfl) ?_
  rintro _ _ U le ⟨u, rfl, rfl, _, _⟩ _
  rw [ho0]
  exact law_s5 hi HS { Q with st := 5, c := fun k => cond (Nat.beq k 0) (cntT (S 0) : Int) (Q.c k), ct := fun k => cond (Nat.beq k 0) u (Q.ct k), U := fun k => cond (Nat.beq k 5) U (Q.U k) } X h0 le1 hr le2 ho0 bo0 br0 le3 ho1 bo1 br1 le4 ho2 bo2 br2 le rfl
theorem law_s3 (hi : i < 6) (HS : LwS S (perms.getD i [])) (Q : Lp) (X : LwX (fol b1 b2 w) A R h d os Q.sc Q.e (Q.U 0).tk Q.vs (Q.gs 0)) (h0 : 0 < (Q.U 0).tk) (le1 : (Q.U 0).tk ≤ (Q.U 1).tk) (hr : ∀ k, k < 3 → RlF (S k) (Q.rl k)) (le2 : (Q.U 1).tk ≤ (Q.U 2).tk) (ho0 : (Q.yo 0).map (·.1) = S 0) (bo0 : ∀ q ∈ Q.yo 0, InT (Q.U 2).tk q.2) (br0 : bareL (Q.gs 0) = true → bareL (Q.gs 1) = true) (le3 : (Q.U 2).tk ≤ (Q.U 3).tk) (ho1 : (Q.yo 1).map (·.1) = S 1) (bo1 : ∀ q ∈ Q.yo 1, InT (Q.U 3).tk q.2) (br1 : bareL (Q.gs 1) = true → bareL (Q.gs 2) = true) :
    SatX (vOf pw (fol b1 b2 w) A R) h ([(Q.sc + 178, lst Q.vs Q.e), (121, tab0)].map (·.1)) d os (Q.U 3).tk (lw3 b2 (fol b1 b2 w) Q.q (perms.getD i [])) := by
  have H := hr 2 (by decide)
  refine sat_nxF (D := 200) (l := []) (lw_r3 b1 b2 w Q.q i hi) X.hF (lw_k3 b1 b2 w Q.q i hi) (marks_spec (fol b1 b2 w) (Q.gs 2) (Q.ra 2) 0 (Q.U 0).n ((Q.U 0).n + 1 + 178) (lwL (fol b1 b2 w) Q.q) 2 (Q.sl 2) (Q.rl 2) H.len H.cls) (Nat.zero_le _) (by decide) (by decide) X.hA X.hdep X.Pr (fun _ _ _ _ ⟨_, _, _, _, _, _, h, _, _⟩ => by rw [h]; exact ok_new rfl (lw_f3 b1 b2 w Q.q i hi)) ?_
  rintro _ _ _ U le ⟨y, ol, g, s, rfl, rfl, rfl, ho, br, bo⟩ _
  exact law_s4 hi HS { Q with st := 4, sl := fun k => cond (Nat.beq k 3) s (Q.sl k), ya := fun k => cond (Nat.beq k 2) y (Q.ya k), yo := fun k => cond (Nat.beq k 2) ol (Q.yo k), gs := fun k => cond (Nat.beq k 3) (Q.gs 2 ++ [g]) (Q.gs k), U := fun k => cond (Nat.beq k 4) U (Q.U k) } X h0 le1 hr le2 ho0 bo0 br0 le3 ho1 bo1 br1 le (ho.trans H.mr) bo (fun hb => bareL_app hb br)
theorem law_s2 (hi : i < 6) (HS : LwS S (perms.getD i [])) (Q : Lp) (X : LwX (fol b1 b2 w) A R h d os Q.sc Q.e (Q.U 0).tk Q.vs (Q.gs 0)) (h0 : 0 < (Q.U 0).tk) (le1 : (Q.U 0).tk ≤ (Q.U 1).tk) (hr : ∀ k, k < 3 → RlF (S k) (Q.rl k)) (le2 : (Q.U 1).tk ≤ (Q.U 2).tk) (ho0 : (Q.yo 0).map (·.1) = S 0) (bo0 : ∀ q ∈ Q.yo 0, InT (Q.U 2).tk q.2) (br0 : bareL (Q.gs 0) = true → bareL (Q.gs 1) = true) :
    SatX (vOf pw (fol b1 b2 w) A R) h ([(Q.sc + 178, lst Q.vs Q.e), (121, tab0)].map (·.1)) d os (Q.U 2).tk (lw2 b2 (fol b1 b2 w) Q.q (perms.getD i [])) := by
  have H := hr 1 (by decide)
  refine sat_nxF (D := 200) (l := []) (lw_r2 b1 b2 w Q.q i hi) X.hF (lw_k2 b1 b2 w Q.q i hi) (marks_spec (fol b1 b2 w) (Q.gs 1) (Q.ra 1) 0 (Q.U 0).n ((Q.U 0).n + 1 + 178) (lwL (fol b1 b2 w) Q.q) 2 (Q.sl 1) (Q.rl 1) H.len H.cls) (Nat.zero_le _) (by decide) (by decide) X.hA X.hdep X.Pr (fun _ _ _ _ ⟨_, _, _, _, _, _, h, _, _⟩ => by rw [h]; exact ok_new rfl (lw_f2 b1 b2 w Q.q i hi)) ?_
  rintro _ _ _ U le ⟨y, ol, g, s, rfl, rfl, rfl, ho, br, bo⟩ _
  exact law_s3 hi HS { Q with st := 3, sl := fun k => cond (Nat.beq k 2) s (Q.sl k), ya := fun k => cond (Nat.beq k 1) y (Q.ya k), yo := fun k => cond (Nat.beq k 1) ol (Q.yo k), gs := fun k => cond (Nat.beq k 2) (Q.gs 1 ++ [g]) (Q.gs k), U := fun k => cond (Nat.beq k 3) U (Q.U k) } X h0 le1 hr le2 ho0 bo0 br0 le (ho.trans H.mr) bo (fun hb => bareL_app hb br)
theorem law_s1 (hi : i < 6) (HS : LwS S (perms.getD i [])) (Q : Lp) (X : LwX (fol b1 b2 w) A R h d os Q.sc Q.e (Q.U 0).tk Q.vs (Q.gs 0)) (h0 : 0 < (Q.U 0).tk) (le1 : (Q.U 0).tk ≤ (Q.U 1).tk) (hr : ∀ k, k < 3 → RlF (S k) (Q.rl k)) :
    SatX (vOf pw (fol b1 b2 w) A R) h ([(Q.sc + 178, lst Q.vs Q.e), (121, tab0)].map (·.1)) d os (Q.U 1).tk (lw1 b2 (fol b1 b2 w) Q.q (perms.getD i [])) := by
  have H := hr 0 (by decide)
  refine sat_nxF (D := 200) (l := []) (lw_r1 b1 b2 w Q.q i hi) X.hF (lw_k1 b1 b2 w Q.q i hi) (marks_spec (fol b1 b2 w) (Q.gs 0) (Q.ra 0) 0 (Q.U 0).n ((Q.U 0).n + 1 + 178) (lwL (fol b1 b2 w) Q.q) 2 #[] (Q.rl 0) H.len H.cls) (Nat.zero_le _) (by decide) (by decide) X.hA X.hdep X.Pr (fun _ _ _ _ ⟨_, _, _, _, _, _, h, _, _⟩ => by rw [h]; exact ok_new rfl (lw_f1 b1 b2 w Q.q i hi)) ?_
  rintro _ _ _ U le ⟨y, ol, g, s, rfl, rfl, rfl, ho, br, bo⟩ _
  exact law_s2 hi HS { Q with st := 2, sl := fun k => cond (Nat.beq k 1) s (Q.sl k), ya := fun k => cond (Nat.beq k 0) y (Q.ya k), yo := fun k => cond (Nat.beq k 0) ol (Q.yo k), gs := fun k => cond (Nat.beq k 1) (Q.gs 0 ++ [g]) (Q.gs k), U := fun k => cond (Nat.beq k 2) U (Q.U k) } X h0 le1 hr le (ho.trans H.mr) bo (fun hb => bareL_app hb br)
theorem law_s0 (hi : i < 6) (HS : LwS S (perms.getD i [])) (Q : Lp) (xs : List (Int × Nat)) (hx : xs.length ≤ 1000) (hv : Q.vs = xs.map ivv) (hs : ∀ k, k < 3 → ∀ rl : List (Int × Nat), rl.length = 4 → rl.map (·.1) = rulerOf ((cellsOf (xs.map (·.1))).getD k 0) → RlF (S k) rl) (X : LwX (fol b1 b2 w) A R h d os Q.sc Q.e (Q.U 0).tk Q.vs (Q.gs 0)) (h0 : 0 < (Q.U 0).tk) :
    SatX (vOf pw (fol b1 b2 w) A R) h ([(Q.sc + 178, lst Q.vs Q.e), (121, tab0)].map (·.1)) d os (Q.U 0).tk (lw0 b2 (fol b1 b2 w) Q.q (perms.getD i [])) := by
  have C := rulers_spec (fol b1 b2 w) 0 (Q.gs 0) Q.sc Q.e xs hx
  unfold RulPost at C
  rw [← hv] at C
  refine sat_nx (D := 200) (lw_r0 b1 b2 w Q.q i hi) C (Nat.zero_le _) (by decide) (by decide) X.hA X.hdep X.Pr (fun _ _ _ _ ⟨_, _, _, _, h, _⟩ => h) (fun _ _ _ ⟨_, _, _, _, _, _, h⟩ => by rw [h]; exact ok_new rfl (lw_f0 b1 b2 w Q.q i hi)) ?_
  rintro _ _ U le ⟨y, ra, rls, rfl, _, hr, rfl⟩ _
  exact law_s1 hi HS { Q with st := 1, y := y, ra := ra, rl := rls, U := fun k => cond (Nat.beq k 1) U (Q.U k) } X h0 le (fun k hk => hs k hk _ (hr k hk).1 (hr k hk).2)
end
theorem law_spec (w : World) (lo : Nat) (h0 : 0 < lo) (gl : List GenState) (sc e : Nat) (xs : List (Int × Nat)) (hx : xs.length ≤ 1000) (LO : LawOk (xs.map (·.1))) :
    SpcF w [] 200 lo (lawC sc) gl [(sc + 178, lst (xs.map ivv) e), (121, tab0)] (fun _ r E2 gl2 => r = .ok (.ret (.bool true)) ∧ (∃ c1 c2, E2 = [(sc + 178, lst (xs.map ivv) e), (121, tab1 c1 c2)]) ∧ (bareL gl = true → bareL gl2 = true)) := by
  obtain ⟨π, hπ⟩ := sorted_any (fun k => (cntT (sumsB (rulerOf ((cellsOf (xs.map (·.1))).getD k 0))) : Int))
  obtain ⟨i, hi, ei⟩ := perms_at hπ.1
  subst ei
  refine spcF_fol fun b1 b2 => ?_
  refine spcF_of spLw lwCx 4000 (lwOc b2 (perms.getD i [])) 2 rfl (by kernel_rfl) (by decide) fun A R h d tk os hA hF hdep Pr hlo K n P B => ?_
  let Q0 : Lp := ⟨0, sc, e, xs.map ivv, 0, fun _ => 0, fun _ => [], fun _ => #[], fun _ => 0, fun _ => [], fun _ => gl, fun _ => 0, fun _ => 0, 0, 0, fun _ => 0, fun _ => [], fun _ => 0, 0, 0, 0, 0, [], fun _ => ⟨n, tk, P, B⟩⟩
  have HS : LwS (fun k => sumsB (rulerOf ((cellsOf (xs.map (·.1))).getD k 0))) (perms.getD i []) := ⟨hπ, LO.len, LO.good _ hπ⟩
  have RF : ∀ k, k < 3 → ∀ rl : List (Int × Nat), rl.length = 4 → rl.map (·.1) = rulerOf ((cellsOf (xs.map (·.1))).getD k 0) → RlF (sumsB (rulerOf ((cellsOf (xs.map (·.1))).getD k 0))) rl := fun k hk rl h4 he => ⟨h4, by rw [he]; exact LO.cls k hk, by rw [he]; exact LO.same k hk, by rw [he], by rw [he]; exact LO.pos k hk, by rw [he]; exact LO.ne k hk⟩
  have X : LwX (fol b1 b2 w) A R h d os sc e tk (xs.map ivv) gl := ⟨hA, hF, hdep, Pr, fun h' c1 c2 gl' tk' le F hb => K _ _ _ _ _ le F ⟨rfl, ⟨c1, c2, rfl⟩, hb⟩⟩
  have z := law_s0 (b1 := b1) (b2 := b2) hi HS Q0 xs hx rfl RF X (Nat.lt_of_lt_of_le h0 hlo)
  exact z
end Mine
end
section
set_option maxRecDepth 100000
set_option maxHeartbeats 400000
namespace Mine
/-! the plain law: a line by counts -/
noncomputable def lets : List Wd → List Nat
  | [] => []
  | c :: cs => match c with
    | .l x => x :: lets cs
    | _ => lets cs
noncomputable def put : List Bool → List Wd → List Wd
  | [], _ => []
  | d :: ds, gs => match d with
    | true => gs.headD .e :: put ds gs.tail
    | false => .e :: put ds gs
noncomputable def day1 : List Wd → List Bool → List Nat → List Nat
  | c :: cs, f :: fs, q => day1 cs fs (lineStep c f q).1
  | _, _, q => q
noncomputable def day2 : List Wd → List Bool → List Nat → List Wd
  | c :: cs, f :: fs, q => bare (lineStep c f q).2 :: day2 cs fs (lineStep c f q).1
  | _, _, _ => []
noncomputable def dmask : List Bool → List Bool → Nat → List Bool
  | c :: cs, f :: fs, n => (f && (c || Nat.blt 0 n)) :: dmask cs fs (n + c.toNat - f.toNat)
  | _, _, _ => []
noncomputable def dq : List Bool → List Bool → Nat → Nat
  | c :: cs, f :: fs, n => dq cs fs (n + c.toNat - f.toNat)
  | _, _, n => n
theorem lineW_days (come : List Wd) (free : List Bool) (hc : come.length = 7) (hf : free.length = 7) : lineW come free = day2 come free (day1 come free []) := by
  obtain ⟨_, _, _, _, _, _, _, rfl⟩ := len7 come hc
  obtain ⟨_, _, _, _, _, _, _, rfl⟩ := len7 free hf
  rfl
theorem day2_put : ∀ (cs : List Wd) (fs : List Bool) (q : List Nat), (∀ x ∈ cs, x ≠ .d) → day2 cs fs q = put (dmask (cs.map nonE) fs q.length) ((q ++ lets cs).map .l)
  | [], fs, _, _ => by cases fs <;> rfl
  | _ :: _, [], _, _ => rfl
  | c :: cs, f :: fs, q, h => by
    have h' : ∀ x ∈ cs, x ≠ .d := fun x hx => h x (.tail _ hx)
    show bare (lineStep c f q).2 :: day2 cs fs (lineStep c f q).1 = _
    rw [day2_put cs fs _ h']
    cases c with
    | d => exact absurd rfl (h .d (.head _))
    | e => cases f with
      | false => rfl
      | true => cases q with
        | nil => rfl
        | cons x r => rfl
    | l y => cases f with
      | false =>
        show Wd.e :: put (dmask (cs.map nonE) fs (q ++ [y]).length) (((q ++ [y]) ++ lets cs).map .l) = Wd.e :: put (dmask (cs.map nonE) fs (q.length + 1)) ((q ++ y :: lets cs).map .l)
        rw [List.length_append, List.append_assoc]; rfl
      | true => cases q with
        | nil => rfl
        | cons x r =>
          show Wd.l x :: put (dmask (cs.map nonE) fs (r ++ [y]).length) (((r ++ [y]) ++ lets cs).map .l) = Wd.l x :: put (dmask (cs.map nonE) fs (r.length + 1)) ((r ++ y :: lets cs).map .l)
          rw [List.length_append, List.append_assoc]; rfl
theorem day1_end : ∀ (cs : List Wd) (fs : List Bool) (q : List Nat), (∀ x ∈ cs, x ≠ .d) → cs.length = fs.length → ∃ p, q ++ lets cs = p ++ day1 cs fs q ∧ (day1 cs fs q).length = dq (cs.map nonE) fs q.length
  | [], fs, q, _, hl => by
    cases fs with
    | nil => exact ⟨[], by simp [lets, day1], rfl⟩
    | cons _ _ => cases hl
  | _ :: _, [], _, _, hl => nomatch hl
  | c :: cs, f :: fs, q, h, hl => by
    have h' : ∀ x ∈ cs, x ≠ .d := fun x hx => h x (.tail _ hx)
    have hl' : cs.length = fs.length := Nat.succ.inj hl
    obtain ⟨p, e1, e2⟩ := day1_end cs fs (lineStep c f q).1 h' hl'
    cases c with
    | d => exact absurd rfl (h .d (.head _))
    | e => cases f with
      | false => exact ⟨p, e1, e2⟩
      | true => cases q with
        | nil => exact ⟨p, e1, e2⟩
        | cons x r => exact ⟨x :: p, congrArg (x :: ·) e1, e2⟩
    | l y => cases f with
      | false =>
        refine ⟨p, ?_, ?_⟩
        · have : q ++ lets (.l y :: cs) = (q ++ [y]) ++ lets cs := by rw [List.append_assoc]; rfl
          rw [this]; exact e1
        · have : (q ++ [y]).length = q.length + 1 := by simp
          rw [show (lineStep (.l y) false q).1 = q ++ [y] from rfl, this] at e2
          exact e2
      | true => cases q with
        | nil => exact ⟨y :: p, congrArg (y :: ·) e1, e2⟩
        | cons x r =>
          refine ⟨x :: p, ?_, ?_⟩
          · have : (x :: r) ++ lets (.l y :: cs) = x :: ((r ++ [y]) ++ lets cs) := by rw [List.append_assoc]; rfl
            rw [this]; exact congrArg (x :: ·) e1
          · have : (r ++ [y]).length = r.length + 1 := by simp
            rw [show (lineStep (.l y) true (x :: r)).1 = r ++ [y] from rfl, this] at e2
            exact e2
theorem put_app : ∀ (D : List Bool) (gs r : List Wd), cntT D ≤ gs.length → put D (gs ++ r) = put D gs
  | [], _, _, _ => rfl
  | false :: D, gs, r, h => congrArg (Wd.e :: ·) (put_app D gs r (by simpa [cntT] using h))
  | true :: D, [], r, h => by simp [cntT] at h
  | true :: D, g :: gs, r, h => congrArg (g :: ·) (put_app D gs r (by simpa [cntT] using h))
theorem guests_lets : ∀ (cs : List Wd), (∀ x ∈ cs, x ≠ .d) → cs.filter nonE = (lets cs).map .l
  | [], _ => rfl
  | c :: cs, h => by
    have ih := guests_lets cs fun x hx => h x (.tail _ hx)
    cases c with
    | d => exact absurd rfl (h .d (.head _))
    | e => exact ih
    | l y => exact congrArg (Wd.l y :: ·) ih
theorem shape_cnt : ∀ (cs : List Wd), cntT (cs.map nonE) = (cs.filter nonE).length
  | [] => rfl
  | c :: cs => by
    have ih := shape_cnt cs
    unfold cntT at ih ⊢
    rw [List.map_cons, List.countP_cons, ih, List.filter_cons]
    cases nonE c <;> rfl
/-- a line: who waits when the day turns goes first -/
theorem lineW_put (come : List Wd) (free : List Bool) (hc : come.length = 7) (hf : free.length = 7) (hd : ∀ x ∈ come, x ≠ .d)
    (hD : cntT (dmask (come.map nonE) free (dq (come.map nonE) free 0)) ≤ (come.filter nonE).length) :
    lineW come free = put (dmask (come.map nonE) free (dq (come.map nonE) free 0)) (rotW (come.filter nonE) (dq (come.map nonE) free 0)) := by
  rw [lineW_days come free hc hf, day2_put come free _ hd]
  obtain ⟨p, e1, e2⟩ := day1_end come free [] hd (hc.trans hf.symm)
  have e2' : (day1 come free []).length = dq (come.map nonE) free 0 := e2
  rw [e2']
  generalize dmask (come.map nonE) free (dq (come.map nonE) free 0) = D at hD ⊢
  have e1' : lets come = p ++ day1 come free [] := e1
  rw [guests_lets come hd] at hD ⊢
  generalize day1 come free [] = q at e1' e2'
  generalize dq (come.map nonE) free 0 = k at e2' ⊢
  subst e2'
  rw [e1'] at hD ⊢
  have r : rotW ((p ++ q).map .l) q.length = (q ++ p).map .l := by
    unfold rotW
    have hn : ((p ++ q).map Wd.l).length - q.length = (p.map Wd.l).length := by simp
    rw [hn, List.map_append, List.drop_left, List.take_left, List.map_append]
  rw [r, ← List.append_assoc, List.map_append]
  exact put_app D _ _ (by simp at hD ⊢; omega)
theorem goneGo_put (f l : List Bool) : ∀ (n j : Nat) (gs : List Wd), goneGo f l n j gs = put ((List.range' j n).map (took f l)) gs
  | 0, _, _ => rfl
  | n + 1, j, gs => by
    rw [List.range'_succ, List.map_cons]
    unfold goneGo
    cases h : took f l j with
    | true => rw [if_pos rfl, goneGo_put f l n (j + 1)]; rfl
    | false => rw [if_neg (by decide), goneGo_put f l n (j + 1)]; rfl
noncomputable def parkOutB (s : List Bool) : Nat → List Bool × Nat → List Bool × Nat
  | 0, st => st
  | n + 1, st => parkOutB s n (cond (s.getD n false) ((parkIn st.1 n 7).1, st.2 + (parkIn st.1 n 7).2) st)
theorem nonE_false {x : Wd} : nonE x = false ↔ x = .e := by cases x <;> simp [nonE]
theorem parkOut_shape (come : List Wd) : ∀ (n : Nat) (st : List Bool × Nat), parkOut come n st = parkOutB (come.map nonE) n st
  | 0, _ => rfl
  | n + 1, st => by
    unfold parkOut parkOutB
    rw [parkOut_shape come n]
    have e : (come.map nonE).getD n false = nonE (come.getD n .e) := by
      rw [List.getD_eq_getElem?_getD, List.getD_eq_getElem?_getD, List.getElem?_map]
      cases come[n]? <;> rfl
    rw [e]
    cases h : nonE (come.getD n .e) with
    | true => rw [if_neg (fun q => by rw [nonE_false.mpr q] at h; cases h)]; rfl
    | false => rw [if_pos (nonE_false.mp h)]; rfl
theorem parkedW_put (come : List Wd) (free : List Bool) : parkedW come free = put ((List.range' 0 7).map (took free (parkOutB (come.map nonE) 7 (free, 0)).1)) (rotW (come.filter nonE) (parkOutB (come.map nonE) 7 (free, 0)).2) := by
  unfold parkedW
  rw [parkOut_shape, goneGo_put]
theorem self_put : ∀ (l : List Wd), l = put (l.map nonE) (l.filter nonE)
  | [] => rfl
  | x :: l => by
    have ih := self_put l
    cases h : nonE x with
    | true =>
      rw [List.map_cons, List.filter_cons, h, if_pos rfl]
      exact congrArg (x :: ·) ih
    | false =>
      rw [List.map_cons, List.filter_cons, h, if_neg (by decide), nonE_false.mp h]
      exact congrArg (Wd.e :: ·) ih
theorem put_shape : ∀ (D : List Bool) (gs : List Wd), (∀ x ∈ gs, nonE x = true) → cntT D ≤ gs.length → (put D gs).map nonE = D
  | [], _, _, _ => rfl
  | false :: D, gs, hg, h => congrArg (false :: ·) (put_shape D gs hg (by simpa [cntT] using h))
  | true :: D, [], _, h => by simp [cntT] at h
  | true :: D, g :: gs, hg, h => by
    show nonE g :: (put D gs).map nonE = _
    rw [hg g (.head _), put_shape D gs (fun x hx => hg x (.tail _ hx)) (by simpa [cntT] using h)]
theorem put_guests : ∀ (D : List Bool) (gs : List Wd), (∀ x ∈ gs, nonE x = true) → cntT D = gs.length → (put D gs).filter nonE = gs
  | [], [], _, _ => rfl
  | [], _ :: _, _, h => by simp [cntT] at h
  | false :: D, gs, hg, h => by
    show List.filter nonE (Wd.e :: put D gs) = gs
    rw [List.filter_cons, if_neg (by decide)]
    exact put_guests D gs hg (by simpa [cntT] using h)
  | true :: D, [], _, h => by simp [cntT] at h
  | true :: D, g :: gs, hg, h => by
    show List.filter nonE (g :: put D gs) = g :: gs
    rw [List.filter_cons, hg g (.head _), if_pos rfl, put_guests D gs (fun x hx => hg x (.tail _ hx)) (by simpa [cntT] using h)]
theorem put_len : ∀ (D : List Bool) (gs : List Wd), (put D gs).length = D.length
  | [], _ => rfl
  | false :: D, gs => congrArg (· + 1) (put_len D gs)
  | true :: D, gs => congrArg (· + 1) (put_len D gs.tail)
theorem guests_non {l : List Wd} : ∀ x ∈ l.filter nonE, nonE x = true := fun _ hx => (List.mem_filter.mp hx).2
theorem rot_len (gs : List Wd) (k : Nat) : (rotW gs k).length = gs.length := by
  unfold rotW
  rw [List.length_append, List.length_drop, List.length_take]
  omega
theorem rot_mem {gs : List Wd} {k : Nat} {p : Wd → Prop} (h : ∀ x ∈ gs, p x) : ∀ x ∈ rotW gs k, p x := by
  intro x hx
  rcases List.mem_append.mp hx with hx | hx
  · exact h x (List.mem_of_mem_drop hx)
  · exact h x (List.mem_of_mem_take hx)
/-- turning, of anything -/
noncomputable def rotG {α : Type} (gs : List α) (k : Nat) : List α := gs.drop (gs.length - k) ++ gs.take (gs.length - k)
theorem rotG_map {α β : Type} (f : α → β) (l : List α) (k : Nat) : rotG (l.map f) k = (rotG l k).map f := by
  unfold rotG
  rw [List.length_map, ← List.map_drop, ← List.map_take, List.map_append]
theorem range_get (gs : List Wd) : gs = (List.range gs.length).map fun i => gs.getD i .e := by
  refine List.ext_getElem (by simp) fun i h1 h2 => ?_
  simp [h1]
theorem rot2 : ∀ n : Fin 8, ∀ a b : Fin 8, a ≤ n → b ≤ n → rotG (rotG (List.range n.1) a.1) b.1 = rotG (List.range n.1) ((a.1 + b.1) % n.1) := by decide +kernel
theorem rotR : ∀ n : Fin 8, ∀ a : Fin 8, a ≤ n → rotG (rotG (List.range n.1) a.1).reverse a.1 = (List.range n.1).reverse := by decide +kernel
theorem rotW_rotW (gs : List Wd) (a b : Nat) (h : gs.length ≤ 7) (ha : a ≤ gs.length) (hb : b ≤ gs.length) : rotW (rotW gs a) b = rotW gs ((a + b) % gs.length) := by
  have z := rot2 ⟨gs.length, by omega⟩ ⟨a, by omega⟩ ⟨b, by omega⟩ ha hb
  have y := congrArg (List.map fun i => gs.getD i .e) z
  rw [← rotG_map, ← rotG_map, ← rotG_map, ← range_get gs] at y
  exact y
theorem rotW_rev (gs : List Wd) (a : Nat) (h : gs.length ≤ 7) (ha : a ≤ gs.length) : rotW (rotW gs a).reverse a = gs.reverse := by
  have z := rotR ⟨gs.length, by omega⟩ ⟨a, by omega⟩ ha
  have y := congrArg (List.map fun i => gs.getD i .e) z
  rw [← rotG_map, List.map_reverse, ← rotG_map, List.map_reverse, ← range_get gs] at y
  exact y
end Mine
end
section
set_option maxRecDepth 100000
set_option maxHeartbeats 400000
namespace Mine
/-! masks as numbers -/
noncomputable def bitsN : Nat → Nat → List Bool
  | 0, _ => []
  | n + 1, m => Nat.beq (Nat.mod m 2) 1 :: bitsN n (Nat.div m 2)
noncomputable def dqN : Nat → Nat → Nat → Nat → Nat
  | 0, _, _, k => k
  | n + 1, c, f, k => dqN n (Nat.div c 2) (Nat.div f 2) (Nat.sub (Nat.add k (Nat.mod c 2)) (Nat.mod f 2))
noncomputable def dmN : Nat → Nat → Nat → Nat → Nat
  | 0, _, _, _ => 0
  | n + 1, c, f, k => Nat.add (Nat.sub (Nat.add k (Nat.mod c 2)) (Nat.sub (Nat.add k (Nat.mod c 2)) (Nat.mod f 2))) (Nat.mul 2 (dmN n (Nat.div c 2) (Nat.div f 2) (Nat.sub (Nat.add k (Nat.mod c 2)) (Nat.mod f 2))))
noncomputable def cnN : Nat → Nat → Nat
  | 0, _ => 0
  | n + 1, c => Nat.add (Nat.mod c 2) (cnN n (Nat.div c 2))
noncomputable def rvN : Nat → Nat → Nat → Nat
  | 0, _, a => a
  | n + 1, m, a => rvN n (Nat.div m 2) (Nat.add (Nat.mul 2 a) (Nat.mod m 2))
/-- the openings left when a guest of minute m has parked, and whether he went round -/
noncomputable def pkL (L m : Nat) : Nat := match Nat.div L (Nat.pow 2 m) with
  | 0 => Nat.land L (Nat.pred L)
  | h + 1 => Nat.sub L (Nat.mul (Nat.sub (h + 1) (Nat.land (h + 1) h)) (Nat.pow 2 m))
noncomputable def pkK (L m : Nat) : Nat := match Nat.div L (Nat.pow 2 m) with
  | 0 => match L with
    | 0 => 0
    | _ => 1
  | _ => 0
noncomputable def pkO (c : Nat) : Nat → Nat → Nat → Nat
  | 0, L, k => Nat.add L (Nat.mul 128 k)
  | n + 1, L, k => match Nat.mod (Nat.div c (Nat.pow 2 n)) 2 with
    | 0 => pkO c n L k
    | _ => pkO c n (pkL L n) (Nat.add k (pkK L n))
theorem bits_get : ∀ (n m j : Nat), j < n → (bitsN n m).getD j false = m.testBit j
  | 0, _, _, h => absurd h (Nat.not_lt_zero _)
  | n + 1, m, 0, _ => by
    show Nat.beq (m % 2) 1 = m.testBit 0
    rw [Nat.testBit_zero]
    rcases Nat.mod_two_eq_zero_or_one m with h | h <;> rw [h] <;> rfl
  | n + 1, m, j + 1, h => by
    show (bitsN n (m / 2)).getD j false = m.testBit (j + 1)
    rw [bits_get n (m / 2) j (by omega), Nat.testBit_succ]
theorem bits_len : ∀ (n m : Nat), (bitsN n m).length = n
  | 0, _ => rfl
  | n + 1, m => congrArg (· + 1) (bits_len n (m / 2))
theorem cnt_bitsN : ∀ (n m : Nat), cntT (bitsN n m) = cnN n m
  | 0, _ => rfl
  | n + 1, m => by
    have ih := cnt_bitsN n (m / 2)
    show (Nat.beq (m % 2) 1 :: bitsN n (m / 2)).countP id = m % 2 + cnN n (m / 2)
    rw [List.countP_cons]
    unfold cntT at ih
    rw [ih]
    rcases Nat.mod_two_eq_zero_or_one m with h | h <;> rw [h] <;> simp <;> omega
theorem beq01 {x : Nat} (h : x = 0 ∨ x = 1) : (Nat.beq x 1).toNat = x := by rcases h with rfl | rfl <;> rfl
theorem dq_bits : ∀ (n c f k : Nat), dq (bitsN n c) (bitsN n f) k = dqN n c f k
  | 0, _, _, _ => rfl
  | n + 1, c, f, k => by
    show dq (bitsN n (c / 2)) (bitsN n (f / 2)) (k + (Nat.beq (c % 2) 1).toNat - (Nat.beq (f % 2) 1).toNat) = _
    rw [beq01 (Nat.mod_two_eq_zero_or_one c), beq01 (Nat.mod_two_eq_zero_or_one f), dq_bits n]; rfl
theorem dmask_bits : ∀ (n c f k : Nat), dmask (bitsN n c) (bitsN n f) k = bitsN n (dmN n c f k)
  | 0, _, _, _ => rfl
  | n + 1, c, f, k => by
    show (Nat.beq (f % 2) 1 && (Nat.beq (c % 2) 1 || Nat.blt 0 k)) :: dmask (bitsN n (c / 2)) (bitsN n (f / 2)) (k + (Nat.beq (c % 2) 1).toNat - (Nat.beq (f % 2) 1).toNat) = _
    rw [beq01 (Nat.mod_two_eq_zero_or_one c), beq01 (Nat.mod_two_eq_zero_or_one f), dmask_bits n]
    show _ = Nat.beq ((k + c % 2 - (k + c % 2 - f % 2) + 2 * dmN n (c / 2) (f / 2) (k + c % 2 - f % 2)) % 2) 1 :: bitsN n ((k + c % 2 - (k + c % 2 - f % 2) + 2 * dmN n (c / 2) (f / 2) (k + c % 2 - f % 2)) / 2)
    generalize dmN n (c / 2) (f / 2) (k + c % 2 - f % 2) = y
    have hx : k + c % 2 - (k + c % 2 - f % 2) ≤ 1 := by have := Nat.mod_lt f (by decide : 0 < 2); omega
    have e1 : (k + c % 2 - (k + c % 2 - f % 2) + 2 * y) % 2 = k + c % 2 - (k + c % 2 - f % 2) := by omega
    have e2 : (k + c % 2 - (k + c % 2 - f % 2) + 2 * y) / 2 = y := by omega
    rw [e1, e2]
    congr 1
    rcases Nat.mod_two_eq_zero_or_one c with h | h <;> rcases Nat.mod_two_eq_zero_or_one f with h' | h' <;> rw [h, h'] <;> cases k with
      | zero => rfl
      | succ k => simp
theorem rv_bits : ∀ m : Fin 128, (bitsN 7 m.1).reverse = bitsN 7 (rvN 7 m.1 0) ∧ rvN 7 m.1 0 < 128 := by decide +kernel
theorem parkIn_bits : ∀ L : Fin 128, ∀ m : Fin 7, parkIn (bitsN 7 L.1) m.1 7 = (bitsN 7 (pkL L.1 m.1), pkK L.1 m.1) ∧ pkL L.1 m.1 < 128 := by decide +kernel
theorem pkO_is (c : Nat) : ∀ (n L k : Nat), n ≤ 7 → L < 128 → ∃ L' k', L' < 128 ∧ pkO c n L k = L' + 128 * k' ∧ parkOutB (bitsN 7 c) n (bitsN 7 L, k) = (bitsN 7 L', k')
  | 0, L, k, _, hL => ⟨L, k, hL, rfl, rfl⟩
  | n + 1, L, k, hn, hL => by
    have hb : (bitsN 7 c).getD n false = Nat.beq (c / 2 ^ n % 2) 1 := by
      rw [bits_get 7 c n (by omega), Nat.testBit_eq_decide_div_mod_eq]
      rcases Nat.mod_two_eq_zero_or_one (c / 2 ^ n) with h | h <;> rw [h] <;> rfl
    unfold parkOutB
    rw [hb]
    have hp : pkO c (n + 1) L k = (match c / 2 ^ n % 2 with | 0 => pkO c n L k | _ => pkO c n (pkL L n) (k + pkK L n)) := rfl
    rw [hp]
    rcases Nat.mod_two_eq_zero_or_one (c / 2 ^ n) with h | h
    · rw [h]
      exact pkO_is c n L k (by omega) hL
    · rw [h]
      have z := parkIn_bits ⟨L, hL⟩ ⟨n, by omega⟩
      obtain ⟨z1, z2⟩ := z
      obtain ⟨L', k', a, b, d⟩ := pkO_is c n (pkL L n) (k + pkK L n) (by omega) z2
      refine ⟨L', k', a, b, ?_⟩
      show parkOutB (bitsN 7 c) n ((parkIn (bitsN 7 L) n 7).1, k + (parkIn (bitsN 7 L) n 7).2) = _
      rw [z1]; exact d
/-! the table: by openings and guests, the openings taken and how many guests go round -/
inductive NT where
  | lf (n : Nat)
  | nd (l r : NT)
noncomputable def NT.at : NT → Nat → Nat
  | .lf n, _ => n
  | .nd l r, i => match Nat.beq (Nat.mod i 2) 0 with
    | true => l.at (Nat.div i 2)
    | false => r.at (Nat.div i 2)
noncomputable def ttab : NT := (.nd (.nd (.nd (.nd (.nd (.nd (.nd (.lf 0x0) (.lf 0x400000000000000000000000000000000000000000000000000000000000000000000000000000004000000000000000000000000000000000000000400000000000000000004000000000400004010000)) (.nd (.lf 0xa00000000000000000000000000000000000000000000000000000000000000000000000000000002000000000000000000000000000000000000000200000000000000000002000000000200002008000) (.lf 0x60000000000000000000000000000000000000006000000000000000000060000000006000060180400000000000000000000000000000000000000060000000000000000000600000000060000601802000000000000000000060000000006000060180200000000060000601802000060180201802008000))) (.nd (.nd (.lf 0x900000000000000000000000000000000000000000000000000000000000000000000000000000009000000000000000000000000000000000000000100000000000000000001000000000100001004000) (.lf 0xd0000000000000000000000000000000000000005000000000000000000050000000005000050140400000000000000000000000000000000000000050000000000000000000500000000050000501404000000000000000000050000000005000050140100000000050000501401000050140101401004000)) (.nd (.lf 0xb000000000000000000000000000000000000000b0000000000000000000b000000000b0000b02c0900000000000000000000000000000000000000030000000000000000000300000000030000300c020000000000000000000300000000030000300c0100000000030000300c010000300c0100c01004000) (.lf 0x70000000000000000000700000000070000701c060000000000000000000700000000070000701c0500000000070000701c050000701c0501c05014040000000000000000000700000000070000701c0300000000070000701c030000701c0301c0300c0200000000070000701c030000701c0301c0300c010000701c0301c0300c0101c0300c0100c01004000)))) (.nd (.nd (.nd (.lf 0x880000000000000000000000000000000000000000000000000000000000000000000000000000008800000000000000000000000000000000000000880000000000000000000800000000080000802000) (.lf 0xc800000000000000000000000000000000000000c8000000000000000000480000000048000481204000000000000000000000000000000000000000c8000000000000000000480000000048000481204000000000000000000048000000004800048120400000000048000481200800048120081200802000)) (.nd (.lf 0xa800000000000000000000000000000000000000a8000000000000000000a800000000a8000a82a08800000000000000000000000000000000000000a8000000000000000000280000000028000280a020000000000000000000280000000028000280a0200000000028000280a008000280a0080a00802000) (.lf 0xe8000000000000000000680000000068000681a060000000000000000000680000000068000681a0600000000068000681a048000681a0481a04812040000000000000000000680000000068000681a0600000000068000681a028000681a0281a0280a0200000000068000681a028000681a0281a0280a020000681a0281a0280a0081a0280a0080a00802000))) (.nd (.nd (.lf 0x118000000000000000000000000000000000000009800000000000000000098000000009800098260880000000000000000000000000000000000000098000000000000000000980000000098000982608800000000000000000018000000001800018060100000000018000180600800018060080600802000) (.lf 0xd8000000000000000000d800000000d8000d8360c8000000000000000000580000000058000581605000000000580005816048000581604816048120400000000000000000005800000000580005816050000000005800058160480005816048160481204000000000580005816018000581601816018060100005816018160180600816018060080600802000)) (.nd (.lf 0xb8000000000000000000b800000000b8000b82e0a8000000000000000000b800000000b8000b82e09800000000b8000b82e098000b82e0982e09826088000000000000000000380000000038000380e0300000000038000380e028000380e0280e0280a0200000000038000380e018000380e0180e01806010000380e0180e018060080e018060080600802000) (.lf 0x780000000078000781e0700000000078000781e068000781e0681e0681a0600000000078000781e058000781e0581e05816050000781e0581e058160481e0581604816048120400000000078000781e038000781e0381e0380e030000781e0381e0380e0281e0380e0280e0280a020000781e0381e0380e0181e0380e0180e018060101e0380e0180e018060080e018060080600802000))))) (.nd (.nd (.nd (.nd (.lf 0x840000000000000000000000000000000000000000000000000000000000000000000000000000008400000000000000000000000000000000000000840000000000000000008400000000040000401000) (.lf 0xc400000000000000000000000000000000000000c4000000000000000000c40000000044000441104000000000000000000000000000000000000000c4000000000000000000c400000000440004411040000000000000000000c4000000004400044110400000000044000441104000044110041100401000)) (.nd (.lf 0xa400000000000000000000000000000000000000a4000000000000000000a400000000a4000a42908400000000000000000000000000000000000000a4000000000000000000a400000000240002409020000000000000000000a4000000002400024090200000000024000240902000024090040900401000) (.lf 0xe4000000000000000000e400000000640006419060000000000000000000e4000000006400064190600000000064000641906000064190441904411040000000000000000000e400000000640006419060000000006400064190600006419024190240902000000000640006419060000641902419024090200006419024190240902019024090040900401000))) (.nd (.nd (.lf 0x114000000000000000000000000000000000000009400000000000000000094000000009400094250840000000000000000000000000000000000000094000000000000000000940000000094000942508400000000000000000094000000001400014050100000000014000140501000014050040500401000) (.lf 0xd4000000000000000000d400000000d4000d4350c4000000000000000000d4000000005400054150500000000054000541505000054150441504411040000000000000000000d400000000540005415050000000005400054150500005415044150441104000000000540005415050000541501415014050100005415014150140501015014050040500401000)) (.nd (.lf 0xb4000000000000000000b400000000b4000b42d0a4000000000000000000b400000000b4000b42d09400000000b4000b42d094000b42d0942d09425084000000000000000000b40000000034000340d0300000000034000340d030000340d0240d024090200000000034000340d030000340d0140d01405010000340d0140d014050100d014050040500401000) (.lf 0xf40000000074000741d0700000000074000741d070000741d0641d064190600000000074000741d070000741d0541d05415050000741d0541d054150501d0541504415044110400000000074000741d070000741d0341d0340d030000741d0341d0340d0301d0340d0240d02409020000741d0341d0340d0301d0340d0140d014050101d0340d0140d014050100d014050040500401000)))) (.nd (.nd (.nd (.lf 0x10c000000000000000000000000000000000000010c0000000000000000008c000000008c0008c23084000000000000000000000000000000000000010c0000000000000000008c000000008c0008c230840000000000000000008c000000008c0008c23084000000000c0000c030080000c030040300401000) (.lf 0x14c000000000000000000cc00000000cc000cc330c4000000000000000000cc00000000cc000cc330c4000000004c0004c130480004c130441304411040000000000000000000cc00000000cc000cc330c4000000004c0004c130480004c130441304411040000000004c0004c130480004c1304413044110400004c1300c1300c030081300c030040300401000)) (.nd (.lf 0x12c000000000000000000ac00000000ac000ac2b0a4000000000000000000ac00000000ac000ac2b0a400000000ac000ac2b08c000ac2b08c2b08c23084000000000000000000ac00000000ac000ac2b0a4000000002c0002c0b0280002c0b0240b02409020000000002c0002c0b0280002c0b0240b024090200002c0b00c0b00c030080b00c030040300401000) (.lf 0xec00000000ec000ec3b0e4000000006c0006c1b0680006c1b0641b06419060000000006c0006c1b0680006c1b0641b064190600006c1b04c1b04c130481b04c130441304411040000000006c0006c1b0680006c1b0641b064190600006c1b02c1b02c0b0281b02c0b0240b024090200006c1b02c1b02c0b0281b02c0b0240b024090201b02c0b00c0b00c030080b00c030040300401000))) (.nd (.nd (.lf 0x11c0000000000000000011c000000011c0011c4710c0000000000000000009c000000009c0009c27094000000009c0009c2708c0009c2708c2708c230840000000000000000009c000000009c0009c27094000000009c0009c2708c0009c2708c2708c23084000000001c0001c070180001c0701407014050100001c0700c0700c030080700c030040300401000) (.lf 0xdc00000000dc000dc370d400000000dc000dc370cc000dc370cc370cc330c4000000005c0005c170580005c1705417054150500005c1704c1704c130481704c130441304411040000000005c0005c170580005c1705417054150500005c1704c1704c130481704c1304413044110400005c1701c1701c070181701c0701407014050101701c0700c0700c030080700c030040300401000)) (.nd (.lf 0xbc00000000bc000bc2f0b400000000bc000bc2f0ac000bc2f0ac2f0ac2b0a400000000bc000bc2f09c000bc2f09c2f09c27094000bc2f09c2f09c2708c2f09c2708c2708c23084000000003c0003c0f0380003c0f0340f0340d0300003c0f02c0f02c0b0280f02c0b0240b024090200003c0f01c0f01c070180f01c0701407014050100f01c0700c0700c030080700c030040300401000) (.lf 0x7c0007c1f0780007c1f0741f0741d0700007c1f06c1f06c1b0681f06c1b0641b064190600007c1f05c1f05c170581f05c1705417054150501f05c1704c1704c130481704c1304413044110400007c1f03c1f03c0f0381f03c0f0340f0340d0301f03c0f02c0f02c0b0280f02c0b0240b024090201f03c0f01c0f01c070180f01c0701407014050100f01c0700c0700c030080700c030040300401000)))))) (.nd (.nd (.nd (.nd (.nd (.lf 0x820000000000000000000000000000000000000000000000000000000000000000000000000000008200000000000000000000000000000000000000820000000000000000008200000000820000200800) (.lf 0xc200000000000000000000000000000000000000c2000000000000000000c200000000c2000421084000000000000000000000000000000000000000c2000000000000000000c200000000c20004210840000000000000000000c200000000c2000421084000000000c2000421084000042108401080200800)) (.nd (.lf 0xa200000000000000000000000000000000000000a2000000000000000000a200000000a2000a22888200000000000000000000000000000000000000a2000000000000000000a200000000a20002208820000000000000000000a200000000a2000220882000000000a2000220882000022088200880200800) (.lf 0xe2000000000000000000e200000000e20006218860000000000000000000e200000000e2000621886000000000e2000621886000062188601884210840000000000000000000e200000000e2000621886000000000e200062188600006218860188220882000000000e20006218860000621886018822088200006218860188220882018822088200880200800))) (.nd (.nd (.lf 0x112000000000000000000000000000000000000009200000000000000000092000000009200092248820000000000000000000000000000000000000092000000000000000000920000000092000922488200000000000000000092000000009200012048100000000092000120481000012048100480200800) (.lf 0xd2000000000000000000d200000000d2000d2348c2000000000000000000d200000000d2000521485000000000d2000521485000052148501484210840000000000000000000d200000000d2000521485000000000d200052148500005214850148421084000000000d20005214850000521485014812048100005214850148120481014812048100480200800)) (.nd (.lf 0xb2000000000000000000b200000000b2000b22c8a2000000000000000000b200000000b2000b22c89200000000b2000b22c892000b22c8922c89224882000000000000000000b200000000b2000320c83000000000b2000320c830000320c8300c8220882000000000b2000320c830000320c8300c81204810000320c8300c812048100c812048100480200800) (.lf 0xf200000000f2000721c87000000000f2000721c870000721c8701c8621886000000000f2000721c870000721c8701c85214850000721c8701c852148501c85214850148421084000000000f2000721c870000721c8701c8320c830000721c8701c8320c8301c8320c8300c82208820000721c8701c8320c8301c8320c8300c812048101c8320c8300c812048100c812048100480200800)))) (.nd (.nd (.nd (.lf 0x10a000000000000000000000000000000000000010a0000000000000000008a000000008a0008a22882000000000000000000000000000000000000010a0000000000000000008a000000008a0008a228820000000000000000008a000000008a0008a22882000000008a0000a028080000a028080280200800) (.lf 0x14a000000000000000000ca00000000ca000ca328c2000000000000000000ca00000000ca000ca328c200000000ca0004a128480004a128481284210840000000000000000000ca00000000ca000ca328c200000000ca0004a128480004a12848128421084000000000ca0004a128480004a1284812842108400004a128481280a028081280a028080280200800)) (.nd (.lf 0x12a000000000000000000aa00000000aa000aa2a8a2000000000000000000aa00000000aa000aa2a8a200000000aa000aa2a88a000aa2a88a2a88a22882000000000000000000aa00000000aa000aa2a8a200000000aa0002a0a8280002a0a8280a8220882000000000aa0002a0a8280002a0a8280a822088200002a0a8280a80a028080a80a028080280200800) (.lf 0xea00000000ea000ea3a8e200000000ea0006a1a8680006a1a8681a8621886000000000ea0006a1a8680006a1a8681a862188600006a1a8681a84a128481a84a12848128421084000000000ea0006a1a8680006a1a8681a862188600006a1a8681a82a0a8281a82a0a8280a822088200006a1a8681a82a0a8281a82a0a8280a822088201a82a0a8280a80a028080a80a028080280200800))) (.nd (.nd (.lf 0x11a0000000000000000011a000000011a0011a4690a0000000000000000009a000000009a0009a26892000000009a0009a2688a0009a2688a2688a228820000000000000000009a000000009a0009a26892000000009a0009a2688a0009a2688a2688a22882000000009a0001a068180001a0681806812048100001a068180680a028080680a028080280200800) (.lf 0xda00000000da000da368d200000000da000da368ca000da368ca368ca328c200000000da0005a168580005a1685816852148500005a168581684a128481684a12848128421084000000000da0005a168580005a1685816852148500005a168581684a128481684a1284812842108400005a168581681a068181681a0681806812048101681a068180680a028080680a028080280200800)) (.nd (.lf 0xba00000000ba000ba2e8b200000000ba000ba2e8aa000ba2e8aa2e8aa2a8a200000000ba000ba2e89a000ba2e89a2e89a26892000ba2e89a2e89a2688a2e89a2688a2688a2288200000000ba0003a0e8380003a0e8380e8320c8300003a0e8380e82a0a8280e82a0a8280a822088200003a0e8380e81a068180e81a0681806812048100e81a068180680a028080680a028080280200800) (.lf 0xfa0007a1e8780007a1e8781e8721c8700007a1e8781e86a1a8681e86a1a8681a862188600007a1e8781e85a168581e85a1685816852148501e85a168581684a128481684a1284812842108400007a1e8781e83a0e8381e83a0e8380e8320c8301e83a0e8380e82a0a8280e82a0a8280a822088201e83a0e8380e81a068180e81a0681806812048100e81a068180680a028080680a028080280200800))))) (.nd (.nd (.nd (.nd (.lf 0x106000000000000000000000000000000000000010600000000000000000106000000008600086218820000000000000000000000000000000000000106000000000000000001060000000086000862188200000000000000000106000000008600086218820000000086000862188200006018040180200800) (.lf 0x1460000000000000000014600000000c6000c6318c20000000000000000014600000000c6000c6318c200000000c6000c6318c2000461184411842108400000000000000000014600000000c6000c6318c200000000c6000c6318c20004611844118421084000000000c6000c6318c2000461184411842108400004611844118421084011806018040180200800)) (.nd (.lf 0x1260000000000000000012600000000a6000a6298a20000000000000000012600000000a6000a6298a200000000a6000a6298a2000a62988629886218820000000000000000012600000000a6000a6298a200000000a6000a6298a20002609824098220882000000000a6000a6298a2000260982409822088200002609824098220882009806018040180200800) (.lf 0x16600000000e6000e6398e200000000e6000e6398e20006619864198621886000000000e6000e6398e200066198641986218860000661986419862188601984611844118421084000000000e6000e6398e200066198641986218860000661986419862188601982609824098220882000066198641986218860198260982409822088201982609824098220882009806018040180200800))) (.nd (.nd (.lf 0x1160000000000000000011600000001160011645906000000000000000001160000000096000962589200000000960009625892000962588625886218820000000000000000011600000000960009625892000000009600096258920009625886258862188200000000960009625892000160581405812048100001605814058120481005806018040180200800) (.lf 0x15600000000d6000d6358d200000000d6000d6358d2000d6358c6358c6318c200000000d6000d6358d200056158541585214850000561585415852148501584611844118421084000000000d6000d6358d200056158541585214850000561585415852148501584611844118421084000056158541585214850158160581405812048101581605814058120481005806018040180200800)) (.nd (.lf 0x13600000000b6000b62d8b200000000b6000b62d8b2000b62d8a62d8a6298a200000000b6000b62d8b2000b62d8962d89625892000b62d8962d896258922d89625886258862188200000000b6000b62d8b2000360d8340d8320c830000360d8340d8320c8300d826098240982208820000360d8340d8320c8300d8160581405812048100d81605814058120481005806018040180200800) (.lf 0xf6000f63d8f2000761d8741d8721c870000761d8741d8721c8701d866198641986218860000761d8741d8721c8701d8561585415852148501d85615854158521485015846118441184210840000761d8741d8721c8701d8360d8340d8320c8301d8360d8340d8320c8300d8260982409822088201d8360d8340d8320c8300d8160581405812048100d81605814058120481005806018040180200800)))) (.nd (.nd (.nd (.lf 0x18e0000000000000000010e000000010e0010e439060000000000000000010e000000010e0010e43906000000008e0008e2388a0008e2388623886218820000000000000000010e000000010e0010e43906000000008e0008e2388a0008e238862388621882000000008e0008e2388a0008e2388623886218820000e0380c0380a0280803806018040180200800) (.lf 0x14e000000014e0014e5394600000000ce000ce338ca000ce338c6338c6318c200000000ce000ce338ca000ce338c6338c6318c20004e1384c1384a128481384611844118421084000000000ce000ce338ca000ce338c6338c6318c20004e1384c1384a12848138461184411842108400004e1384c1384a12848138461184411842108401380e0380c0380a0280803806018040180200800)) (.nd (.lf 0x12e000000012e0012e4b92600000000ae000ae2b8aa000ae2b8a62b8a6298a200000000ae000ae2b8aa000ae2b8a62b8a6298a2000ae2b88e2b88e2388a2b88e23886238862188200000000ae000ae2b8aa000ae2b8a62b8a6298a20002e0b82c0b82a0a8280b8260982409822088200002e0b82c0b82a0a8280b8260982409822088200b80e0380c0380a0280803806018040180200800) (.lf 0xee000ee3b8ea000ee3b8e63b8e6398e20006e1b86c1b86a1a8681b8661986419862188600006e1b86c1b86a1a8681b8661986419862188601b84e1384c1384a12848138461184411842108400006e1b86c1b86a1a8681b8661986419862188601b82e0b82c0b82a0a8280b8260982409822088201b82e0b82c0b82a0a8280b8260982409822088200b80e0380c0380a0280803806018040180200800))) (.nd (.nd (.lf 0x11e000000011e0011e47916000000011e0011e4790e0011e4790e4790e43906000000009e0009e2789a0009e2789627896258920009e2788e2788e2388a2788e238862388621882000000009e0009e2789a0009e2789627896258920009e2788e2788e2388a2788e2388623886218820001e0781c0781a06818078160581405812048100780e0380c0380a0280803806018040180200800) (.lf 0xde000de378da000de378d6378d6358d2000de378ce378ce338ca378ce338c6338c6318c20005e1785c1785a16858178561585415852148501784e1384c1384a12848138461184411842108400005e1785c1785a16858178561585415852148501784e1384c1384a12848138461184411842108401781e0781c0781a06818078160581405812048100780e0380c0380a0280803806018040180200800)) (.nd (.lf 0xbe000be2f8ba000be2f8b62f8b62d8b2000be2f8ae2f8ae2b8aa2f8ae2b8a62b8a6298a2000be2f89e2f89e2789a2f89e2789627896258922f89e2788e2788e2388a2788e2388623886218820003e0f83c0f83a0e8380f8360d8340d8320c8300f82e0b82c0b82a0a8280b8260982409822088200f81e0781c0781a06818078160581405812048100780e0380c0380a0280803806018040180200800) (.lf 0x7e1f87c1f87a1e8781f8761d8741d8721c8701f86e1b86c1b86a1a8681b8661986419862188601f85e1785c1785a16858178561585415852148501784e1384c1384a12848138461184411842108401f83e0f83c0f83a0e8380f8360d8340d8320c8300f82e0b82c0b82a0a8280b8260982409822088200f81e0781c0781a06818078160581405812048100780e0380c0380a0280803806018040180200800))))))) (.nd (.nd (.nd (.nd (.nd (.nd (.lf 0x810000000000000000000000000000000000000000000000000000000000000000000000000000008100000000000000000000000000000000000000810000000000000000008100000000810008100400) (.lf 0xc100000000000000000000000000000000000000c1000000000000000000c100000000c1000c11044000000000000000000000000000000000000000c1000000000000000000c100000000c1000c110440000000000000000000c100000000c1000c11044000000000c1000c110440000c1104401044000400)) (.nd (.lf 0xa100000000000000000000000000000000000000a1000000000000000000a100000000a1000a12848100000000000000000000000000000000000000a1000000000000000000a100000000a1000a108420000000000000000000a100000000a1000a10842000000000a1000a108420000a1084200842000400) (.lf 0xe1000000000000000000e100000000e1000e118460000000000000000000e100000000e1000e11846000000000e1000e118460000e1184601846010440000000000000000000e100000000e1000e11846000000000e1000e118460000e118460184600842000000000e1000e118460000e1184601846008420000e118460184600842018460084200842000400))) (.nd (.nd (.lf 0x111000000000000000000000000000000000000009100000000000000000091000000009100091244810000000000000000000000000000000000000091000000000000000000910000000091000912448100000000000000000091000000009100091044100000000091000910441000091044100441000400) (.lf 0xd1000000000000000000d100000000d1000d1344c1000000000000000000d100000000d1000d11445000000000d1000d114450000d1144501445010440000000000000000000d100000000d1000d11445000000000d1000d114450000d114450144501044000000000d1000d114450000d1144501445004410000d114450144500441014450044100441000400)) (.nd (.lf 0xb1000000000000000000b100000000b1000b12c4a1000000000000000000b100000000b1000b12c49100000000b1000b12c491000b12c4912c49124481000000000000000000b100000000b1000b10c43000000000b1000b10c430000b10c4300c4300842000000000b1000b10c430000b10c4300c43004410000b10c4300c430044100c430044100441000400) (.lf 0xf100000000f1000f11c47000000000f1000f11c470000f11c4701c4701846000000000f1000f11c470000f11c4701c47014450000f11c4701c470144501c47014450144501044000000000f1000f11c470000f11c4701c4700c430000f11c4701c4700c4301c4700c4300c43008420000f11c4701c4700c4301c4700c4300c430044101c4700c4300c430044100c430044100441000400)))) (.nd (.nd (.nd (.lf 0x109000000000000000000000000000000000000010900000000000000000089000000008900089224810000000000000000000000000000000000000109000000000000000000890000000089000892248100000000000000000089000000008900089224810000000089000890240800089024080240800400) (.lf 0x149000000000000000000c900000000c9000c9324c1000000000000000000c900000000c9000c9324c100000000c9000c912448000c9124481244810440000000000000000000c900000000c9000c9324c100000000c9000c912448000c912448124481044000000000c9000c912448000c9124481244810440000c912448124480240812448024080240800400)) (.nd (.lf 0x129000000000000000000a900000000a9000a92a4a1000000000000000000a900000000a9000a92a4a100000000a9000a92a489000a92a4892a48922481000000000000000000a900000000a9000a92a4a100000000a9000a90a428000a90a4280a4280842000000000a9000a90a428000a90a4280a42808420000a90a4280a428024080a428024080240800400) (.lf 0xe900000000e9000e93a4e100000000e9000e91a468000e91a4681a4681846000000000e9000e91a468000e91a4681a46818460000e91a4681a468124481a46812448124481044000000000e9000e91a468000e91a4681a46818460000e91a4681a4680a4281a4680a4280a42808420000e91a4681a4680a4281a4680a4280a428084201a4680a4280a428024080a428024080240800400))) (.nd (.nd (.lf 0x1190000000000000000011900000001190011946509000000000000000000990000000099000992649100000000990009926489000992648926489224810000000000000000009900000000990009926491000000009900099264890009926489264892248100000000990009906418000990641806418044100009906418064180240806418024080240800400) (.lf 0xd900000000d9000d9364d100000000d9000d9364c9000d9364c9364c9324c100000000d9000d916458000d9164581645814450000d91645816458124481645812448124481044000000000d9000d916458000d9164581645814450000d916458164581244816458124481244810440000d9164581645806418164580641806418044101645806418064180240806418024080240800400)) (.nd (.lf 0xb900000000b9000b92e4b100000000b9000b92e4a9000b92e4a92e4a92a4a100000000b9000b92e499000b92e4992e49926491000b92e4992e499264892e49926489264892248100000000b9000b90e438000b90e4380e4380c430000b90e4380e4380a4280e4380a4280a42808420000b90e4380e438064180e4380641806418044100e43806418064180240806418024080240800400) (.lf 0xf9000f91e478000f91e4781e4781c470000f91e4781e4781a4681e4781a4681a46818460000f91e4781e478164581e4781645816458144501e47816458164581244816458124481244810440000f91e4781e4780e4381e4780e4380e4380c4301e4780e4380e4380a4280e4380a4280a428084201e4780e4380e438064180e4380641806418044100e43806418064180240806418024080240800400))))) (.nd (.nd (.nd (.nd (.lf 0x105000000000000000000000000000000000000010500000000000000000105000000008500085214810000000000000000000000000000000000000105000000000000000001050000000085000852148100000000000000000105000000008500085214810000000085000852148100085014040140400400) (.lf 0x1450000000000000000014500000000c5000c5314c10000000000000000014500000000c5000c5314c100000000c5000c5314c1000c51144411444104400000000000000000014500000000c5000c5314c100000000c5000c5314c1000c511444114441044000000000c5000c5314c1000c5114441144410440000c511444114441044011444014040140400400)) (.nd (.lf 0x1250000000000000000012500000000a5000a5294a10000000000000000012500000000a5000a5294a100000000a5000a5294a1000a52948529485214810000000000000000012500000000a5000a5294a100000000a5000a5294a1000a509424094240842000000000a5000a5294a1000a5094240942408420000a509424094240842009424014040140400400) (.lf 0x16500000000e5000e5394e100000000e5000e5394e1000e519464194641846000000000e5000e5394e1000e5194641946418460000e51946419464184601946411444114441044000000000e5000e5394e1000e5194641946418460000e519464194641846019464094240942408420000e5194641946418460194640942409424084201946409424094240842009424014040140400400))) (.nd (.nd (.lf 0x1150000000000000000011500000001150011545505000000000000000001150000000095000952549100000000950009525491000952548525485214810000000000000000011500000000950009525491000000009500095254910009525485254852148100000000950009525491000950541405414044100009505414054140441005414014040140400400) (.lf 0x15500000000d5000d5354d100000000d5000d5354d1000d5354c5354c5314c100000000d5000d5354d1000d5154541545414450000d51545415454144501545411444114441044000000000d5000d5354d1000d5154541545414450000d515454154541445015454114441144410440000d5154541545414450154540541405414044101545405414054140441005414014040140400400)) (.nd (.lf 0x13500000000b5000b52d4b100000000b5000b52d4b1000b52d4a52d4a5294a100000000b5000b52d4b1000b52d4952d49525491000b52d4952d495254912d49525485254852148100000000b5000b52d4b1000b50d4340d4340c430000b50d4340d4340c4300d434094240942408420000b50d4340d4340c4300d4340541405414044100d43405414054140441005414014040140400400) (.lf 0xf5000f53d4f1000f51d4741d4741c470000f51d4741d4741c4701d474194641946418460000f51d4741d4741c4701d4741545415454144501d47415454154541445015454114441144410440000f51d4741d4741c4701d4740d4340d4340c4301d4740d4340d4340c4300d4340942409424084201d4740d4340d4340c4300d4340541405414044100d43405414054140441005414014040140400400)))) (.nd (.nd (.nd (.lf 0x18d0000000000000000010d000000010d0010d435050000000000000000010d000000010d0010d43505000000008d0008d234890008d2348523485214810000000000000000010d000000010d0010d43505000000008d0008d234890008d234852348521481000000008d0008d234890008d2348523485214810008d0340c0340c024080340c014040140400400) (.lf 0x14d000000014d0014d5354500000000cd000cd334c9000cd334c5334c5314c100000000cd000cd334c9000cd334c5334c5314c1000cd1344c1344c124481344c11444114441044000000000cd000cd334c9000cd334c5334c5314c1000cd1344c1344c124481344c114441144410440000cd1344c1344c124481344c1144411444104401344c0340c0340c024080340c014040140400400)) (.nd (.lf 0x12d000000012d0012d4b52500000000ad000ad2b4a9000ad2b4a52b4a5294a100000000ad000ad2b4a9000ad2b4a52b4a5294a1000ad2b48d2b48d234892b48d23485234852148100000000ad000ad2b4a9000ad2b4a52b4a5294a1000ad0b42c0b42c0a4280b42c094240942408420000ad0b42c0b42c0a4280b42c0942409424084200b42c0340c0340c024080340c014040140400400) (.lf 0xed000ed3b4e9000ed3b4e53b4e5394e1000ed1b46c1b46c1a4681b46c194641946418460000ed1b46c1b46c1a4681b46c1946419464184601b46c1344c1344c124481344c114441144410440000ed1b46c1b46c1a4681b46c1946419464184601b46c0b42c0b42c0a4280b42c0942409424084201b46c0b42c0b42c0a4280b42c0942409424084200b42c0340c0340c024080340c014040140400400))) (.nd (.nd (.lf 0x11d000000011d0011d47515000000011d0011d4750d0011d4750d4750d43505000000009d0009d274990009d2749527495254910009d2748d2748d234892748d234852348521481000000009d0009d274990009d2749527495254910009d2748d2748d234892748d2348523485214810009d0741c0741c064180741c0541405414044100741c0340c0340c024080340c014040140400400) (.lf 0xdd000dd374d9000dd374d5374d5354d1000dd374cd374cd334c9374cd334c5334c5314c1000dd1745c1745c164581745c1545415454144501745c1344c1344c124481344c114441144410440000dd1745c1745c164581745c1545415454144501745c1344c1344c124481344c1144411444104401745c0741c0741c064180741c0541405414044100741c0340c0340c024080340c014040140400400)) (.nd (.lf 0xbd000bd2f4b9000bd2f4b52f4b52d4b1000bd2f4ad2f4ad2b4a92f4ad2b4a52b4a5294a1000bd2f49d2f49d274992f49d2749527495254912f49d2748d2748d234892748d234852348521481000bd0f43c0f43c0e4380f43c0d4340d4340c4300f43c0b42c0b42c0a4280b42c0942409424084200f43c0741c0741c064180741c0541405414044100741c0340c0340c024080340c014040140400400) (.lf 0xfd1f47c1f47c1e4781f47c1d4741d4741c4701f47c1b46c1b46c1a4681b46c1946419464184601f47c1745c1745c164581745c1545415454144501745c1344c1344c124481344c1144411444104401f47c0f43c0f43c0e4380f43c0d4340d4340c4300f43c0b42c0b42c0a4280b42c0942409424084200f43c0741c0741c064180741c0541405414044100741c0340c0340c024080340c014040140400400)))))) (.nd (.nd (.nd (.nd (.nd (.lf 0x10300000000000000000000000000000000000001030000000000000000010300000001030008320c8100000000000000000000000000000000000001030000000000000000010300000001030008320c810000000000000000010300000001030008320c8100000001030008320c810008320c8100c0200400) (.lf 0x143000000000000000001430000000143000c330cc1000000000000000001430000000143000c330cc10000000143000c330cc1000c330cc110c4210440000000000000000001430000000143000c330cc10000000143000c330cc1000c330cc110c42104400000000143000c330cc1000c330cc110c4210440000c330cc110c421044010c421044000c0200400)) (.nd (.lf 0x123000000000000000001230000000123000a328ca1000000000000000001230000000123000a328ca10000000123000a328ca1000a328ca128c8320c81000000000000000001230000000123000a328ca10000000123000a328ca1000a328ca108c22084200000000123000a328ca1000a328ca108c2208420000a328ca108c220842008c220842000c0200400) (.lf 0x1630000000163000e338ce10000000163000e338ce1000e338ce118c62184600000000163000e338ce1000e338ce118c6218460000e338ce118c621846018c621846010c42104400000000163000e338ce1000e338ce118c6218460000e338ce118c621846018c621846008c2208420000e338ce118c621846018c621846008c220842018c621846008c220842008c220842000c0200400))) (.nd (.nd (.lf 0x1130000000000000000011300000001130011344d030000000000000000011300000001130009324c9100000001130009324c910009324c9124c8320c810000000000000000011300000001130009324c9100000001130009324c910009324c9124c8320c8100000001130009324c910009324c9104c12044100009324c9104c120441004c120441000c0200400) (.lf 0x1530000000153000d334cd10000000153000d334cd1000d334cd134cc330cc10000000153000d334cd1000d334cd114c5214450000d334cd114c521445014c521445010c42104400000000153000d334cd1000d334cd114c5214450000d334cd114c521445014c521445010c4210440000d334cd114c521445014c521445004c120441014c521445004c120441004c120441000c0200400)) (.nd (.lf 0x1330000000133000b32ccb10000000133000b32ccb1000b32ccb12cca328ca10000000133000b32ccb1000b32ccb12cc9324c91000b32ccb12cc9324c912cc9324c9124c8320c810000000133000b32ccb1000b32ccb10cc320c430000b32ccb10cc320c4300cc320c43008c2208420000b32ccb10cc320c4300cc320c43004c12044100cc320c43004c120441004c120441000c0200400) (.lf 0x173000f33ccf1000f33ccf11cc721c470000f33ccf11cc721c4701cc721c47018c6218460000f33ccf11cc721c4701cc721c47014c52144501cc721c47014c521445014c521445010c4210440000f33ccf11cc721c4701cc721c4700cc320c4301cc721c4700cc320c4300cc320c43008c22084201cc721c4700cc320c4300cc320c43004c12044100cc320c43004c120441004c120441000c0200400)))) (.nd (.nd (.nd (.lf 0x18b0000000000000000010b000000010b0010b42d030000000000000000010b000000010b0010b42d03000000010b0008b22c890008b22c8922c8320c810000000000000000010b000000010b0010b42d03000000010b0008b22c890008b22c8922c8320c81000000010b0008b22c890008b22c8922c8320c810008b22c8902c0a0240802c0a0240800c0200400) (.lf 0x14b000000014b0014b52d43000000014b000cb32cc9000cb32cc932cc330cc1000000014b000cb32cc9000cb32cc932cc330cc1000cb32cc912c4a1244812c4a1244810c4210440000000014b000cb32cc9000cb32cc932cc330cc1000cb32cc912c4a1244812c4a1244810c4210440000cb32cc912c4a1244812c4a1244810c421044012c4a1244802c0a0240802c0a0240800c0200400)) (.nd (.lf 0x12b000000012b0012b4ad23000000012b000ab2aca9000ab2aca92aca328ca1000000012b000ab2aca9000ab2aca92aca328ca1000ab2aca92ac8b22c892ac8b22c8922c8320c81000000012b000ab2aca9000ab2aca92aca328ca1000ab2aca90ac2a0a4280ac2a0a42808c2208420000ab2aca90ac2a0a4280ac2a0a42808c22084200ac2a0a42802c0a0240802c0a0240800c0200400) (.lf 0x16b000eb3ace9000eb3ace93ace338ce1000eb3ace91ac6a1a4681ac6a1a46818c6218460000eb3ace91ac6a1a4681ac6a1a46818c62184601ac6a1a46812c4a1244812c4a1244810c4210440000eb3ace91ac6a1a4681ac6a1a46818c62184601ac6a1a4680ac2a0a4280ac2a0a42808c22084201ac6a1a4680ac2a0a4280ac2a0a42808c22084200ac2a0a42802c0a0240802c0a0240800c0200400))) (.nd (.nd (.lf 0x11b000000011b0011b46d13000000011b0011b46d0b0011b46d0b46d0b42d03000000011b0009b26c990009b26c9926c9324c910009b26c9926c8b22c8926c8b22c8922c8320c81000000011b0009b26c990009b26c9926c9324c910009b26c9926c8b22c8926c8b22c8922c8320c810009b26c9906c1a0641806c1a0641804c120441006c1a0641802c0a0240802c0a0240800c0200400) (.lf 0x15b000db36cd9000db36cd936cd334cd1000db36cd936ccb32cc936ccb32cc932cc330cc1000db36cd916c5a1645816c5a1645814c521445016c5a1645812c4a1244812c4a1244810c4210440000db36cd916c5a1645816c5a1645814c521445016c5a1645812c4a1244812c4a1244810c421044016c5a1645806c1a0641806c1a0641804c120441006c1a0641802c0a0240802c0a0240800c0200400)) (.nd (.lf 0x13b000bb2ecb9000bb2ecb92ecb32ccb1000bb2ecb92ecab2aca92ecab2aca92aca328ca1000bb2ecb92ec9b26c992ec9b26c9926c9324c912ec9b26c9926c8b22c8926c8b22c8922c8320c81000bb2ecb90ec3a0e4380ec3a0e4380cc320c4300ec3a0e4380ac2a0a4280ac2a0a42808c22084200ec3a0e43806c1a0641806c1a0641804c120441006c1a0641802c0a0240802c0a0240800c0200400) (.lf 0xfb3ecf91ec7a1e4781ec7a1e4781cc721c4701ec7a1e4781ac6a1a4681ac6a1a46818c62184601ec7a1e47816c5a1645816c5a1645814c521445016c5a1645812c4a1244812c4a1244810c42104401ec7a1e4780ec3a0e4380ec3a0e4380cc320c4300ec3a0e4380ac2a0a4280ac2a0a42808c22084200ec3a0e43806c1a0641806c1a0641804c120441006c1a0641802c0a0240802c0a0240800c0200400))))) (.nd (.nd (.nd (.nd (.lf 0x1870000000000000000018700000001070010741d030000000000000000018700000001070010741d0300000001070010741d030008721c8521c8320c810000000000000000018700000001070010741d0300000001070010741d030008721c8521c8320c8100000001070010741d030008721c8521c8320c810008721c8521c8320c8101c060140400c0200400) (.lf 0x1c700000001470014751d4300000001470014751d43000c731cc531cc330cc100000001470014751d43000c731cc531cc330cc1000c731cc531cc330cc111c461144410c421044000000001470014751d43000c731cc531cc330cc1000c731cc531cc330cc111c461144410c4210440000c731cc531cc330cc111c461144410c421044011c461144410c421044001c060140400c0200400)) (.nd (.lf 0x1a700000001270012749d2300000001270012749d23000a729ca529ca328ca100000001270012749d23000a729ca529ca328ca1000a729ca529ca328ca129c8721c8521c8320c8100000001270012749d23000a729ca529ca328ca1000a729ca529ca328ca109c260942408c2208420000a729ca529ca328ca109c260942408c220842009c260942408c220842001c060140400c0200400) (.lf 0x1670016759d63000e739ce539ce338ce1000e739ce539ce338ce119c661946418c6218460000e739ce539ce338ce119c661946418c621846019c661946418c621846011c461144410c4210440000e739ce539ce338ce119c661946418c621846019c661946418c621846009c260942408c220842019c661946418c621846009c260942408c220842009c260942408c220842001c060140400c0200400))) (.nd (.nd (.lf 0x19700000001170011745d1300000001170011745d130011745d0745d0741d0300000001170011745d130009725c9525c9324c910009725c9525c9324c9125c8721c8521c8320c8100000001170011745d130009725c9525c9324c910009725c9525c9324c9125c8721c8521c8320c810009725c9525c9324c9105c160541404c120441005c160541404c120441001c060140400c0200400) (.lf 0x1570015755d53000d735cd535cd334cd1000d735cd535cd334cd135cc731cc531cc330cc1000d735cd535cd334cd115c561545414c521445015c561545414c521445011c461144410c4210440000d735cd535cd334cd115c561545414c521445015c561545414c521445011c461144410c421044015c561545414c521445005c160541404c120441005c160541404c120441001c060140400c0200400)) (.nd (.lf 0x137001374dd33000b72dcb52dcb32ccb1000b72dcb52dcb32ccb12dca729ca529ca328ca1000b72dcb52dcb32ccb12dc9725c9525c9324c912dc9725c9525c9324c9125c8721c8521c8320c81000b72dcb52dcb32ccb10dc360d4340cc320c4300dc360d4340cc320c43009c260942408c22084200dc360d4340cc320c43005c160541404c120441005c160541404c120441001c060140400c0200400) (.lf 0xf73dcf53dcf33ccf11dc761d4741cc721c4701dc761d4741cc721c47019c661946418c62184601dc761d4741cc721c47015c561545414c521445015c561545414c521445011c461144410c42104401dc761d4741cc721c4700dc360d4340cc320c4300dc360d4340cc320c43009c260942408c22084200dc360d4340cc320c43005c160541404c120441005c160541404c120441001c060140400c0200400)))) (.nd (.nd (.nd (.lf 0x18f000000018f0018f63d87000000010f0010f43d0b0010f43d0743d0741d03000000010f0010f43d0b0010f43d0743d0741d030008f23c8d23c8b22c8923c8721c8521c8320c81000000010f0010f43d0b0010f43d0743d0741d030008f23c8d23c8b22c8923c8721c8521c8320c810008f23c8d23c8b22c8923c8721c8521c8320c8103c0e0340c02c0a0240801c060140400c0200400) (.lf 0x14f0014f53d4b0014f53d4753d4751d43000cf33ccd33ccb32cc933cc731cc531cc330cc1000cf33ccd33ccb32cc933cc731cc531cc330cc113c4e1344c12c4a1244811c461144410c4210440000cf33ccd33ccb32cc933cc731cc531cc330cc113c4e1344c12c4a1244811c461144410c421044013c4e1344c12c4a1244811c461144410c421044003c0e0340c02c0a0240801c060140400c0200400)) (.nd (.lf 0x12f0012f4bd2b0012f4bd274bd2749d23000af2bcad2bcab2aca92bca729ca529ca328ca1000af2bcad2bcab2aca92bca729ca529ca328ca12bc8f23c8d23c8b22c8923c8721c8521c8320c81000af2bcad2bcab2aca92bca729ca529ca328ca10bc2e0b42c0ac2a0a42809c260942408c22084200bc2e0b42c0ac2a0a42809c260942408c220842003c0e0340c02c0a0240801c060140400c0200400) (.lf 0xef3bced3bceb3ace93bce739ce539ce338ce11bc6e1b46c1ac6a1a46819c661946418c62184601bc6e1b46c1ac6a1a46819c661946418c621846013c4e1344c12c4a1244811c461144410c42104401bc6e1b46c1ac6a1a46819c661946418c62184600bc2e0b42c0ac2a0a42809c260942408c22084200bc2e0b42c0ac2a0a42809c260942408c220842003c0e0340c02c0a0240801c060140400c0200400))) (.nd (.nd (.lf 0x11f0011f47d1b0011f47d1747d1745d130011f47d0f47d0f43d0b47d0f43d0743d0741d030009f27c9d27c9b26c9927c9725c9525c9324c9127c8f23c8d23c8b22c8923c8721c8521c8320c810009f27c9d27c9b26c9927c9725c9525c9324c9127c8f23c8d23c8b22c8923c8721c8521c8320c8107c1e0741c06c1a0641805c160541404c120441003c0e0340c02c0a0240801c060140400c0200400) (.lf 0xdf37cdd37cdb36cd937cd735cd535cd334cd137ccf33ccd33ccb32cc933cc731cc531cc330cc117c5e1745c16c5a1645815c561545414c521445013c4e1344c12c4a1244811c461144410c421044017c5e1745c16c5a1645815c561545414c521445013c4e1344c12c4a1244811c461144410c421044007c1e0741c06c1a0641805c160541404c120441003c0e0340c02c0a0240801c060140400c0200400)) (.nd (.lf 0xbf2fcbd2fcbb2ecb92fcb72dcb52dcb32ccb12fcaf2bcad2bcab2aca92bca729ca529ca328ca12fc9f27c9d27c9b26c9927c9725c9525c9324c9127c8f23c8d23c8b22c8923c8721c8521c8320c810fc3e0f43c0ec3a0e4380dc360d4340cc320c4300bc2e0b42c0ac2a0a42809c260942408c220842007c1e0741c06c1a0641805c160541404c120441003c0e0340c02c0a0240801c060140400c0200400) (.lf 0x1fc7e1f47c1ec7a1e4781dc761d4741cc721c4701bc6e1b46c1ac6a1a46819c661946418c621846017c5e1745c16c5a1645815c561545414c521445013c4e1344c12c4a1244811c461144410c42104400fc3e0f43c0ec3a0e4380dc360d4340cc320c4300bc2e0b42c0ac2a0a42809c260942408c220842007c1e0741c06c1a0641805c160541404c120441003c0e0340c02c0a0240801c060140400c0200400))))))))
noncomputable def rowT (f : Nat) : Nat := ttab.at f
noncomputable def ent (row c : Nat) : Nat := Nat.mod (Nat.shiftRight row (Nat.mul 10 c)) 1024
noncomputable def tD (c f : Nat) : Nat := Nat.mod (ent (rowT f) c) 128
noncomputable def tK (c f : Nat) : Nat := Nat.div (ent (rowT f) c) 128
noncomputable def rws : List Nat := [1, 2, 3, 4, 5, 6, 7, 9, 10, 11, 12, 13, 14, 15, 18, 19, 20, 21, 22, 23, 25, 26, 27, 28, 29, 30, 36, 37, 38, 39, 41, 42, 43, 44, 45, 46, 50, 51, 52, 53, 54, 57, 58, 60, 73, 74, 75, 76, 77, 78, 82, 83, 84, 85, 86, 89, 90, 92, 100, 101, 102, 105, 106, 108, 114, 116, 124, 126, 127]
noncomputable def allN : Nat → (Nat → Bool) → Bool
  | 0, _ => true
  | n + 1, p => match p n with
    | true => allN n p
    | false => false
noncomputable def allL : List Nat → (Nat → Bool) → Bool
  | [], _ => true
  | a :: l, p => match p a with
    | true => allL l p
    | false => false
theorem allN_at : ∀ {n : Nat} {p : Nat → Bool}, allN n p = true → ∀ i, i < n → p i = true
  | 0, _, _, i, h => absurd h (Nat.not_lt_zero _)
  | n + 1, p, e, i, h => by
    unfold allN at e
    cases q : p n with
    | false => rw [q] at e; cases e
    | true =>
      rw [q] at e
      by_cases h2 : i = n
      · rw [h2]; exact q
      · exact allN_at e i (by omega)
theorem allL_at : ∀ {l : List Nat} {p : Nat → Bool}, allL l p = true → ∀ i ∈ l, p i = true
  | a :: l, p, e, i, h => by
    unfold allL at e
    cases q : p a with
    | false => rw [q] at e; cases e
    | true =>
      rw [q] at e
      rcases List.mem_cons.mp h with h | h
      · rw [h]; exact q
      · exact allL_at e i h
noncomputable def pairOk (c f : Nat) : Bool := match Nat.ble (cnN 7 c) (cnN 7 f) with
  | false => true
  | true => Nat.beq (dmN 7 c f (dqN 7 c f 0)) (tD c f) && (Nat.beq (dqN 7 c f 0) (tK c f) && (Nat.beq (pkO c 7 f 0) (Nat.add (Nat.xor f (tD c f)) (Nat.mul 128 (tK c f))) && (Nat.beq (cnN 7 (tD c f)) (cnN 7 c) && (Nat.beq (Nat.land f (tD c f)) (tD c f) && Nat.ble (tK c f) (cnN 7 c)))))
theorem pairs_ok : allN 128 (fun c => allN 128 fun f => pairOk c f) = true := by decide +kernel
structure PairOk (c f : Nat) : Prop where
  dm : dmN 7 c f (dqN 7 c f 0) = tD c f
  dk : dqN 7 c f 0 = tK c f
  pk : pkO c 7 f 0 = (f ^^^ tD c f) + 128 * tK c f
  cn : cnN 7 (tD c f) = cnN 7 c
  sub : f &&& tD c f = tD c f
  le : tK c f ≤ cnN 7 c
theorem pair_ok {c f : Nat} (hc : c < 128) (hf : f < 128) (h : cnN 7 c ≤ cnN 7 f) : PairOk c f := by
  have z := allN_at (allN_at pairs_ok c hc) f hf
  unfold pairOk at z
  rw [Nat.ble_eq_true_of_le h] at z
  simp only [Bool.and_eq_true] at z
  obtain ⟨z1, z2, z3, z4, z5, z6⟩ := z
  exact ⟨Nat.eq_of_beq_eq_true z1, Nat.eq_of_beq_eq_true z2, Nat.eq_of_beq_eq_true z3, Nat.eq_of_beq_eq_true z4, Nat.eq_of_beq_eq_true z5, Nat.le_of_ble_eq_true z6⟩
theorem tD_lt (c f : Nat) : tD c f < 128 := Nat.mod_lt _ (by decide)
theorem cn_le (c : Nat) : cnN 7 c ≤ 7 := by
  rw [← cnt_bitsN]
  exact Nat.le_trans List.countP_le_length (Nat.le_of_eq (bits_len 7 c))
/-- the line, and the parking, by masks -/
theorem line_mask {c f : Nat} (hc : c < 128) (hf : f < 128) (h : cnN 7 c ≤ cnN 7 f) (come : List Wd) (hs : come.map nonE = bitsN 7 c) (hd : ∀ x ∈ come, x ≠ .d) :
    lineW come (bitsN 7 f) = put (bitsN 7 (tD c f)) (rotW (come.filter nonE) (tK c f)) ∧ parkedW come (bitsN 7 f) = put (bitsN 7 (tD c f)) (rotW (come.filter nonE) (tK c f)) := by
  have P := pair_ok hc hf h
  have hl : come.length = 7 := by
    have := congrArg List.length hs
    rw [List.length_map, bits_len] at this
    exact this
  have hg : (come.filter nonE).length = cnN 7 c := by rw [← shape_cnt, hs, cnt_bitsN]
  constructor
  · have z := lineW_put come (bitsN 7 f) hl (bits_len 7 f) hd
    rw [hs, dq_bits, dmask_bits, P.dm, P.dk, cnt_bitsN, P.cn, hg] at z
    exact z (Nat.le_refl _)
  · rw [parkedW_put, hs]
    obtain ⟨L, k, hL, e1, e2⟩ := pkO_is c 7 f 0 (Nat.le_refl _) hf
    rw [e2]
    rw [P.pk] at e1
    have hx : f ^^^ tD c f < 128 := Nat.xor_lt_two_pow (n := 7) hf (tD_lt c f)
    have eL : L = f ^^^ tD c f := by omega
    have ek : k = tK c f := by omega
    subst eL ek
    congr 1
    have t : ∀ j, j < 7 → took (bitsN 7 f) (bitsN 7 (f ^^^ tD c f)) j = (bitsN 7 (tD c f)).getD j false := fun j hj => by
      unfold took
      rw [bits_get 7 _ j hj, bits_get 7 _ j hj, bits_get 7 _ j hj, Nat.testBit_xor]
      have s := congrArg (fun m => Nat.testBit m j) P.sub
      simp only [Nat.testBit_and] at s
      revert s
      generalize f.testBit j = a
      generalize (tD c f).testBit j = b
      revert a b
      decide
    show [took _ _ 0, took _ _ 1, took _ _ 2, took _ _ 3, took _ _ 4, took _ _ 5, took _ _ 6] = _
    rw [t 0 (by decide), t 1 (by decide), t 2 (by decide), t 3 (by decide), t 4 (by decide), t 5 (by decide), t 6 (by decide)]
    rfl
end Mine
end
section
set_option maxRecDepth 100000
set_option maxHeartbeats 400000
namespace Mine
open PySem
/-! who is exchanged for whom -/
/-- first through e then l, against first q then s -/
noncomputable def tri1 (re rl rq rs g n : Nat) : Bool := match Nat.beq (Nat.mod (ent rl (Nat.mod (ent re g) 128)) 128) (Nat.mod (ent rs (Nat.mod (ent rq g) 128)) 128) with
  | true => Nat.beq (Nat.mod (Nat.add (Nat.div (ent re g) 128) (Nat.div (ent rl (Nat.mod (ent re g) 128)) 128)) n) (Nat.mod (Nat.add (Nat.div (ent rq g) 128) (Nat.div (ent rs (Nat.mod (ent rq g) 128)) 128)) n)
  | false => false
noncomputable def slowN (e l : Nat) : Nat := tD e l
noncomputable def quickN (e l : Nat) : Nat := Nat.sub (Nat.add e l) (tD e l)
noncomputable def triOk (e l g : Nat) : Bool := match Nat.ble (cnN 7 g) (cnN 7 e) with
  | false => true
  | true => tri1 (rowT e) (rowT l) (rowT (quickN e l)) (rowT (slowN e l)) g (cnN 7 g)
noncomputable def exOk (e l : Nat) : Bool := Nat.ble (slowN e l) (Nat.add e l) && (Nat.ble (quickN e l) 127 && (Nat.beq (cnN 7 (quickN e l)) (cnN 7 l) && (decide (Builtin.bitOr (.ofNat e) (Builtin.bitXor (Builtin.bitXor (.ofNat e) (.ofNat l)) (.ofNat (slowN e l))) = .ofNat (quickN e l)) && (Nat.beq (tD (rvN 7 (slowN e l) 0) (rvN 7 (quickN e l) 0)) (rvN 7 e 0) && (Nat.beq (tK (rvN 7 (slowN e l) 0) (rvN 7 (quickN e l) 0)) (tK e l) && Nat.ble (cnN 7 (rvN 7 (slowN e l) 0)) (cnN 7 (rvN 7 (quickN e l) 0)))))))
noncomputable def elOk (e l : Nat) : Bool := match Nat.ble (cnN 7 e) (cnN 7 l) with
  | false => true
  | true => match exOk e l with
    | false => false
    | true => allL rws (triOk e l)
noncomputable def rws1 : List Nat := rws.take 23
noncomputable def rws2 : List Nat := (rws.drop 23).take 23
noncomputable def rws3 : List Nat := rws.drop 46
theorem els_ok1 : allL rws1 (fun e => allL rws (elOk e)) = true := by decide +kernel
theorem els_ok2 : allL rws2 (fun e => allL rws (elOk e)) = true := by decide +kernel
theorem els_ok3 : allL rws3 (fun e => allL rws (elOk e)) = true := by decide +kernel
end Mine
end
section
set_option genInjectivity false
set_option maxRecDepth 100000
set_option maxHeartbeats 400000
namespace Mine
open PySem
structure ElOk (e l : Nat) : Prop where
  sl : slowN e l ≤ e + l
  q7 : quickN e l < 128
  qc : cnN 7 (quickN e l) = cnN 7 l
  qx : Builtin.bitOr (.ofNat e) (Builtin.bitXor (Builtin.bitXor (.ofNat e) (.ofNat l)) (.ofNat (slowN e l))) = .ofNat (quickN e l)
  rd : tD (rvN 7 (slowN e l) 0) (rvN 7 (quickN e l) 0) = rvN 7 e 0
  rk : tK (rvN 7 (slowN e l) 0) (rvN 7 (quickN e l) 0) = tK e l
  rc : cnN 7 (rvN 7 (slowN e l) 0) ≤ cnN 7 (rvN 7 (quickN e l) 0)
  tri : ∀ g ∈ rws, triOk e l g = true
theorem rws_in {e : Nat} (h : e ∈ rws) : e ∈ rws1 ∨ e ∈ rws2 ∨ e ∈ rws3 := by
  have : rws = rws1 ++ (rws2 ++ rws3) := by decide +kernel
  rw [this] at h
  rcases List.mem_append.mp h with h | h
  · exact .inl h
  · exact .inr (List.mem_append.mp h)
theorem el_ok {e l : Nat} (he : e ∈ rws) (hl : l ∈ rws) (h : cnN 7 e ≤ cnN 7 l) : ElOk e l := by
  have z : elOk e l = true := by
    rcases rws_in he with q | q | q
    · exact allL_at (allL_at els_ok1 e q) l hl
    · exact allL_at (allL_at els_ok2 e q) l hl
    · exact allL_at (allL_at els_ok3 e q) l hl
  unfold elOk at z
  rw [Nat.ble_eq_true_of_le h] at z
  cases q : exOk e l with
  | false => rw [q] at z; cases z
  | true =>
    rw [q] at z
    unfold exOk at q
    simp only [Bool.and_eq_true] at q
    obtain ⟨q1, q2, q3, q4, q5, q6, q7⟩ := q
    exact ⟨Nat.le_of_ble_eq_true q1, Nat.lt_succ_of_le (Nat.le_of_ble_eq_true q2), Nat.eq_of_beq_eq_true q3, of_decide_eq_true q4, Nat.eq_of_beq_eq_true q5, Nat.eq_of_beq_eq_true q6, Nat.le_of_ble_eq_true q7, allL_at z⟩
theorem rws_lt : ∀ e ∈ rws, e < 128 := by decide +kernel
theorem tri_ok {e l g : Nat} (E : ElOk e l) (hg : g ∈ rws) (h : cnN 7 g ≤ cnN 7 e) :
    tD (tD g e) l = tD (tD g (quickN e l)) (slowN e l) ∧ (tK g e + tK (tD g e) l) % cnN 7 g = (tK g (quickN e l) + tK (tD g (quickN e l)) (slowN e l)) % cnN 7 g := by
  have z := E.tri g hg
  unfold triOk at z
  rw [Nat.ble_eq_true_of_le h] at z
  have z' : tri1 (rowT e) (rowT l) (rowT (quickN e l)) (rowT (slowN e l)) g (cnN 7 g) = true := z
  unfold tri1 at z'
  split at z'
  · rename_i q
    exact ⟨Nat.eq_of_beq_eq_true q, Nat.eq_of_beq_eq_true z'⟩
  · cases z'
theorem packI_bits : ∀ m : Fin 128, packI (bitsN 7 m.1) 7 = .ofNat m.1 ∧ (List.range 7).map (bitW m.1) = bitsN 7 m.1 ∧ (namedW (bitsN 7 m.1)).map nonE = bitsN 7 m.1 := by decide +kernel
theorem named_bare (b : List Bool) : ∀ x ∈ namedW b, x ≠ .d := namedW_bare b
theorem non_bare {l : List Wd} (h : ∀ x ∈ l, x ≠ .d) : ∀ x ∈ l.filter nonE, x ≠ .d := fun x hx => h x (List.mem_filter.mp hx).1
theorem put_mem {p : Wd → Prop} (h0 : p .e) : ∀ (D : List Bool) (gs : List Wd), (∀ x ∈ gs, p x) → ∀ x ∈ put D gs, p x
  | [], _, _, _, h => nomatch h
  | false :: D, gs, hg, x, hx => by
    rcases List.mem_cons.mp hx with rfl | hx
    · exact h0
    · exact put_mem h0 D gs hg x hx
  | true :: D, [], hg, x, hx => by
    rcases List.mem_cons.mp hx with rfl | hx
    · exact h0
    · exact put_mem h0 D [] hg x hx
  | true :: D, g :: gs, hg, x, hx => by
    rcases List.mem_cons.mp hx with rfl | hx
    · exact hg _ (.head _)
    · exact put_mem h0 D gs (fun x hx => hg x (.tail _ hx)) x hx
/-- guests in order, given as a shape and who they are -/
structure Come (c : Nat) (come gs : List Wd) : Prop where
  sh : come.map nonE = bitsN 7 c
  gu : come.filter nonE = gs
  nd : ∀ x ∈ come, x ≠ .d
theorem Come.len {c : Nat} {come gs : List Wd} (C : Come c come gs) : gs.length = cnN 7 c := by rw [← C.gu, ← shape_cnt, C.sh, cnt_bitsN]
theorem Come.is {c : Nat} {come gs : List Wd} (C : Come c come gs) : come = put (bitsN 7 c) gs := by
  rw [self_put come, C.sh, C.gu]
theorem Come.line {c f : Nat} {come gs : List Wd} (C : Come c come gs) (hc : c < 128) (hf : f < 128) (h : cnN 7 c ≤ cnN 7 f) :
    Come (tD c f) (lineW come (bitsN 7 f)) (rotW gs (tK c f)) ∧ lineW come (bitsN 7 f) = parkedW come (bitsN 7 f) := by
  obtain ⟨e1, e2⟩ := line_mask hc hf h come C.sh C.nd
  rw [e1, e2, C.gu]
  have P := pair_ok hc hf h
  have gn : ∀ x ∈ rotW gs (tK c f), nonE x = true := rot_mem (p := fun x => nonE x = true) (by rw [← C.gu]; exact guests_non)
  have gl : cntT (bitsN 7 (tD c f)) = (rotW gs (tK c f)).length := by rw [cnt_bitsN, rot_len, P.cn, C.len]
  refine ⟨⟨put_shape _ _ gn (Nat.le_of_eq gl), put_guests _ _ gn gl, put_mem (p := fun x => x ≠ .d) (by simp) _ _ (rot_mem (p := fun x => x ≠ .d) (by rw [← C.gu]; exact non_bare C.nd))⟩, rfl⟩
theorem Come.rev {c : Nat} {come gs : List Wd} (C : Come c come gs) (hc : c < 128) : Come (rvN 7 c 0) come.reverse gs.reverse :=
  ⟨by rw [List.map_reverse, C.sh]; exact (rv_bits ⟨c, hc⟩).1, by rw [List.filter_reverse, C.gu], fun x hx => C.nd x (List.mem_reverse.mp hx)⟩
theorem named_come {m : Nat} (hm : m < 128) : Come m (namedW (bitsN 7 m)) ((namedW (bitsN 7 m)).filter nonE) := ⟨(packI_bits ⟨m, hm⟩).2.2, rfl, named_bare _⟩
theorem good_rows {g e l : Nat} (hg : g ∈ rws) (he : e ∈ rws) (hl : l ∈ rws) (h1 : cnN 7 g ≤ cnN 7 e) (h2 : cnN 7 e ≤ cnN 7 l) : Good (bitsN 7 g) (bitsN 7 e) (bitsN 7 l) (quickN e l) := by
  have E := el_ok he hl h2
  have g7 := rws_lt g hg
  have e7 := rws_lt e he
  have l7 := rws_lt l hl
  have Pge := pair_ok g7 e7 h1
  have Pel := pair_ok e7 l7 h2
  have hs : marksW (lineW (namedW (bitsN 7 e)) (bitsN 7 l)) = bitsN 7 (slowN e l) := ((named_come e7).line e7 l7 h2).1.sh
  have hq := (packI_bits ⟨quickN e l, E.q7⟩).2.1
  obtain ⟨H, eH⟩ := (named_come g7).line g7 e7 h1
  have h1l : cnN 7 (tD g e) ≤ cnN 7 l := by rw [Pge.cn]; exact Nat.le_trans h1 h2
  obtain ⟨G, eG⟩ := H.line (tD_lt g e) l7 h1l
  have hgq : cnN 7 g ≤ cnN 7 (quickN e l) := by rw [E.qc]; exact Nat.le_trans h1 h2
  have Pgq := pair_ok g7 E.q7 hgq
  obtain ⟨H', _⟩ := (named_come g7).line g7 E.q7 hgq
  have hqs : cnN 7 (tD g (quickN e l)) ≤ cnN 7 (slowN e l) := by
    rw [Pgq.cn]
    show _ ≤ cnN 7 (tD e l)
    rw [Pel.cn]; exact h1
  have Pqs := pair_ok (tD_lt g (quickN e l)) (tD_lt e l) hqs
  have Pel' := pair_ok (tD_lt g e) l7 h1l
  obtain ⟨G', _⟩ := H'.line (tD_lt g (quickN e l)) (tD_lt e l) hqs
  obtain ⟨S, eS⟩ := (named_come e7).line e7 l7 h2
  refine ⟨eH, eG, eS, ?_, ?_, E.q7, ?_, ?_⟩
  · rw [hs, (packI_bits ⟨e, e7⟩).1, (packI_bits ⟨l, l7⟩).1, (packI_bits ⟨slowN e l, tD_lt e l⟩).1]
    have := E.sl
    show (e : Int) + (l : Int) - (slowN e l : Int) = ((quickN e l : Nat) : Int)
    have q : quickN e l = e + l - slowN e l := rfl
    omega
  · rw [hs, (packI_bits ⟨e, e7⟩).1, (packI_bits ⟨l, l7⟩).1, (packI_bits ⟨slowN e l, tD_lt e l⟩).1]
    have := E.sl
    have x : (e : Int) + (l : Int) - (slowN e l : Int) = ((quickN e l : Nat) : Int) := by
      have q : quickN e l = e + l - slowN e l := rfl
      omega
    exact Eq.trans x E.qx.symm
  · rw [hs]
    show lineW (lineW _ ((List.range 7).map (bitW (⟨quickN e l, E.q7⟩ : Fin 128).1))) (bitsN 7 (tD e l)) = _
    rw [hq]
    show lineW (lineW _ (bitsN 7 (quickN e l))) (bitsN 7 (tD e l)) = _
    rw [G.is, G'.is]
    obtain ⟨t1, t2⟩ := tri_ok E hg h1
    have hn := (named_come g7).len
    have n7 := cn_le g
    rw [show tD (tD g (quickN e l)) (tD e l) = tD (tD g e) l from t1.symm]
    congr 1
    have k1 := Pge.le
    have k2 := Pel'.le
    have k3 := Pgq.le
    have k4 := Pqs.le
    rw [Pge.cn] at k2
    rw [Pgq.cn] at k4
    rw [rotW_rotW _ _ _ (by omega) (by omega) (by omega), rotW_rotW _ _ _ (by omega) (by omega) (by omega), hn]
    exact congrArg _ t2.symm
  · show lineW _ ((List.range 7).map (bitW (⟨quickN e l, E.q7⟩ : Fin 128).1)).reverse = _
    rw [hq]
    have R := S.rev (tD_lt e l)
    rw [(rv_bits ⟨quickN e l, E.q7⟩).1]
    obtain ⟨Z, _⟩ := R.line (rv_bits ⟨slowN e l, tD_lt e l⟩).2 (rv_bits ⟨quickN e l, E.q7⟩).2 E.rc
    rw [Z.is, ((named_come e7).rev e7).is]
    rw [show tD (rvN 7 (tD e l) 0) (rvN 7 (quickN e l) 0) = rvN 7 e 0 from E.rd, show tK (rvN 7 (tD e l) 0) (rvN 7 (quickN e l) 0) = tK e l from E.rk]
    congr 1
    exact rotW_rev _ _ (by rw [(named_come e7).len]; exact cn_le e) (by rw [(named_come e7).len]; exact Pel.le)
end Mine
end
section
set_option genInjectivity false
set_option maxRecDepth 100000
set_option maxHeartbeats 400000
namespace Mine
open PySem
/-! every ruler that a script can reach -/
noncomputable def rowNo : List Bool → Nat
  | [] => 0
  | b :: l => Nat.add (cond b 1 0) (Nat.mul 2 (rowNo l))
noncomputable def sA : List Int := [0, 1, 2, 3]
noncomputable def sB : List Int := [0, 1, 2, 3, 127]
noncomputable def sD : List Int := [127, 2, 1, 3]
noncomputable def bsEq : List Bool → List Bool → Bool
  | [], [] => true
  | a :: l, b :: m => match a, b with
    | true, true => bsEq l m
    | false, false => bsEq l m
    | _, _ => false
  | _, _ => false
theorem bsEq_to : ∀ {l m : List Bool}, bsEq l m = true → l = m
  | [], [], _ => rfl
  | true :: l, true :: m, h => congrArg (true :: ·) (bsEq_to (l := l) (m := m) h)
  | false :: l, false :: m, h => congrArg (false :: ·) (bsEq_to (l := l) (m := m) h)
noncomputable def okR (xs : List Int) : Bool := match clsOf xs with
  | none => false
  | some _ => bsEq (marksB xs) (sumsB xs) && (bsEq (sumsB xs) (bitsN 7 (rowNo (sumsB xs))) && rws.any (Nat.beq (rowNo (sumsB xs))))
theorem rul_ok0 : sB.all (fun b => sB.all fun c => sD.all fun d => okR [0, b, c, d]) = true := by decide +kernel
theorem rul_ok1 : sB.all (fun b => sB.all fun c => sD.all fun d => okR [1, b, c, d]) = true := by decide +kernel
theorem rul_ok2 : sB.all (fun b => sB.all fun c => sD.all fun d => okR [2, b, c, d]) = true := by decide +kernel
theorem rul_ok3 : sB.all (fun b => sB.all fun c => sD.all fun d => okR [3, b, c, d]) = true := by decide +kernel
structure RulOk (xs : List Int) : Prop where
  cls : clsOf xs ≠ none
  same : marksB xs = sumsB xs
  row : ∃ m ∈ rws, sumsB xs = bitsN 7 m
  pos : 0 ≤ xs.getD 0 0
  ne : xs.getD 0 0 ≠ 127
theorem okR_to {xs : List Int} (h : okR xs = true) : clsOf xs ≠ none ∧ marksB xs = sumsB xs ∧ ∃ m ∈ rws, sumsB xs = bitsN 7 m := by
  unfold okR at h
  cases q : clsOf xs with
  | none => rw [q] at h; cases h
  | some i =>
    rw [q] at h
    simp only [Bool.and_eq_true] at h
    obtain ⟨h1, h2, h3⟩ := h
    refine ⟨by simp, bsEq_to h1, rowNo (sumsB xs), ?_, bsEq_to h2⟩
    obtain ⟨m, hm, e⟩ := List.any_eq_true.mp h3
    rw [Nat.eq_of_beq_eq_true e]; exact hm
theorem inA (i : Nat) : ([1, 3, 1, 2, 3, 2, 1, 0] : List Int).getD i 0 ∈ sA := by
  match i with
  | 0 | 1 | 2 | 3 | 4 | 5 | 6 | 7 => decide
  | n + 8 => exact .head _
theorem inB (i : Nat) : ([1, 3, 2, 1, 2, 3, 0, 127] : List Int).getD i 0 ∈ sB := by
  match i with
  | 0 | 1 | 2 | 3 | 4 | 5 | 6 | 7 => decide
  | n + 8 => exact .head _
theorem inC (i : Nat) : ([127, 1, 0, 2, 3, 1, 127, 2] : List Int).getD i 0 ∈ sB := by
  match i with
  | 0 | 1 | 2 | 3 | 4 | 5 | 6 | 7 => decide
  | n + 8 => exact .head _
theorem inD (x : Int) : ([127, 2, 1, 3] : List Int).getD (x.fmod 4).toNat 0 ∈ sD := by
  have h : (x.fmod 4).toNat < 4 := by
    have h1 := Int.fmod_lt_of_pos x (b := 4) (by decide)
    have h0 := Int.fmod_nonneg_of_pos x (b := 4) (by decide)
    omega
  generalize (x.fmod 4).toNat = i at h
  match i, h with
  | 0, _ | 1, _ | 2, _ | 3, _ => decide
theorem rul_ok {a b c d : Int} (ha : a ∈ sA) (hb : b ∈ sB) (hc : c ∈ sB) (hd : d ∈ sD) : RulOk [a, b, c, d] := by
  have key : ∀ a', sB.all (fun b => sB.all fun c => sD.all fun d => okR [a', b, c, d]) = true → okR [a', b, c, d] = true := fun a' e =>
    List.all_eq_true.mp (List.all_eq_true.mp (List.all_eq_true.mp e b hb) c hc) d hd
  have fin : ∀ a', 0 ≤ a' → a' ≠ 127 → okR [a', b, c, d] = true → RulOk [a', b, c, d] := fun a' p n h => ⟨(okR_to h).1, (okR_to h).2.1, (okR_to h).2.2, p, n⟩
  unfold sA at ha
  simp only [List.mem_cons, List.not_mem_nil, or_false] at ha
  rcases ha with rfl | rfl | rfl | rfl
  · exact fin _ (by decide) (by decide) (key _ rul_ok0)
  · exact fin _ (by decide) (by decide) (key _ rul_ok1)
  · exact fin _ (by decide) (by decide) (key _ rul_ok2)
  · exact fin _ (by decide) (by decide) (key _ rul_ok3)
theorem ruler_ok (x : Int) : RulOk (rulerOf x) := rul_ok (inA _) (inB _) (inC _) (inD _)
theorem sorted_le {c : Nat → Int} {π : List Nat} (h : Sorted c π) : c (π.getD 0 0) ≤ c (π.getD 1 0) ∧ c (π.getD 1 0) ≤ c (π.getD 2 0) := by
  have key : ∀ i j, i < 3 → j < 3 → ltP π i j = true → c i ≤ c j := fun i j hi hj e => by
    rw [← h.2 i j hi hj] at e
    unfold lexlt at e
    split at e
    · rename_i q; exact Int.le_of_eq q
    · exact Int.le_of_lt (of_decide_eq_true e)
  have all : ∀ π ∈ perms, π.getD 0 0 < 3 ∧ π.getD 1 0 < 3 ∧ π.getD 2 0 < 3 ∧ ltP π (π.getD 0 0) (π.getD 1 0) = true ∧ ltP π (π.getD 1 0) (π.getD 2 0) = true := by decide +kernel
  obtain ⟨a, b, d, e1, e2⟩ := all π h.1
  exact ⟨key _ _ a b e1, key _ _ b d e2⟩
theorem law_ok (ns : List Int) : LawOk ns where
  cls := fun _ _ => (ruler_ok _).cls
  same := fun _ _ => (ruler_ok _).same
  len := fun k _ => by
    obtain ⟨m, _, e⟩ := (ruler_ok ((cellsOf ns).getD k 0)).row
    rw [e, bits_len]
  pos := fun _ _ => (ruler_ok _).pos
  ne := fun _ _ => (ruler_ok _).ne
  good := fun π h => by
    obtain ⟨g, hg, eg⟩ := (ruler_ok ((cellsOf ns).getD (π.getD 0 0) 0)).row
    obtain ⟨e, he, ee⟩ := (ruler_ok ((cellsOf ns).getD (π.getD 1 0) 0)).row
    obtain ⟨l, hl, el⟩ := (ruler_ok ((cellsOf ns).getD (π.getD 2 0) 0)).row
    obtain ⟨l1, l2⟩ := sorted_le h
    rw [eg, ee, cnt_bitsN, cnt_bitsN] at l1
    rw [ee, el, cnt_bitsN, cnt_bitsN] at l2
    rw [eg, ee, el]
    exact ⟨quickN e l, good_rows hg he hl (by omega) (by omega)⟩
end Mine
end
section
set_option maxRecDepth 100000
set_option maxHeartbeats 4000000
namespace Mine
open PySem PySem.Spec PySem.Calls PyProof.Rows PySem.W PySem.W.X
theorem ints_pairs : ∀ {vs : List Value} {ns : List Int}, IntsAre vs ns → ∃ xs : List (Int × Nat), vs = xs.map ivv ∧ xs.map (·.1) = ns
  | _, _, .nil => ⟨[], rfl, rfl⟩
  | _, _, .cons n t H => by
    obtain ⟨xs, e1, e2⟩ := ints_pairs H
    exact ⟨(n, t) :: xs, by rw [e1]; rfl, by rw [← e2]; rfl⟩
theorem pwM_eq : pwM = PySem.Challenge.pw_wk0016_01 := by kernel_rfl
theorem kt_is (P : Params) : KT.of (hd.heap_170 P) = hd.kt_347 P := by kernel_rfl
theorem holds_eq {h : Heap} {t t' : KT} (e : t = t') (H : KT.Holds h 1 0 t) : KT.Holds h 1 0 t' := by subst e; exact H
theorem holds_of' {h : Heap} {K : Frag} {t : KT} (e : KT.of K = t) (f : AllIn h K) : KT.Holds h 1 0 t := holds_eq e (holds_of f)
theorem holds_kt {h : Heap} {P : Params} (f : AllIn h (hd.heap_170 P)) : KT.Holds h 1 0 (hd.kt_347 P) := holds_of' (kt_is P) f
theorem holds_on {h h' : Heap} {t : KT} (k : ∀ b o, h.get? b = some o → h'.get? b = some o) (H : KT.Holds h 1 0 t) : KT.Holds h' 1 0 t := KT.Holds.keeps k H
theorem k121 (P : Params) : (hd.kt_347 P).get 121 = some tab0 := by kernel_rfl
theorem fa_is (P : Params) : nsIn (hd.heap_170 P) mainGlobals (PySem.Str.ofString "law") = some (some (.ref 177)) := by kernel_rfl
/-- the code object that table 121 belongs to, and its fields -/
noncomputable def cdM (P : Params) : Obj := ((hd.kt_347 P).get 125).getD tab0
noncomputable def fldsM (o : Obj) : Array Value := match o.data with
  | .fields vs => vs
  | _ => #[]
theorem cdM_at (P : Params) : (hd.kt_347 P).get 125 = some (cdM P) := by kernel_rfl
theorem cdM_is (P : Params) : cdM P = { cdM P with cls := .type "code", data := .fields (fldsM (cdM P)) } := by kernel_rfl
theorem cdM_tab (P : Params) : (fldsM (cdM P))[11]? = some (.ref 121) := by kernel_rfl
theorem tab_is {h : Heap} {P : Params} (H : KT.Holds h 1 0 (hd.kt_347 P)) : isCodeTable h 121 := by
  obtain ⟨_, z⟩ := table_kt H (cdM_at P) (cdM_is P) (cdM_tab P) (k121 P : _ = some (tableObj #[]))
  exact z.isCodeTable
theorem post_true (args : List WData) : rwM.row.claim.post args (.bool true) args = true := by
  refine postW_of (r := rwM.row.toRowW) (d := .bool true) (X := true == true) (by decide) ?_ rfl
  exact w_eq_bool (k := true) (l := true) (by simp [WTm.value]) (by simp [WTm.value])
/-- what law leaves is good -/
theorem end_good {s₀ s₁ : Shared} {args : List WData} {xs : List (Int × Nat)} {c1 c2 : Nat} {h' : Heap} {gl' : List GenState} {d : Drawn} {tk' : Nat} (hk : isCodeTable s₁.heap 121) (h1 : s₁.heap.get? 121 = some tab0) (h2 : s₁.heap.get? 178 = some (lst (xs.map ivv) 0))
    (F : Fra s₁.heap h' [(178, lst (xs.map ivv) 0), (121, tab0)] [(178, lst (xs.map ivv) 0), (121, tab1 c1 c2)]) (hb : bareL gl' = true) :
    GoodWG rwM.row.claim (classAt s₀.heap) (ExcName.means s₀.heap) args s₁ (.ok (.ret (.bool true))) ⟨h', ⟨gl'⟩, d, tk', s₁.os⟩ := by
  refine ⟨.inl ⟨_, .bool true, [], rfl, fun _ => rfl, .bool true, post_true args, fun _ => ⟨.nil, fun _ h => nomatch h⟩⟩, ⟨fun b o e => ?_, fun b o e => ?_⟩, rfl, fun g hg => ?_⟩
  · by_cases e1 : b = 121
    · subst e1
      rw [h1] at e
      cases e
      refine .inr (.inl ⟨hk, rfl, #[], #[.int 84 0, .int 4 0, .ref (c1 + 178), .int 88 0, .int 13 0, .ref (c2 + 178)], rfl, ?_⟩)
      rw [Array.empty_append]
      exact F.at_ _ (.tail _ (.head _))
    · by_cases e2 : b = 178
      · subst e2
        rw [h2] at e
        cases e
        exact .inl (F.at_ _ (.head _))
      · exact .inl (F.keep b o e (by simp [e1, e2]))
  · by_cases e1 : b = 121
    · subst e1
      exact ⟨_, F.at_ _ (.tail _ (.head _))⟩
    · by_cases e2 : b = 178
      · subst e2
        exact ⟨_, F.at_ _ (.head _)⟩
      · exact ⟨o, F.keep b o e (by simp [e1, e2])⟩
  · unfold bareL at hb
    exact List.all_eq_true.mp hb g (by simpa using hg)
theorem law_good {w : World} {s₀ s₁ : Shared} {args : List WData} {ns : List Int} {vs : List Value} (hv : IntsAre vs ns) (hn : ns.length ≤ 63) (hg : s₁.gens = #[]) (hs : s₁.heap.objs.size = 178 + 1) (ht : 408 ≤ s₁.toks)
    (H : KT.Holds s₁.heap 1 0 (hd.kt_347 w.params)) (hl : s₁.heap.get? 178 = some { cls := .type "list", data := .seq vs.toArray }) (lim : s₁.heap.NoLimit) :
    wpAny (model PySem.Challenge.pw_wk0016_01 w) callerA (call (.ref 177) [.ref 178])
      (fun v s' => GoodWG rwM.row.claim (classAt s₀.heap) (ExcName.means s₀.heap) args s₁ (.ok (.ret v)) s')
      (fun e s' => GoodWG rwM.row.claim (classAt s₀.heap) (ExcName.means s₀.heap) args s₁ (.error e) s') s₁ := by
  obtain ⟨xs, rfl, rfl⟩ := ints_pairs hv
  have h1 : s₁.heap.get? 121 = some tab0 := kt_at H (k121 w.params)
  have hk := tab_is H
  have P : Pre (ktw w) s₁.heap [(0 + 178, lst (xs.map ivv) 0), (121, tab0)] := by
    refine ⟨fun a o _ e => kt_at H e, fun p hp => ?_, by simp, fun p hp => ?_, lim, by omega⟩
    · rcases List.mem_cons.mp hp with rfl | hp
      · exact hl
      · rw [List.mem_singleton.mp hp]; exact h1
    · rcases List.mem_cons.mp hp with rfl | hp
      · exact .inl (Nat.le_refl _)
      · rw [List.mem_singleton.mp hp]; exact .inr rfl
  refine wpAny_call ?_
  obtain ⟨hp, gn, dr, tk, os⟩ := s₁
  dsimp only at hg ht
  subst hg
  rw [List.length_map] at hn
  exact law_spec w 408 (by decide) [] 0 0 xs (by omega) (law_ok _) callerA _ hp dr tk os rfl rfl ⟨by decide, by decide⟩ P ht fun r h' E' gl' tk' _ F ⟨e1, ⟨c1, c2, e2⟩, hb⟩ => by
    subst e1 e2
    exact end_good hk h1 hl F (hb rfl)
theorem holdsM : rwM.row.Holds := by
  refine hd ?_
  intro w s₀ s₁ mg mb G y fa o pm cd doc dV kV ho hd' hcd hD hmg hg args vals as L hpre hlay hrd hwl hlo
  obtain ⟨f1, f2, f3, f4⟩ := z_facts (K := hd.heap_170) (fun P => by kernel_rfl) y
  refine Ground.open G ?_
  intro T B D TE TW
  have H1 : KT.Holds s₁.heap 1 0 (hd.kt_347 w.params) := holds_on L.keeps (holds_kt f1)
  have f2' : InK hd.heap_170 w s₁.heap := InK.keeps w s₀.heap s₁.heap f2 L.keeps
  have hfa : mg (PySem.Str.ofString "law") = some (.ref 177) := mg_of f2' T.g (fa_is w.params)
  have hfa' : fa = 177 := by
    have : some (Value.ref fa) = some (.ref 177) := hmg.symm.trans hfa
    injection this with this
    injection this
  subst hfa'
  have lim := T.nolimit
  clear T B D TE TW G y hcd hD hd' ho f1 f2 f2' hfa hmg
  wrow_args hpre hlay hrd hwl hlo
  obtain ⟨hat, hsz⟩ := script_at L
  have htk := script_toks L f4
  rw [f3] at hat hsz
  subst hat
  have hl := script_obj L (by assumption)
  rw [show model rwM.row.toRowW.prog w = model PySem.Challenge.pw_wk0016_01 w from congrArg (fun p => model p w) pwM_eq]
  exact law_good (by assumption) (by omega) hg hsz htk H1 hl lim
theorem saidM : rwM.wellSaid = true := by decide +kernel
theorem holdsL : rwM.Holds := holds_law saidM fun _ => holdsM
theorem row_is : PySem.Challenge.rw_wk0016_01 = rwM := by kernel_rfl
end Mine
theorem PySem.Challenge.cw_wk0016_01_holds : PySem.Challenge.rw_wk0016_01.Holds := by
  rw [Mine.row_is]
  exact Mine.holdsL
end
