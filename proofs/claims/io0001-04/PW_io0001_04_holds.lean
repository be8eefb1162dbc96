import PyProof.Rows.All
import Wide.All
import OpenK.AllK
import Wide.FinOn
import PySem.Challenge.RW_io0001_04
set_option linter.all false
set_option Elab.async false
set_option maxRecDepth 100000
set_option maxHeartbeats 0
namespace Mine
open PySem PySem.W

inductive Tr (α : Type) where
  | nil
  | node (v : α) (l r : Tr α)
namespace Tr
variable {α : Type}
noncomputable def get : Tr α → Nat → Option α
  | .nil, _ => none
  | .node v l r, i => match Nat.beq i 0 with
    | true => some v
    | false => match Nat.beq (i % 2) 1 with
      | true => l.get (i / 2)
      | false => r.get (i / 2 - 1)
noncomputable def set : Tr α → Nat → α → Tr α
  | .nil, _, _ => .nil
  | .node v l r, i, x => match Nat.beq i 0 with
    | true => .node x l r
    | false => match Nat.beq (i % 2) 1 with
      | true => .node v (l.set (i / 2) x) r
      | false => .node v l (r.set (i / 2 - 1) x)
noncomputable def ins : Tr α → Nat → α → Tr α
  | .nil, _, o => .node o .nil .nil
  | .node v l r, i, o => match Nat.beq i 0 with
    | true => .node o l r
    | false => match Nat.beq (i % 2) 1 with
      | true => .node v (l.ins (i / 2) o) r
      | false => .node v l (r.ins (i / 2 - 1) o)
theorem get_node (v : α) (l r : Tr α) (i : Nat) : (node v l r).get i = if i = 0 then some v else if i % 2 = 1 then l.get (i / 2) else r.get (i / 2 - 1) := by
  show (match Nat.beq i 0 with | true => some v | false => match Nat.beq (i % 2) 1 with | true => l.get (i / 2) | false => r.get (i / 2 - 1)) = _
  rw [BT.beq_eq, BT.beq_eq]
  by_cases h : i = 0
  · simp [h]
  · by_cases q : i % 2 = 1 <;> simp [h, q]
theorem set_node (v : α) (l r : Tr α) (i : Nat) (x : α) : (node v l r).set i x = if i = 0 then node x l r else if i % 2 = 1 then node v (l.set (i / 2) x) r else node v l (r.set (i / 2 - 1) x) := by
  show (match Nat.beq i 0 with | true => node x l r | false => match Nat.beq (i % 2) 1 with | true => node v (l.set (i / 2) x) r | false => node v l (r.set (i / 2 - 1) x)) = _
  rw [BT.beq_eq, BT.beq_eq]
  by_cases h : i = 0
  · simp [h]
  · by_cases q : i % 2 = 1 <;> simp [h, q]
theorem ins_node (v : α) (l r : Tr α) (i : Nat) (o : α) : (node v l r).ins i o = if i = 0 then node o l r else if i % 2 = 1 then node v (l.ins (i / 2) o) r else node v l (r.ins (i / 2 - 1) o) := by
  show (match Nat.beq i 0 with | true => node o l r | false => match Nat.beq (i % 2) 1 with | true => node v (l.ins (i / 2) o) r | false => node v l (r.ins (i / 2 - 1) o)) = _
  rw [BT.beq_eq, BT.beq_eq]
  by_cases h : i = 0
  · simp [h]
  · by_cases q : i % 2 = 1 <;> simp [h, q]
theorem get_set (x : α) : ∀ (t : Tr α) (a i : Nat), (t.set a x).get i = if i = a then (t.get a).map (fun _ => x) else t.get i
  | .nil, a, i => by show (Tr.nil.get i) = _; simp [get]
  | .node v l r, a, i => by
    rw [set_node, get_node v l r a, get_node v l r i]
    by_cases ha : a = 0
    · subst ha
      rw [if_pos rfl, get_node]
      by_cases hi : i = 0
      · simp [hi]
      · simp [hi]
    · rw [if_neg ha]
      by_cases pa : a % 2 = 1
      · rw [if_pos pa, get_node]
        by_cases hi : i = 0
        · have : i ≠ a := by omega
          simp [hi, Ne.symm ha]
        · by_cases pi : i % 2 = 1
          · simp only [hi, pi, ha, pa, if_true, if_false, get_set x l]
            by_cases e : i = a
            · simp [e]
            · have : i / 2 ≠ a / 2 := by omega
              simp [e, this]
          · have : i ≠ a := fun q => pi (q ▸ pa)
            simp [hi, pi, this]
      · rw [if_neg pa, get_node]
        by_cases hi : i = 0
        · simp [hi, Ne.symm ha]
        · by_cases pi : i % 2 = 1
          · have : i ≠ a := fun q => pa (q ▸ pi)
            simp [hi, pi, this]
          · simp only [hi, pi, ha, pa, if_false, get_set x r]
            by_cases e : i = a
            · simp [e]
            · have : i / 2 - 1 ≠ a / 2 - 1 := by omega
              simp [e, this]
theorem get_ins (o : α) : ∀ (t : Tr α) (a : Nat), ((t.ins a o).get a).isSome = true → ∀ i, (t.ins a o).get i = if i = a then some o else t.get i
  | .nil, a, h, i => by
    have e : (Tr.nil.ins a o) = node o nil nil := rfl
    rw [e, get_node] at h
    have ha : a = 0 := by
      by_cases q : a = 0
      · exact q
      · exfalso; revert h; by_cases p : a % 2 = 1 <;> simp [q, p, get]
    subst ha
    rw [e, get_node]
    by_cases hi : i = 0
    · simp [hi]
    · by_cases p : i % 2 = 1 <;> simp [hi, p, get]
  | .node v l r, a, h, i => by
    rw [ins_node] at h ⊢
    rw [get_node v l r i]
    by_cases ha : a = 0
    · subst ha
      rw [if_pos rfl, get_node]
      by_cases hi : i = 0 <;> simp [hi]
    · rw [if_neg ha] at h ⊢
      by_cases pa : a % 2 = 1
      · rw [if_pos pa] at h ⊢
        rw [get_node, if_neg ha, if_pos pa] at h
        rw [get_node]
        by_cases hi : i = 0
        · simp [hi, Ne.symm ha]
        · by_cases pi : i % 2 = 1
          · simp only [hi, pi, if_true, if_false, get_ins o l _ h]
            by_cases e : i = a
            · simp [e]
            · have : i / 2 ≠ a / 2 := by omega
              simp [e, this]
          · have : i ≠ a := fun q => pi (q ▸ pa)
            simp [hi, pi, this]
      · rw [if_neg pa] at h ⊢
        rw [get_node, if_neg ha, if_neg pa] at h
        rw [get_node]
        by_cases hi : i = 0
        · simp [hi, Ne.symm ha]
        · by_cases pi : i % 2 = 1
          · have : i ≠ a := fun q => pa (q ▸ pi)
            simp [hi, pi, this]
          · simp only [hi, pi, if_false, get_ins o r _ h]
            by_cases e : i = a
            · simp [e]
            · have : i / 2 - 1 ≠ a / 2 - 1 := by omega
              simp [e, this]
end Tr

/-- what a call does, said ahead: its code, its result, what it asks of the heap and what it turns -/
structure Summ where
  code : Code
  res : Result
  pre : List (Nat × Nat × Obj) := []
  post : List (Nat × Nat × Obj) := []
  new : List (Nat × Obj) := []
  dsz : Option Nat := none
  dl : Nat := 0
  dtok : Nat := 0
  newg : List GenState := []
  needs : List (Nat × List (Nat × Obj)) := []
  facts : List (List (Nat × Obj)) := []
  shape : List (Code × Pos) → Bool := fun _ => true
  atS : Option Nat := none
  atT : Option Nat := none

/-- a stretch inside one tree, said ahead -/
structure Mid where
  X : Sem Fin
  Y : Sem Fin
  pre : List (Nat × Nat × Obj) := []
  post : List (Nat × Nat × Obj) := []

/-- a call that also turns the run's own generators -/
structure GSumm where
  S : Summ
  gb : Nat
  gpre : List GenState
  gpost : List GenState

inductive Op where
  | k (n : Nat)
  | s (i : Nat)
  | u (S : Code → Nat → Nat → Summ)
  | a (S : Code → Nat → Nat → Summ)
  | m (M : Nat → Nat → Mid)
  | q (M : List (Code × Pos) → Nat → Nat → Mid)
  | e (M : Nat → Nat → Mid)
  | g (S : Code → Nat → Nat → GSumm)

noncomputable def restK : Nat → List Op → List Op
  | 0, r => r
  | n + 1, r => .k n :: r

inductive SideV where
  | n (a : Nat)
  | o (o : Obj)
  | c (c : Code)
  | b (b : Bool)
  | h (v : Option Value)
  | f (l : List (Nat × Obj))
  | t (t : Sem Fin)
  | gs (l : List GenState)

noncomputable abbrev Mem := Tr (Nat × Obj)

structure Out where
  T : Mem
  m : Nat
  sz : Nat
  base : List GenState
  own : List GenState
  toks : Nat
  F : List (List (Nat × Obj))
  cur : Sem Fin
  code : Code
  pos : Pos
  st : List Frame
  L : List SideV
  R : List SideV
  ops : List Op

noncomputable def putPost : List (Nat × Nat × Obj) → Mem → Mem
  | [], T => T
  | (i, a, o) :: r, T => putPost r (T.set i (a, o))
noncomputable def putNew (sz : Nat) : List (Nat × Obj) → Mem → Nat → Mem × Nat
  | [], T, m => (T, m)
  | (d, o) :: r, T, m => putNew sz r (T.ins m (sz + d, o)) (m + 1)
noncomputable def newOk (sz : Nat) : List (Nat × Obj) → Mem → Nat → Bool
  | [], _, _ => true
  | (d, o) :: r, T, m => match (T.ins m (sz + d, o)).get m with
    | some _ => newOk sz r (T.ins m (sz + d, o)) (m + 1)
    | none => false
/-- the sides that a summary lays: what its rows say, what stands there -/
noncomputable def preL : List (Nat × Nat × Obj) → List SideV → List SideV
  | [], L => L
  | (_, a, o) :: r, L => preL r (.o o :: .n a :: L)
noncomputable def preR (T : Mem) : List (Nat × Nat × Obj) → List SideV → Option (List SideV)
  | [], R => some R
  | (i, _, _) :: r, R => match T.get i with
    | some (a, o) => preR T r (.o o :: .n a :: R)
    | none => none
noncomputable def atL : List (Nat × Nat × Obj) → List SideV → List SideV
  | [], L => L
  | (_, a, _) :: r, L => atL r (.n a :: L)
noncomputable def atR (T : Mem) : List (Nat × Nat × Obj) → List SideV → Option (List SideV)
  | [], R => some R
  | (i, _, _) :: r, R => match T.get i with
    | some (a, _) => atR T r (.n a :: R)
    | none => none
noncomputable def needL : List (Nat × List (Nat × Obj)) → List SideV → List SideV
  | [], L => L
  | (_, l) :: r, L => needL r (.f l :: L)
noncomputable def needR (F : List (List (Nat × Obj))) : List (Nat × List (Nat × Obj)) → List SideV → Option (List SideV)
  | [], R => some R
  | (i, _) :: r, R => match F[i]? with
    | some l => needR F r (.f l :: R)
    | none => none

noncomputable def atsL (S : Summ) (L : List SideV) : List SideV := match S.atS with
  | none => (match S.atT with
    | none => L
    | some b => .n b :: L)
  | some a => (match S.atT with
    | none => .n a :: L
    | some b => .n b :: .n a :: L)
noncomputable def atsR (S : Summ) (sz tok : Nat) (R : List SideV) : List SideV := match S.atS with
  | none => (match S.atT with
    | none => R
    | some _ => .n tok :: R)
  | some _ => (match S.atT with
    | none => .n sz :: R
    | some _ => .n tok :: .n sz :: R)
theorem ats_spec {S : Summ} {sz tok : Nat} {L R : List SideV} (h : atsL S L = atsR S sz tok R) : L = R ∧ (∀ a, S.atS = some a → sz = a) ∧ (∀ a, S.atT = some a → tok = a) := by
  unfold atsL atsR at h
  cases h1 : S.atS with
  | none =>
    cases h2 : S.atT with
    | none => simp only [h1, h2] at h; exact ⟨h, (fun _ z => nomatch z), (fun _ z => nomatch z)⟩
    | some b =>
      simp only [h1, h2, List.cons.injEq, SideV.n.injEq] at h
      exact ⟨h.2, (fun _ z => nomatch z), (fun _ z => by cases z; exact h.1.symm)⟩
  | some a =>
    cases h2 : S.atT with
    | none =>
      simp only [h1, h2, List.cons.injEq, SideV.n.injEq] at h
      exact ⟨h.2, (fun _ z => by cases z; exact h.1.symm), (fun _ z => nomatch z)⟩
    | some b =>
      simp only [h1, h2, List.cons.injEq, SideV.n.injEq] at h
      exact ⟨h.2.2, (fun _ z => by cases z; exact h.2.1.symm), (fun _ z => by cases z; exact h.1.symm)⟩
noncomputable def appG (g : List GenState) : List GenState → List GenState
  | [] => g
  | x :: l => g ++ x :: l
/-- all generators -/
noncomputable def Out.gens (o : Out) : List GenState := appG o.base o.own
theorem appG_eq (g l : List GenState) : appG g l = g ++ l := by cases l <;> simp [appG]
noncomputable def addZ : Option Nat → Nat → Nat
  | none, z => z
  | some d, z => d + z
theorem addZ_eq (d : Option Nat) (z : Nat) : addZ d z = d.getD 0 + z := by cases d <;> simp [addZ]

section
variable (tb : String → Option Builtin) (p : Program) (w : World) (K : Nat → Option Obj) (W : List (Code × Pos))

noncomputable abbrev RunTy := List Op → Mem → Nat → Nat → List GenState → List GenState → Nat → List (List (Nat × Obj)) → Sem Fin → Code → Pos → List Frame → List SideV → List SideV → Option Out

/-- the call of a summary -/
noncomputable def useS (ih : RunTy) (S : Summ) (ops : List Op) (T : Mem) (m sz : Nat) (gens own : List GenState) (toks : Nat) (F : List (List (Nat × Obj))) (c : Code) (hd : Option Value) (k : Result → Sem Fin) (code : Code) (pos : Pos) (st : List Frame) (L R : List SideV) : Option Out :=
  match preR T S.pre (atsR S sz toks R) with
  | none => none
  | some R' => match atR T S.post R' with
    | none => none
    | some R' => match needR F S.needs R' with
      | none => none
      | some R' => match newOk sz S.new (putPost S.post T) m with
        | false => none
        | true => ih ops (putNew sz S.new (putPost S.post T) m).1 (putNew sz S.new (putPost S.post T) m).2 (addZ S.dsz sz + S.dl) gens (appG own S.newg) (toks + S.dtok) (S.facts ++ F) (k S.res) code pos st
          (.b true :: .h none :: .h none :: .c S.code :: needL S.needs (atL S.post (preL S.pre (atsL S L))))
          (.b (S.shape ((code, pos) :: (st.map Frame.where_ ++ W))) :: .h (topHandled st) :: .h hd :: .c c :: R')

/-- the call of a summary that turns the run's own generators -/
noncomputable def useG (ih : RunTy) (G : GSumm) (ops : List Op) (T : Mem) (m sz : Nat) (gens own : List GenState) (toks : Nat) (F : List (List (Nat × Obj))) (c : Code) (hd : Option Value) (k : Result → Sem Fin) (code : Code) (pos : Pos) (st : List Frame) (L R : List SideV) : Option Out :=
  match preR T G.S.pre (atsR G.S sz toks R) with
  | none => none
  | some R' => match atR T G.S.post R' with
    | none => none
    | some R' => match needR F G.S.needs R' with
      | none => none
      | some R' => match newOk sz G.S.new (putPost G.S.post T) m with
        | false => none
        | true => ih ops (putNew sz G.S.new (putPost G.S.post T) m).1 (putNew sz G.S.new (putPost G.S.post T) m).2 (addZ G.S.dsz sz + G.S.dl) gens G.gpost (toks + G.S.dtok) (G.S.facts ++ F) (k G.S.res) code pos st
          (.gs G.gpre :: .n G.gb :: .b true :: .h none :: .h none :: .c G.S.code :: needL G.S.needs (atL G.S.post (preL G.S.pre (atsL G.S L))))
          (.gs own :: .n gens.length :: .b (G.S.shape ((code, pos) :: (st.map Frame.where_ ++ W))) :: .h (topHandled st) :: .h hd :: .c c :: R')

/-- a stretch -/
noncomputable def useM (ih : RunTy) (M : Mid) (ops : List Op) (T : Mem) (m sz : Nat) (gens own : List GenState) (toks : Nat) (F : List (List (Nat × Obj))) (cur : Sem Fin) (code : Code) (pos : Pos) (st : List Frame) (L R : List SideV) : Option Out :=
  match preR T M.pre R with
  | none => none
  | some R' => match atR T M.post R' with
    | none => none
    | some R' => ih ops (putPost M.post T) m sz gens own toks F M.Y code pos st (.h none :: .t M.X :: atL M.post (preL M.pre L)) (.h (topHandled st) :: .t cur :: R')

noncomputable def stepO (ih : RunTy) : RunTy := fun ops T m sz gens own toks F cur code pos st L R => match cur with
  | .pure fin => match fin with
    | .done f => match st with
      | [] => none
      | fr :: st' => match fr with
        | .ret k _ _ _ c q _ => ih ops T m sz gens own toks F (k (.ok f)) c q st' L R
        | .gen g k _ c q => match ops with
          | [] => none
          | op :: ops' => match op with
            | .s i => ih ops' T m sz gens (own.set i .finished) toks F (k (.returned (match f with | .ret v => v | _ => .none))) c q st' (.n g :: L) (.n (gens.length + i) :: R)
            | .k _ => none
            | .u _ => none
            | .a _ => none
            | .m _ => none
            | .q _ => none
            | .e _ => none
            | .g _ => none
    | .again c => match c.quiet with
      | false => none
      | true => match ops with
        | [] => ih [] T m sz gens own toks F (denote tb c) c pos st L R
        | op :: ops' => match op with
          | .k n => ih (.k n :: ops') T m sz gens own toks F (denote tb c) c pos st L R
          | .s i => ih (.s i :: ops') T m sz gens own toks F (denote tb c) c pos st L R
          | .u S => ih (.u S :: ops') T m sz gens own toks F (denote tb c) c pos st L R
          | .m M => ih (.m M :: ops') T m sz gens own toks F (denote tb c) c pos st L R
          | .q M => ih (.q M :: ops') T m sz gens own toks F (denote tb c) c pos st L R
          | .e M => ih (.e M :: ops') T m sz gens own toks F (denote tb c) c pos st L R
          | .g S => match st with
            | [] => none
            | fr :: st' => match fr with
              | .ret k h _ _ c0 q _ => useG W ih (S c sz toks) ops' T m sz gens own toks F c h k c0 q st' L R
              | .gen .. => none
          | .a S => match st with
            | [] => none
            | fr :: st' => match fr with
              | .ret k h _ _ c0 q _ => useS W ih (S c sz toks) ops' T m sz gens own toks F c h k c0 q st' L R
              | .gen .. => none
  | .raise e => match st with
    | [] => none
    | fr :: st' => match fr with
      | .ret k _ _ _ c q _ => ih ops T m sz gens own toks F (k (.error e)) c q st' L R
      | .gen g k _ c q => match ops with
        | [] => none
        | op :: ops' => match op with
          | .s i => ih ops' T m sz gens (own.set i .finished) toks F (k (.raised e)) c q st' (.n g :: L) (.n (gens.length + i) :: R)
          | .k _ => none
          | .u _ => none
          | .a _ => none
          | .m _ => none
          | .q _ => none
          | .e _ => none
          | .g _ => none
  | .rule _ k => ih ops T m sz gens own toks F (k ()) code pos st L R
  | .at q k => match ops with
    | [] => ih [] T m sz gens own toks F (k ()) code q st L R
    | op :: ops' => match op with
      | .k x => ih (.k x :: ops') T m sz gens own toks F (k ()) code q st L R
      | .s x => ih (.s x :: ops') T m sz gens own toks F (k ()) code q st L R
      | .u x => ih (.u x :: ops') T m sz gens own toks F (k ()) code q st L R
      | .a x => ih (.a x :: ops') T m sz gens own toks F (k ()) code q st L R
      | .m x => ih (.m x :: ops') T m sz gens own toks F (k ()) code q st L R
      | .q x => ih (.q x :: ops') T m sz gens own toks F (k ()) code q st L R
      | .g x => ih (.g x :: ops') T m sz gens own toks F (k ()) code q st L R
      | .e M => useM ih (M sz toks) ops' T m sz gens own toks F cur code pos st L R
  | .point _ k => ih ops T m sz gens own toks F (k ()) code pos st L R
  | .ask k => ih ops T m sz gens own toks F (k ⟨p, w.params⟩) code pos st L R
  | .fresh k => ih ops T m sz gens own (toks + 1) F (k toks) code pos st L R
  | .handled ow k => ih ops T m sz gens own toks F (k (topHandled (match ow with | true => ownFrames st | false => st))) code pos st L R
  | .stack k => match ops with
    | [] => ih [] T m sz gens own toks F (k ((code, pos) :: (st.map Frame.where_ ++ W))) code pos st L R
    | op :: ops' => match op with
      | .k n => ih (.k n :: ops') T m sz gens own toks F (k ((code, pos) :: (st.map Frame.where_ ++ W))) code pos st L R
      | .s i => ih (.s i :: ops') T m sz gens own toks F (k ((code, pos) :: (st.map Frame.where_ ++ W))) code pos st L R
      | .u S => ih (.u S :: ops') T m sz gens own toks F (k ((code, pos) :: (st.map Frame.where_ ++ W))) code pos st L R
      | .a S => ih (.a S :: ops') T m sz gens own toks F (k ((code, pos) :: (st.map Frame.where_ ++ W))) code pos st L R
      | .m M => ih (.m M :: ops') T m sz gens own toks F (k ((code, pos) :: (st.map Frame.where_ ++ W))) code pos st L R
      | .e M => ih (.e M :: ops') T m sz gens own toks F (k ((code, pos) :: (st.map Frame.where_ ++ W))) code pos st L R
      | .g M => ih (.g M :: ops') T m sz gens own toks F (k ((code, pos) :: (st.map Frame.where_ ++ W))) code pos st L R
      | .q M => useM ih (M ((code, pos) :: (st.map Frame.where_ ++ W)) sz toks) ops' T m sz gens own toks F (k ((code, pos) :: (st.map Frame.where_ ++ W))) code pos st L R
  | .thread k => ih ops T m sz gens own toks F (k 0) code pos st L R
  | .alloc o k => match o.isFreed with
    | true => none
    | false => match (T.ins m (sz, o)).get m with
      | some _ => ih ops (T.ins m (sz, o)) (m + 1) (sz + 1) gens own toks F (k sz) code pos st L R
      | none => none
  | .load a _ k => match ops with
    | [] => none
    | op :: ops' => match op with
      | .k n => match K a with
        | some o => ih (restK n ops') T m sz gens own toks F (k o) code pos st L R
        | none => none
      | .s i => match T.get i with
        | some (b, o) => ih ops' T m sz gens own toks F (k o) code pos st (.n a :: L) (.n b :: R)
        | none => none
      | .u _ => none
      | .a _ => none
      | .m M => useM ih (M sz toks) ops' T m sz gens own toks F cur code pos st L R
      | .q _ => none
      | .e _ => none
      | .g _ => none
  | .loadIfAlive a k => match ops with
    | [] => none
    | op :: ops' => match op with
      | .k n => match K a with
        | some o => ih (restK n ops') T m sz gens own toks F (k (some o)) code pos st L R
        | none => none
      | .s i => match T.get i with
        | some (b, o) => ih ops' T m sz gens own toks F (k (some o)) code pos st (.n a :: L) (.n b :: R)
        | none => none
      | .u _ => none
      | .a _ => none
      | .m _ => none
      | .q _ => none
      | .e _ => none
      | .g _ => none
  | .update a _ f k => match ops with
    | [] => none
    | op :: ops' => match op with
      | .k _ => none
      | .s i => match T.get i with
        | some (b, o) => match (f o).isFreed with
          | true => none
          | false => ih ops' (T.set i (b, f o)) m sz gens own toks F (k ()) code pos st (.n a :: L) (.n b :: R)
        | none => none
      | .u _ => none
      | .a _ => none
      | .m _ => none
      | .q _ => none
      | .e _ => none
      | .g _ => none
  | .call c h g l k => match ops with
    | [] => none
    | op :: ops' => match op with
      | .k n => ih (restK n ops') T m sz gens own toks F (denote tb c) c pos (.ret k h g l code pos [] :: st) L R
      | .s _ => none
      | .u S => useS W ih (S c sz toks) ops' T m sz gens own toks F c h k code pos st L R
      | .a _ => none
      | .m _ => none
      | .q _ => none
      | .e _ => none
      | .g _ => none
  | .newGen c k => ih ops T m sz gens (own ++ [.fresh c]) toks F (k (gens.length + own.length)) code pos st L R
  | .genState g k => match ops with
    | [] => none
    | op :: ops' => match op with
      | .s i => match own[i]? with
        | some x => ih ops' T m sz gens own toks F (k x.seen) code pos st (.n g :: L) (.n (gens.length + i) :: R)
        | none => none
      | .k _ => none
      | .u _ => none
      | .a _ => none
      | .m _ => none
      | .q _ => none
      | .e _ => none
      | .g _ => none
  | .resume g r l k => match ops with
    | [] => none
    | op :: ops' => match op with
      | .s i => match own[i]? with
        | none => none
        | some x => match x with
          | .fresh c => match r with
            | .send v => match v with
              | .none => ih ops' T m sz gens (own.set i .running) toks F (denote tb c) c pos (.gen g k l code pos :: st) (.n g :: L) (.n (gens.length + i) :: R)
              | _ => none
            | .throw _ => none
          | .suspended kk _ c q fs _ => ih ops' T m sz gens (own.set i .running) toks F (kk r) c q (fs ++ .gen g k l code pos :: st) (.n g :: L) (.n (gens.length + i) :: R)
          | .running => none
          | .finished => none
      | .k _ => none
      | .u _ => none
      | .a _ => none
      | .m _ => none
      | .q _ => none
      | .e _ => none
      | .g _ => none
  | .yield v gd l k => match splitAtGen st with
    | none => none
    | some (fs, (g, kk, c, q), rest) => match (End.susp v gd l k code pos fs).quiet with
      | false => none
      | true => match ops with
        | [] => none
        | op :: ops' => match op with
          | .s i => ih ops' T m sz gens (own.set i (End.susp v gd l k code pos fs).genState) toks F (kk (.yielded v)) c q rest (.n g :: L) (.n (gens.length + i) :: R)
          | .k _ => none
          | .u _ => none
          | .a _ => none
          | .m _ => none
          | .q _ => none
          | .e _ => none
          | .g _ => none
  | .unsupported _ => none
  | .finish _ => none
  | .register .. => none
  | .choose .. => none
  | .os .. => none
  | .fork .. => none
  | .await .. => none
noncomputable def runG : Nat → RunTy
  | 0 => fun ops T m sz gens own toks F cur code pos st L R => some ⟨T, m, sz, gens, own, toks, F, cur, code, pos, st, L, R, ops⟩
  | n + 1 => stepO tb p w K W (runG n)
/-- a run whose own generators are yet to be made -/
noncomputable def run (n : Nat) (ops : List Op) (T : Mem) (m sz : Nat) (gens : List GenState) (toks : Nat) (F : List (List (Nat × Obj))) (cur : Sem Fin) (code : Code) (pos : Pos) (st : List Frame) (L R : List SideV) : Option Out :=
  runG tb p w K W n ops T m sz gens [] toks F cur code pos st L R
end

/-- the heap bears the memory -/
structure Rep (h₀ : Heap) (free : List Nat) (h : Heap) (T : Mem) (m sz : Nat) (F : List (List (Nat × Obj))) : Prop where
  size : h.objs.size = sz
  slot : ∀ i a o, T.get i = some (a, o) → i < m ∧ h.get? a = some o
  inj : ∀ i j a o o', T.get i = some (a, o) → T.get j = some (a, o') → i = j
  keep : ∀ b o, h₀.get? b = some o → b ∉ free → h.get? b = some o
  own : ∀ i a o, T.get i = some (a, o) → a ∈ free ∨ h₀.get? a = none
  sub : h₀.objs.size ≤ h.objs.size
  fact : ∀ l ∈ F, ∀ q ∈ l, h.get? q.1 = some q.2 ∧ ∀ i o, T.get i ≠ some (q.1, o)

/-- a summary is true of the machine: from the code's entry to the frame that waits for it -/
noncomputable def Summ.Valid (M : Model) (K : Nat → Option Obj) (S : Summ) (sz tok : Nat) : Prop :=
  ∀ (s : Shared) (k : Result → Sem Fin) (g : Bool) (l : List Value) (code : Code) (pos pos' : Pos) (kp : List Value) (st : List Frame),
    (∀ a o, K a = some o → s.heap.get? a = some o) → (∀ q ∈ S.pre, s.heap.get? q.2.1 = some q.2.2) → (∀ q ∈ S.post, ∃ o, s.heap.get? q.2.1 = some o) →
    (∀ n ∈ S.needs, ∀ q ∈ n.2, s.heap.get? q.1 = some q.2) → (∀ n ∈ S.needs, ∀ q ∈ n.2, ∀ r ∈ S.post, q.1 ≠ r.2.1) → s.heap.objs.size = sz → s.toks = tok →
    topHandled st = none → S.shape ((code, pos) :: st.map Frame.where_) = true →
    ∃ h' : Heap, Comes M s ⟨M.den S.code, S.code, pos', .ret k none g l code pos kp :: st⟩ { s with heap := h', gens := s.gens ++ ⟨S.newg⟩, toks := tok + S.dtok } ⟨k S.res, code, pos, st⟩ ∧ h'.objs.size = S.dsz.getD 0 + sz + S.dl ∧
      (∀ q ∈ S.post, h'.get? q.2.1 = some q.2.2) ∧ (∀ q ∈ S.new, h'.get? (sz + q.1) = some q.2) ∧
      (∀ l ∈ S.facts, ∀ q ∈ l, h'.get? q.1 = some q.2 ∧ sz ≤ q.1 ∧ ∀ r ∈ S.new, q.1 ≠ sz + r.1) ∧
      ∀ b o, s.heap.get? b = some o → (∀ q ∈ S.post, q.2.1 ≠ b) → h'.get? b = some o

/-- the same, the run's own generators turned -/
noncomputable def GSumm.Valid (M : Model) (K : Nat → Option Obj) (G : GSumm) (sz tok : Nat) : Prop :=
  ∀ (s : Shared) (base : List GenState) (k : Result → Sem Fin) (g : Bool) (l : List Value) (code : Code) (pos pos' : Pos) (kp : List Value) (st : List Frame),
    s.gens = ⟨base ++ G.gpre⟩ → base.length = G.gb → (∀ a o, K a = some o → s.heap.get? a = some o) → (∀ q ∈ G.S.pre, s.heap.get? q.2.1 = some q.2.2) → (∀ q ∈ G.S.post, ∃ o, s.heap.get? q.2.1 = some o) →
    (∀ n ∈ G.S.needs, ∀ q ∈ n.2, s.heap.get? q.1 = some q.2) → (∀ n ∈ G.S.needs, ∀ q ∈ n.2, ∀ r ∈ G.S.post, q.1 ≠ r.2.1) → s.heap.objs.size = sz → s.toks = tok →
    topHandled st = none → G.S.shape ((code, pos) :: st.map Frame.where_) = true →
    ∃ h' : Heap, Comes M s ⟨M.den G.S.code, G.S.code, pos', .ret k none g l code pos kp :: st⟩ { s with heap := h', gens := ⟨base ++ G.gpost⟩, toks := tok + G.S.dtok } ⟨k G.S.res, code, pos, st⟩ ∧ h'.objs.size = G.S.dsz.getD 0 + sz + G.S.dl ∧
      (∀ q ∈ G.S.post, h'.get? q.2.1 = some q.2.2) ∧ (∀ q ∈ G.S.new, h'.get? (sz + q.1) = some q.2) ∧
      (∀ l ∈ G.S.facts, ∀ q ∈ l, h'.get? q.1 = some q.2 ∧ sz ≤ q.1 ∧ ∀ r ∈ G.S.new, q.1 ≠ sz + r.1) ∧
      ∀ b o, s.heap.get? b = some o → (∀ q ∈ G.S.post, q.2.1 ≠ b) → h'.get? b = some o

noncomputable def Mid.Valid (M : Model) (K : Nat → Option Obj) (D : Mid) (sz tok : Nat) : Prop :=
  ∀ (s : Shared) (code : Code) (pos : Pos) (st : List Frame), (∀ a o, K a = some o → s.heap.get? a = some o) → (∀ q ∈ D.pre, s.heap.get? q.2.1 = some q.2.2) → (∀ q ∈ D.post, ∃ o, s.heap.get? q.2.1 = some o) → s.heap.objs.size = sz → s.toks = tok → topHandled st = none →
    ∃ h' : Heap, Comes M s ⟨D.X, code, pos, st⟩ { s with heap := h' } ⟨D.Y, code, pos, st⟩ ∧ h'.objs.size = sz ∧ (∀ q ∈ D.post, h'.get? q.2.1 = some q.2.2) ∧
      ∀ b o, s.heap.get? b = some o → (∀ q ∈ D.post, q.2.1 ≠ b) → h'.get? b = some o

noncomputable def OpsOk (M : Model) (K : Nat → Option Obj) : List Op → Prop
  | [] => True
  | .u S :: r => (∀ c sz tok, (∀ a, (S c sz tok).atS = some a → sz = a) → (∀ a, (S c sz tok).atT = some a → tok = a) → (S c sz tok).Valid M K sz tok ∧ ((S c sz tok).new.map (·.1)).Nodup) ∧ OpsOk M K r
  | .a S :: r => (∀ c sz tok, (∀ a, (S c sz tok).atS = some a → sz = a) → (∀ a, (S c sz tok).atT = some a → tok = a) → (S c sz tok).Valid M K sz tok ∧ ((S c sz tok).new.map (·.1)).Nodup) ∧ OpsOk M K r
  | .m D :: r => (∀ sz tok, (D sz tok).Valid M K sz tok) ∧ OpsOk M K r
  | .q D :: r => (∀ acts sz tok, (D acts sz tok).Valid M K sz tok) ∧ OpsOk M K r
  | .e D :: r => (∀ sz tok, (D sz tok).Valid M K sz tok) ∧ OpsOk M K r
  | .g G :: r => (∀ c sz tok, (∀ a, (G c sz tok).S.atS = some a → sz = a) → (∀ a, (G c sz tok).S.atT = some a → tok = a) → (G c sz tok).Valid M K sz tok ∧ ((G c sz tok).S.new.map (·.1)).Nodup) ∧ OpsOk M K r
  | .k _ :: r => OpsOk M K r
  | .s _ :: r => OpsOk M K r
end Mine
namespace Mine
open PySem PySem.W

theorem goTrue_none : ∀ {b : List Frame}, topHandled b = none → topHandled.go true b = none
  | [], _ => rfl
  | .gen .. :: _, h => h
  | .ret k hd g l c p kp :: r, h => by
    show topHandled.go true r = none
    rw [topHandled_ret] at h
    cases hd with
    | none => exact goTrue_none h
    | some e =>
      replace h : (if (e == byPass) = true then topHandled.go true r else some e) = none := h
      split at h
      · exact h
      · cases h
theorem topHandled_over (a : List Frame) {b : List Frame} (h : topHandled b = none) : topHandled (a ++ b) = topHandled a := by
  rw [topHandled_append, h, goTrue_none h]
  have := topHandled_append a []
  rw [List.append_nil] at this
  rw [this]; rfl
theorem goTrue_own : ∀ b : List Frame, topHandled.go true (ownFrames b) = none
  | [] => rfl
  | .gen .. :: _ => rfl
  | .ret k hd g l c p kp :: r => by
    rw [ownFrames_ret]
    exact goTrue_own r
theorem ownFrames_none : ∀ {b : List Frame}, topHandled b = none → topHandled (ownFrames b) = none
  | [], _ => rfl
  | .gen .. :: _, _ => rfl
  | .ret k hd g l c p kp :: r, h => by
    rw [ownFrames_ret]
    rw [topHandled_ret] at h ⊢
    cases hd with
    | none => exact ownFrames_none h
    | some e =>
      replace h : (if (e == byPass) = true then topHandled.go true r else some e) = none := h
      show (if (e == byPass) = true then topHandled.go true (ownFrames r) else some e) = none
      split at h
      · rename_i hb
        rw [if_pos hb, goTrue_own]
      · cases h
theorem topOwn_over (a : List Frame) {b : List Frame} (h : topHandled b = none) : topHandled (ownFrames (a ++ b)) = topHandled (ownFrames a) := by
  unfold ownFrames
  cases q : splitAtGen a with
  | none =>
    rw [splitAtGen_append_none b q]
    have h1 := ownFrames_none h
    unfold ownFrames at h1
    cases e : splitAtGen b with
    | none => exact topHandled_over a h
    | some x =>
      obtain ⟨fs, y, rest⟩ := x
      rw [e] at h1
      exact topHandled_over a h1
  | some x =>
    obtain ⟨fs, y, rest⟩ := x
    rw [splitAtGen_append_some b q]

section
variable {h₀ : Heap} {free : List Nat} {h : Heap} {T : Mem} {m sz : Nat} {F : List (List (Nat × Obj))}

theorem Rep.alloc (D : Rep h₀ free h T m sz F) {o : Obj} (hf : o.isFreed = false) (hg : ((T.ins m (sz, o)).get m).isSome = true) : Rep h₀ free (h.push o) (T.ins m (sz, o)) (m + 1) (sz + 1) F := by
  have hs := D.size
  refine ⟨by rw [Heap.size_push, hs], fun i a o' e => ?_, fun i j a o1 o2 e1 e2 => ?_, fun b o' e q => Heap.get?_push_of_some _ (D.keep b o' e q), fun i a o' e => ?_,
    by rw [Heap.size_push]; exact Nat.le_succ_of_le D.sub, fun l hl q hq => ?_⟩
  · rw [Tr.get_ins _ T m hg] at e
    by_cases hi : i = m
    · subst hi
      rw [if_pos rfl] at e
      cases e
      exact ⟨Nat.lt_succ_self _, by rw [← hs]; exact Heap.get?_push_size _ hf⟩
    · rw [if_neg hi] at e
      have z := D.slot i a o' e
      exact ⟨Nat.lt_succ_of_lt z.1, Heap.get?_push_of_some _ z.2⟩
  · rw [Tr.get_ins _ T m hg] at e1 e2
    by_cases hi : i = m
    · by_cases hj : j = m
      · rw [hi, hj]
      · rw [if_pos hi] at e1
        rw [if_neg hj] at e2
        cases e1
        have := Heap.lt_size (D.slot j _ _ e2).2
        rw [hs] at this
        exact absurd this (Nat.lt_irrefl _)
    · by_cases hj : j = m
      · rw [if_neg hi] at e1
        rw [if_pos hj] at e2
        cases e2
        have := Heap.lt_size (D.slot i _ _ e1).2
        rw [hs] at this
        exact absurd this (Nat.lt_irrefl _)
      · rw [if_neg hi] at e1
        rw [if_neg hj] at e2
        exact D.inj i j a o1 o2 e1 e2
  · rw [Tr.get_ins _ T m hg] at e
    by_cases hi : i = m
    · rw [if_pos hi] at e
      cases e
      right
      cases hq : h₀.get? sz with
      | none => rfl
      | some o'' =>
        have h1 := Heap.lt_size hq
        have h2 := D.sub
        rw [hs] at h2
        exact absurd (Nat.lt_of_lt_of_le h1 h2) (Nat.lt_irrefl _)
    · rw [if_neg hi] at e
      exact D.own i a o' e
  · obtain ⟨z1, z2⟩ := D.fact l hl q hq
    refine ⟨Heap.get?_push_of_some _ z1, fun i o' e => ?_⟩
    rw [Tr.get_ins _ T m hg] at e
    by_cases hi : i = m
    · rw [if_pos hi] at e
      have := Heap.lt_size z1
      rw [hs] at this
      cases e
      exact absurd this (Nat.lt_irrefl _)
    · rw [if_neg hi] at e
      exact z2 i o' e

theorem Rep.put (D : Rep h₀ free h T m sz F) {i a : Nat} {o o' : Obj} {h' : Heap} (e : T.get i = some (a, o)) (hs : h'.objs.size = h.objs.size) (hne : ∀ b, b ≠ a → h'.get? b = h.get? b) (hn : h'.get? a = some o') :
    Rep h₀ free h' (T.set i (a, o')) m sz F := by
  have key : ∀ j b o1, (T.set i (a, o')).get j = some (b, o1) → ∃ o2, T.get j = some (b, o2) := fun j b o1 q => by
    rw [Tr.get_set] at q
    by_cases hj : j = i
    · subst hj
      rw [if_pos rfl, e] at q
      cases q
      exact ⟨o, e⟩
    · rw [if_neg hj] at q
      exact ⟨o1, q⟩
  refine ⟨hs.trans D.size, fun j b o2 q => ?_, fun j1 j2 b o1 o2 q1 q2 => ?_, fun b o2 q f => ?_, fun j b o2 q => ?_, by rw [hs]; exact D.sub, fun l hl q hq => ?_⟩
  · rw [Tr.get_set] at q
    by_cases hj : j = i
    · subst hj
      rw [if_pos rfl, e] at q
      cases q
      have z := D.slot j a o e
      exact ⟨z.1, hn⟩
    · rw [if_neg hj] at q
      have z := D.slot j b o2 q
      exact ⟨z.1, (hne b fun w => hj (D.inj j i a o2 o (w ▸ q) e)).trans z.2⟩
  · obtain ⟨p1, r1⟩ := key j1 b o1 q1
    obtain ⟨p2, r2⟩ := key j2 b o2 q2
    exact D.inj j1 j2 b p1 p2 r1 r2
  · refine (hne b fun w => ?_).trans (D.keep b o2 q f)
    subst w
    rcases D.own i b o e with z | z
    · exact f z
    · rw [z] at q; cases q
  · obtain ⟨o3, r⟩ := key j b o2 q
    exact D.own j b o3 r
  · obtain ⟨z1, z2⟩ := D.fact l hl q hq
    refine ⟨(hne q.1 fun w => z2 i o (w ▸ e)).trans z1, fun j o2 r => ?_⟩
    obtain ⟨o3, r'⟩ := key j _ o2 r
    exact z2 j o3 r'

theorem Rep.update (D : Rep h₀ free h T m sz F) {i a : Nat} {o : Obj} {f : Obj → Obj} (e : T.get i = some (a, o)) (hf : (f o).isFreed = false) : Rep h₀ free (h.update a f) (T.set i (a, f o)) m sz F := by
  have hs : Heap.SameBut a h (h.update a f) := Heap.SameBut.update ..
  have z := D.slot i a o e
  exact D.put e hs.1 hs.2 (by first | exact Heap.get?_update_self f z.2 hf | exact Heap.get?_update_self _ z.2 hf)

theorem putPost_get : ∀ {post : List (Nat × Nat × Obj)} {T : Mem} {i a : Nat} {o : Obj}, (putPost post T).get i = some (a, o) →
    (T.get i = some (a, o) ∧ ∀ q ∈ post, q.1 ≠ i) ∨ ((i, a, o) ∈ post ∧ ∃ x, T.get i = some x)
  | [], T, i, a, o, e => .inl ⟨e, fun q hq => nomatch hq⟩
  | (j, b, o1) :: r, T, i, a, o, e => by
    rcases putPost_get (post := r) e with ⟨q, hr⟩ | ⟨hm, x, hx⟩
    · rw [Tr.get_set] at q
      by_cases hj : i = j
      · subst hj
        rw [if_pos rfl] at q
        cases ht : T.get i with
        | none => rw [ht] at q; cases q
        | some y =>
          rw [ht] at q
          cases q
          exact .inr ⟨List.mem_cons_self, y, rfl⟩
      · rw [if_neg hj] at q
        refine .inl ⟨q, fun z hz => ?_⟩
        rcases List.mem_cons.mp hz with rfl | hz
        · exact Ne.symm hj
        · exact hr z hz
    · refine .inr ⟨List.mem_cons_of_mem _ hm, ?_⟩
      rw [Tr.get_set] at hx
      by_cases hj : i = j
      · subst hj
        rw [if_pos rfl] at hx
        cases ht : T.get i with
        | none => rw [ht] at hx; cases hx
        | some y => exact ⟨y, rfl⟩
      · rw [if_neg hj] at hx
        exact ⟨x, hx⟩

theorem Rep.posts (D : Rep h₀ free h T m sz F) {h' : Heap} {d : Nat} {post : List (Nat × Nat × Obj)} (hs : h'.objs.size = d + sz) (hat : ∀ q ∈ post, ∃ o, T.get q.1 = some (q.2.1, o))
    (hp : ∀ q ∈ post, h'.get? q.2.1 = some q.2.2) (hk : ∀ b o, h.get? b = some o → (∀ q ∈ post, q.2.1 ≠ b) → h'.get? b = some o) : Rep h₀ free h' (putPost post T) m (d + sz) F := by
  have key : ∀ i a o, (putPost post T).get i = some (a, o) → ∃ o', T.get i = some (a, o') := fun i a o e => by
    rcases putPost_get e with ⟨q, _⟩ | ⟨hm, _⟩
    · exact ⟨o, q⟩
    · exact hat _ hm
  refine ⟨hs, fun i a o e => ?_, fun i j a o1 o2 e1 e2 => ?_, fun b o e f => hk _ _ (D.keep b o e f) fun q hq z => ?_, fun i a o e => ?_,
    by rw [hs]; have := D.sub; rw [D.size] at this; omega, fun l hl q hq => ?_⟩
  · rcases putPost_get e with ⟨q, hr⟩ | ⟨hm, x, hx⟩
    · have z := D.slot i a o q
      refine ⟨z.1, hk _ _ z.2 fun y hy w => ?_⟩
      obtain ⟨o', hq'⟩ := hat y hy
      rw [w] at hq'
      exact hr y hy (D.inj _ _ _ _ _ hq' q)
    · obtain ⟨o', hq'⟩ := hat _ hm
      have z := D.slot i a o' hq'
      exact ⟨z.1, hp _ hm⟩
  · obtain ⟨p1, r1⟩ := key i a o1 e1
    obtain ⟨p2, r2⟩ := key j a o2 e2
    exact D.inj i j a p1 p2 r1 r2
  · obtain ⟨o', hq'⟩ := hat q hq
    rcases D.own _ _ _ hq' with y | y
    · exact f (z ▸ y)
    · rw [z, e] at y; cases y
  · obtain ⟨o', r⟩ := key i a o e
    exact D.own i a o' r
  · obtain ⟨z1, z2⟩ := D.fact l hl q hq
    refine ⟨hk _ _ z1 fun y hy w => ?_, fun i o e => ?_⟩
    · obtain ⟨o', hq'⟩ := hat y hy
      exact z2 _ _ (w ▸ hq')
    · obtain ⟨o', r⟩ := key i _ o e
      exact z2 i o' r

theorem Rep.add (D : Rep h₀ free h T m sz F) {a : Nat} {o : Obj} (hg : ((T.ins m (a, o)).get m).isSome = true) (hh : h.get? a = some o) (h0 : h₀.get? a = none) (hne : ∀ i a' o', T.get i = some (a', o') → a' ≠ a)
    (hF : ∀ l ∈ F, ∀ q ∈ l, q.1 ≠ a) : Rep h₀ free h (T.ins m (a, o)) (m + 1) sz F := by
  refine ⟨D.size, fun i b o' e => ?_, fun i j b o1 o2 e1 e2 => ?_, D.keep, fun i b o' e => ?_, D.sub, fun l hl q hq => ⟨(D.fact l hl q hq).1, fun i o' e => ?_⟩⟩
  · rw [Tr.get_ins _ T m hg] at e
    by_cases hi : i = m
    · subst hi
      rw [if_pos rfl] at e
      cases e
      exact ⟨Nat.lt_succ_self _, hh⟩
    · rw [if_neg hi] at e
      have z := D.slot i b o' e
      exact ⟨Nat.lt_succ_of_lt z.1, z.2⟩
  · rw [Tr.get_ins _ T m hg] at e1 e2
    by_cases hi : i = m
    · by_cases hj : j = m
      · rw [hi, hj]
      · rw [if_pos hi] at e1
        rw [if_neg hj] at e2
        cases e1
        exact absurd rfl (hne j _ _ e2)
    · by_cases hj : j = m
      · rw [if_neg hi] at e1
        rw [if_pos hj] at e2
        cases e2
        exact absurd rfl (hne i _ _ e1)
      · rw [if_neg hi] at e1
        rw [if_neg hj] at e2
        exact D.inj i j b o1 o2 e1 e2
  · rw [Tr.get_ins _ T m hg] at e
    by_cases hi : i = m
    · rw [if_pos hi] at e
      cases e
      exact .inr h0
    · rw [if_neg hi] at e
      exact D.own i b o' e
  · rw [Tr.get_ins _ T m hg] at e
    by_cases hi : i = m
    · rw [if_pos hi] at e
      cases e
      exact hF l hl q hq rfl
    · rw [if_neg hi] at e
      exact (D.fact l hl q hq).2 i o' e

theorem Rep.news {s₀ : Nat} (h0 : h₀.objs.size ≤ s₀) : ∀ {new : List (Nat × Obj)} {T : Mem} {m : Nat} (dn : List Nat), Rep h₀ free h T m sz F → newOk s₀ new T m = true → (∀ q ∈ new, h.get? (s₀ + q.1) = some q.2) →
    (∀ i a o, T.get i = some (a, o) → a < s₀ ∨ ∃ d ∈ dn, a = s₀ + d) → (∀ q ∈ new, q.1 ∉ dn) → (new.map (·.1)).Nodup → (∀ l ∈ F, ∀ q ∈ l, ∀ r ∈ new, q.1 ≠ s₀ + r.1) →
    Rep h₀ free h (putNew s₀ new T m).1 (putNew s₀ new T m).2 sz F
  | [], T, m, dn, D, _, _, _, _, _, _ => D
  | (d, o) :: r, T, m, dn, D, ok, hh, hT, hd, nd, hF => by
    unfold newOk at ok
    have hg : ((T.ins m (s₀ + d, o)).get m).isSome = true := by
      cases q : (T.ins m (s₀ + d, o)).get m with
      | none => rw [q] at ok; cases ok
      | some _ => rfl
    have ok' : newOk s₀ r (T.ins m (s₀ + d, o)) (m + 1) = true := by
      cases q : (T.ins m (s₀ + d, o)).get m with
      | none => rw [q] at ok; cases ok
      | some _ => rw [q] at ok; exact ok
    have D' := D.add (a := s₀ + d) (o := o) hg (hh _ (List.mem_cons_self)) (by
      cases q : h₀.get? (s₀ + d) with
      | none => rfl
      | some o' => exact absurd (Heap.lt_size q) (Nat.not_lt.mpr (Nat.le_trans h0 (Nat.le_add_right _ _)))) (fun i a' o' e z => by
      rcases hT i a' o' e with w | ⟨d', hd', w⟩
      · exact absurd w (Nat.not_lt.mpr (z ▸ Nat.le_add_right _ _))
      · have : d' = d := Nat.add_left_cancel (w.symm.trans z)
        subst this
        exact hd _ (List.mem_cons_self) hd') (fun l hl q hq => hF l hl q hq _ (List.mem_cons_self))
    rw [List.map_cons, List.nodup_cons] at nd
    refine Rep.news h0 (new := r) (d :: dn) D' ok' (fun q hq => hh q (List.mem_cons_of_mem _ hq)) (fun i a o' e => ?_) (fun q hq z => ?_) nd.2 (fun l hl q hq z hz => hF l hl q hq z (List.mem_cons_of_mem _ hz))
    · rw [Tr.get_ins _ T m hg] at e
      by_cases hi : i = m
      · rw [if_pos hi] at e
        cases e
        exact .inr ⟨d, List.mem_cons_self, rfl⟩
      · rw [if_neg hi] at e
        rcases hT i a o' e with w | ⟨d', hd', w⟩
        · exact .inl w
        · exact .inr ⟨d', List.mem_cons_of_mem _ hd', w⟩
    · rcases List.mem_cons.mp z with w | w
      · exact nd.1 (List.mem_map.mpr ⟨q, hq, w⟩)
      · exact hd q (List.mem_cons_of_mem _ hq) w

theorem Rep.facts (D : Rep h₀ free h T m sz F) {fs : List (List (Nat × Obj))} (hf : ∀ l ∈ fs, ∀ q ∈ l, h.get? q.1 = some q.2 ∧ ∀ i o, T.get i ≠ some (q.1, o)) : Rep h₀ free h T m sz (fs ++ F) :=
  ⟨D.size, D.slot, D.inj, D.keep, D.own, D.sub, fun l hl => by
    rcases List.mem_append.mp hl with z | z
    · exact hf l z
    · exact D.fact l z⟩

theorem putNew_get {s₀ : Nat} : ∀ {new : List (Nat × Obj)} {T : Mem} {m i a : Nat} {o : Obj}, newOk s₀ new T m = true → (putNew s₀ new T m).1.get i = some (a, o) → T.get i = some (a, o) ∨ ∃ q ∈ new, a = s₀ + q.1
  | [], T, m, i, a, o, _, e => .inl e
  | (d, o1) :: r, T, m, i, a, o, ok, e => by
    unfold newOk at ok
    have hg : ((T.ins m (s₀ + d, o1)).get m).isSome = true := by
      cases q : (T.ins m (s₀ + d, o1)).get m with
      | none => rw [q] at ok; cases ok
      | some _ => rfl
    have ok' : newOk s₀ r (T.ins m (s₀ + d, o1)) (m + 1) = true := by
      cases q : (T.ins m (s₀ + d, o1)).get m with
      | none => rw [q] at ok; cases ok
      | some _ => rw [q] at ok; exact ok
    rcases putNew_get (new := r) ok' e with z | ⟨q, hq, z⟩
    · rw [Tr.get_ins _ T m hg] at z
      by_cases hi : i = m
      · rw [if_pos hi] at z
        cases z
        exact .inr ⟨_, List.mem_cons_self, rfl⟩
      · rw [if_neg hi] at z
        exact .inl z
    · exact .inr ⟨q, List.mem_cons_of_mem _ hq, z⟩
end

theorem preR_spec {T : Mem} : ∀ {pre : List (Nat × Nat × Obj)} {L R R' : List SideV}, preR T pre R = some R' → preL pre L = R' → L = R ∧ ∀ q ∈ pre, T.get q.1 = some q.2
  | [], L, R, R', h, e => by
    cases h
    exact ⟨e, fun q hq => nomatch hq⟩
  | (i, a, o) :: r, L, R, R', h, e => by
    unfold preR at h
    unfold preL at e
    cases q : T.get i with
    | none => rw [q] at h; cases h
    | some x =>
      obtain ⟨a', o'⟩ := x
      rw [q] at h
      obtain ⟨e1, e2⟩ := preR_spec (pre := r) h e
      simp only [List.cons.injEq, SideV.o.injEq, SideV.n.injEq] at e1
      obtain ⟨rfl, rfl, rfl⟩ := e1
      refine ⟨rfl, fun z hz => ?_⟩
      rcases List.mem_cons.mp hz with rfl | hz
      · exact q
      · exact e2 z hz
theorem atR_spec {T : Mem} : ∀ {post : List (Nat × Nat × Obj)} {L R R' : List SideV}, atR T post R = some R' → atL post L = R' → L = R ∧ ∀ q ∈ post, ∃ o, T.get q.1 = some (q.2.1, o)
  | [], L, R, R', h, e => by
    cases h
    exact ⟨e, fun q hq => nomatch hq⟩
  | (i, a, o) :: r, L, R, R', h, e => by
    unfold atR at h
    unfold atL at e
    cases q : T.get i with
    | none => rw [q] at h; cases h
    | some x =>
      obtain ⟨a', o'⟩ := x
      rw [q] at h
      obtain ⟨e1, e2⟩ := atR_spec (post := r) h e
      simp only [List.cons.injEq, SideV.n.injEq] at e1
      obtain ⟨rfl, rfl⟩ := e1
      refine ⟨rfl, fun z hz => ?_⟩
      rcases List.mem_cons.mp hz with rfl | hz
      · exact ⟨o', q⟩
      · exact e2 z hz
theorem needR_spec {F : List (List (Nat × Obj))} : ∀ {ns : List (Nat × List (Nat × Obj))} {L R R' : List SideV}, needR F ns R = some R' → needL ns L = R' → L = R ∧ ∀ n ∈ ns, n.2 ∈ F
  | [], L, R, R', h, e => by
    cases h
    exact ⟨e, fun q hq => nomatch hq⟩
  | (i, l) :: r, L, R, R', h, e => by
    unfold needR at h
    unfold needL at e
    cases q : F[i]? with
    | none => rw [q] at h; cases h
    | some x =>
      rw [q] at h
      obtain ⟨e1, e2⟩ := needR_spec (ns := r) h e
      simp only [List.cons.injEq, SideV.f.injEq] at e1
      obtain ⟨rfl, rfl⟩ := e1
      refine ⟨rfl, fun z hz => ?_⟩
      rcases List.mem_cons.mp hz with rfl | hz
      · exact List.mem_of_getElem? q
      · exact e2 z hz
end Mine
namespace Mine
open PySem PySem.W

theorem gset (h : Heap) (gl : List GenState) (d : Drawn) (t : Nat) (os : OsState) (g : Nat) (x : GenState) : (⟨h, ⟨gl⟩, d, t, os⟩ : Shared).setGen g x = ⟨h, ⟨gl.set g x⟩, d, t, os⟩ := by
  unfold Shared.setGen
  have : (⟨gl⟩ : Array GenState).setIfInBounds g x = ⟨gl.set g x⟩ := by simp
  rw [this]
theorem gpush (gl : List GenState) (x : GenState) : (⟨gl⟩ : Array GenState).push x = ⟨gl ++ [x]⟩ := by simp
theorem gget (gl : List GenState) (g : Nat) : (⟨gl⟩ : Array GenState)[g]? = gl[g]? := by simp

theorem setApp (a b : List GenState) (i : Nat) (x : GenState) : (a ++ b).set (a.length + i) x = a ++ b.set i x := by simp
theorem getApp (a b : List GenState) (i : Nat) : (a ++ b)[a.length + i]? = b[i]? := by rw [List.getElem?_append_right (Nat.le_add_right _ _), Nat.add_sub_cancel_left]
theorem opsK {M : Model} {K : Nat → Option Obj} {n : Nat} {r : List Op} (h : OpsOk M K (.k n :: r)) : OpsOk M K (restK n r) := by
  cases n with
  | zero => exact h
  | succ n => exact h

section
variable (tb : String → Option Builtin) (p : Program) (w : World) (K : Nat → Option Obj) (h₀ : Heap) (free : List Nat) (d : Drawn) (os : OsState) (bot : List Frame)

noncomputable def Goes (out : Out) (h : Heap) (gens : List GenState) (toks : Nat) (th : Thread) : Prop :=
  ∃ h', Comes ⟨denote tb, p, w⟩ ⟨h, ⟨gens⟩, d, toks, os⟩ th ⟨h', ⟨out.gens⟩, d, out.toks, os⟩ ⟨out.cur, out.code, out.pos, out.st ++ bot⟩ ∧ Rep h₀ free h' out.T out.m out.sz out.F

theorem Goes.step {out : Out} {h h' : Heap} {gens gens' : List GenState} {toks toks' : Nat} {th th' : Thread} (e : Model.step ⟨denote tb, p, w⟩ ⟨h, ⟨gens⟩, d, toks, os⟩ th = .go ⟨h', ⟨gens'⟩, d, toks', os⟩ th')
    (x : Goes tb p w h₀ free d os bot out h' gens' toks' th') : Goes tb p w h₀ free d os bot out h gens toks th := by
  obtain ⟨h2, c, r⟩ := x
  exact ⟨h2, .step e c, r⟩

noncomputable def RunOk (ih : RunTy) : Prop := ∀ ops T m sz gens own toks F cur code pos st L R out, ih ops T m sz gens own toks F cur code pos st L R = some out → out.L = out.R →
  L = R ∧ (OpsOk ⟨denote tb, p, w⟩ K ops → ∀ h, Rep h₀ free h T m sz F → Goes tb p w h₀ free d os bot out h (gens ++ own) toks ⟨cur, code, pos, st ++ bot⟩)

variable (hK : ∀ a o, K a = some o → h₀.get? a = some o ∧ a ∉ free) (hb : topHandled bot = none)
include hK hb
theorem useS_ok {ih : RunTy} (IH : RunOk tb p w K h₀ free d os bot ih) (S : Summ) {ops T m sz gens own toks F c hd k code pos st L R out} (e : useS (bot.map Frame.where_) ih S ops T m sz gens own toks F c hd k code pos st L R = some out) (eq : out.L = out.R) :
    L = R ∧ (OpsOk ⟨denote tb, p, w⟩ K ops → ((∀ a, S.atS = some a → sz = a) → (∀ a, S.atT = some a → toks = a) → S.Valid ⟨denote tb, p, w⟩ K sz toks ∧ (S.new.map (·.1)).Nodup) → ∀ g l kp pos' h, Rep h₀ free h T m sz F → Goes tb p w h₀ free d os bot out h (gens ++ own) toks ⟨denote tb c, c, pos', .ret k hd g l code pos kp :: st ++ bot⟩) := by
  unfold useS at e
  cases h1 : preR T S.pre (atsR S sz toks R) with
  | none => simp only [h1] at e; cases e
  | some R1 =>
    cases h2 : atR T S.post R1 with
    | none => simp only [h1, h2] at e; cases e
    | some R2 =>
      cases h3 : needR F S.needs R2 with
      | none => simp only [h1, h2, h3] at e; cases e
      | some R3 =>
        cases h4 : newOk sz S.new (putPost S.post T) m with
        | false => simp only [h1, h2, h3, h4] at e; cases e
        | true =>
          simp only [h1, h2, h3, h4] at e
          rw [appG_eq, addZ_eq, show S.dsz.getD 0 + sz + S.dl = S.dsz.getD 0 + S.dl + sz by omega] at e
          obtain ⟨x, y⟩ := IH _ _ _ _ _ _ _ _ _ _ _ _ _ _ _ e eq
          simp only [List.cons.injEq, SideV.b.injEq, SideV.h.injEq, SideV.c.injEq] at x
          obtain ⟨x1, x2, x0, x3, x4⟩ := x
          subst x0
          obtain ⟨x5, nd⟩ := needR_spec h3 x4
          obtain ⟨x6, at_⟩ := atR_spec h2 x5
          obtain ⟨x7, pr⟩ := preR_spec h1 x6
          obtain ⟨x7, ats, att⟩ := ats_spec x7
          refine ⟨x7, fun ok V g l kp pos' h D => ?_⟩
          obtain ⟨V, nn⟩ := V ats att
          subst x3
          obtain ⟨h', C, c1, c2, c3, c5, c4⟩ := V ⟨h, ⟨gens ++ own⟩, d, toks, os⟩ k g l code pos pos' kp (st ++ bot) (fun a o q => D.keep a o (hK a o q).1 (hK a o q).2) (fun q hq => (D.slot _ _ _ (pr q hq)).2) (fun q hq => by
              obtain ⟨o, ho⟩ := at_ q hq
              exact ⟨o, (D.slot _ _ _ ho).2⟩) (fun n hn q hq => (D.fact _ (nd n hn) q hq).1) (fun n hn q hq r hr z => by
              obtain ⟨o, ho⟩ := at_ r hr
              exact (D.fact _ (nd n hn) q hq).2 r.1 o (z ▸ ho)) D.size rfl
              (by rw [topHandled_over _ hb]; exact x2.symm) (by rw [List.map_append]; exact x1.symm)
          have D1 := D.posts (d := S.dsz.getD 0 + S.dl) (by rw [c1]; omega) at_ c2 c4
          have lt : ∀ i a o, (putPost S.post T).get i = some (a, o) → a < sz := fun i a o q => by
            rcases putPost_get q with ⟨q, _⟩ | ⟨hm, _⟩
            · exact D.size ▸ Heap.lt_size (D.slot i a o q).2
            · obtain ⟨o', hq'⟩ := at_ _ hm
              exact D.size ▸ Heap.lt_size (D.slot i a o' hq').2
          have D2 := Rep.news (s₀ := sz) (by rw [← D.size]; exact D.sub) [] D1 h4 c3 (fun i a o q => .inl (lt i a o q)) (fun _ _ z => nomatch z) nn (fun l hl q hq r _ z => by
            have := Heap.lt_size (D.fact l hl q hq).1
            rw [D.size] at this
            exact absurd this (Nat.not_lt.mpr (z ▸ Nat.le_add_right _ _)))
          have D3 := D2.facts (fs := S.facts) (fun l hl q hq => by
            obtain ⟨z1, z2, z3⟩ := c5 l hl q hq
            refine ⟨z1, fun i o z => ?_⟩
            rcases putNew_get h4 z with z | ⟨r, hr, z⟩
            · exact absurd (lt i _ o z) (Nat.not_lt.mpr z2)
            · exact z3 r hr z)
          obtain ⟨h2, C2, r⟩ := y ok h' D3
          refine ⟨h2, Comes.trans C ?_, r⟩
          have eg : (⟨gens ++ own⟩ : Array GenState) ++ ⟨S.newg⟩ = ⟨gens ++ (own ++ S.newg)⟩ := by simp
          rw [eg]
          exact C2

theorem useG_ok {ih : RunTy} (IH : RunOk tb p w K h₀ free d os bot ih) (G : GSumm) {ops T m sz gens own toks F c hd k code pos st L R out} (e : useG (bot.map Frame.where_) ih G ops T m sz gens own toks F c hd k code pos st L R = some out) (eq : out.L = out.R) :
    L = R ∧ (OpsOk ⟨denote tb, p, w⟩ K ops → ((∀ a, G.S.atS = some a → sz = a) → (∀ a, G.S.atT = some a → toks = a) → G.Valid ⟨denote tb, p, w⟩ K sz toks ∧ (G.S.new.map (·.1)).Nodup) → ∀ g l kp pos' h, Rep h₀ free h T m sz F → Goes tb p w h₀ free d os bot out h (gens ++ own) toks ⟨denote tb c, c, pos', .ret k hd g l code pos kp :: st ++ bot⟩) := by
  unfold useG at e
  cases h1 : preR T G.S.pre (atsR G.S sz toks R) with
  | none => simp only [h1] at e; cases e
  | some R1 =>
    cases h2 : atR T G.S.post R1 with
    | none => simp only [h1, h2] at e; cases e
    | some R2 =>
      cases h3 : needR F G.S.needs R2 with
      | none => simp only [h1, h2, h3] at e; cases e
      | some R3 =>
        cases h4 : newOk sz G.S.new (putPost G.S.post T) m with
        | false => simp only [h1, h2, h3, h4] at e; cases e
        | true =>
          simp only [h1, h2, h3, h4] at e
          rw [addZ_eq, show G.S.dsz.getD 0 + sz + G.S.dl = G.S.dsz.getD 0 + G.S.dl + sz by omega] at e
          obtain ⟨x, y⟩ := IH _ _ _ _ _ _ _ _ _ _ _ _ _ _ _ e eq
          simp only [List.cons.injEq, SideV.b.injEq, SideV.h.injEq, SideV.c.injEq, SideV.n.injEq, SideV.gs.injEq] at x
          obtain ⟨y1, y2, x1, x2, x0, x3, x4⟩ := x
          subst x0
          obtain ⟨x5, nd⟩ := needR_spec h3 x4
          obtain ⟨x6, at_⟩ := atR_spec h2 x5
          obtain ⟨x7, pr⟩ := preR_spec h1 x6
          obtain ⟨x7, ats, att⟩ := ats_spec x7
          refine ⟨x7, fun ok V g l kp pos' h D => ?_⟩
          obtain ⟨V, nn⟩ := V ats att
          subst x3
          obtain ⟨h', C, c1, c2, c3, c5, c4⟩ := V ⟨h, ⟨gens ++ own⟩, d, toks, os⟩ gens k g l code pos pos' kp (st ++ bot) (by rw [y1]) y2.symm (fun a o q => D.keep a o (hK a o q).1 (hK a o q).2) (fun q hq => (D.slot _ _ _ (pr q hq)).2) (fun q hq => by
              obtain ⟨o, ho⟩ := at_ q hq
              exact ⟨o, (D.slot _ _ _ ho).2⟩) (fun n hn q hq => (D.fact _ (nd n hn) q hq).1) (fun n hn q hq r hr z => by
              obtain ⟨o, ho⟩ := at_ r hr
              exact (D.fact _ (nd n hn) q hq).2 r.1 o (z ▸ ho)) D.size rfl
              (by rw [topHandled_over _ hb]; exact x2.symm) (by rw [List.map_append]; exact x1.symm)
          have D1 := D.posts (d := G.S.dsz.getD 0 + G.S.dl) (by rw [c1]; omega) at_ c2 c4
          have lt : ∀ i a o, (putPost G.S.post T).get i = some (a, o) → a < sz := fun i a o q => by
            rcases putPost_get q with ⟨q, _⟩ | ⟨hm, _⟩
            · exact D.size ▸ Heap.lt_size (D.slot i a o q).2
            · obtain ⟨o', hq'⟩ := at_ _ hm
              exact D.size ▸ Heap.lt_size (D.slot i a o' hq').2
          have D2 := Rep.news (s₀ := sz) (by rw [← D.size]; exact D.sub) [] D1 h4 c3 (fun i a o q => .inl (lt i a o q)) (fun _ _ z => nomatch z) nn (fun l hl q hq r _ z => by
            have := Heap.lt_size (D.fact l hl q hq).1
            rw [D.size] at this
            exact absurd this (Nat.not_lt.mpr (z ▸ Nat.le_add_right _ _)))
          have D3 := D2.facts (fs := G.S.facts) (fun l hl q hq => by
            obtain ⟨z1, z2, z3⟩ := c5 l hl q hq
            refine ⟨z1, fun i o z => ?_⟩
            rcases putNew_get h4 z with z | ⟨r, hr, z⟩
            · exact absurd (lt i _ o z) (Nat.not_lt.mpr z2)
            · exact z3 r hr z)
          obtain ⟨h2, C2, r⟩ := y ok h' D3
          refine ⟨h2, Comes.trans C ?_, r⟩
          exact C2

theorem useM_ok {ih : RunTy} (IH : RunOk tb p w K h₀ free d os bot ih) (D : Mid) {ops T m sz gens own toks F cur code pos st L R out} (e : useM ih D ops T m sz gens own toks F cur code pos st L R = some out) (eq : out.L = out.R) :
    L = R ∧ (OpsOk ⟨denote tb, p, w⟩ K ops → D.Valid ⟨denote tb, p, w⟩ K sz toks → ∀ h, Rep h₀ free h T m sz F → Goes tb p w h₀ free d os bot out h (gens ++ own) toks ⟨cur, code, pos, st ++ bot⟩) := by
  unfold useM at e
  cases h1 : preR T D.pre R with
  | none => simp only [h1] at e; cases e
  | some R1 =>
    cases h2 : atR T D.post R1 with
    | none => simp only [h1, h2] at e; cases e
    | some R2 =>
      simp only [h1, h2] at e
      obtain ⟨x, y⟩ := IH _ _ _ _ _ _ _ _ _ _ _ _ _ _ _ e eq
      simp only [List.cons.injEq, SideV.t.injEq, SideV.h.injEq] at x
      obtain ⟨ht, x3, x5⟩ := x
      obtain ⟨x6, at_⟩ := atR_spec h2 x5
      obtain ⟨x7, pr⟩ := preR_spec h1 x6
      refine ⟨x7, fun ok V h Dd => ?_⟩
      subst x3
      obtain ⟨h', C, c1, c2, c4⟩ := V ⟨h, ⟨gens ++ own⟩, d, toks, os⟩ code pos (st ++ bot) (fun a o q => Dd.keep a o (hK a o q).1 (hK a o q).2) (fun q hq => (Dd.slot _ _ _ (pr q hq)).2) (fun q hq => by
          obtain ⟨o, ho⟩ := at_ q hq
          exact ⟨o, (Dd.slot _ _ _ ho).2⟩) Dd.size rfl (by rw [topHandled_over _ hb]; exact ht.symm)
      have D1 := Dd.posts (d := 0) (by rw [Nat.zero_add]; exact c1) at_ c2 c4
      rw [Nat.zero_add] at D1
      obtain ⟨h2, C2, r⟩ := y ok h' D1
      exact ⟨h2, Comes.trans C C2, r⟩

theorem stepO_ok {ih : RunTy} (IH : RunOk tb p w K h₀ free d os bot ih) : RunOk tb p w K h₀ free d os bot (stepO tb p w K (bot.map Frame.where_) ih) := by
  intro ops T m sz gens own toks F cur code pos st L R out e eq
  cases cur with
  | pure fin =>
    cases fin with
    | done f =>
      cases st with
      | nil => cases e
      | cons fr st =>
        cases fr with
        | ret k h g l c q kp =>
          obtain ⟨a, b⟩ := IH _ _ _ _ _ _ _ _ _ _ _ _ _ _ _ e eq
          exact ⟨a, fun ok hh D => .step _ _ _ _ _ _ _ _ (step_leaf_ret (M := ⟨denote tb, p, w⟩) _ _ _ _ (.ok f) k h g l c q kp) (b ok hh D)⟩
        | gen g k l c q =>
          cases ops with
          | nil => cases e
          | cons op ops =>
            cases op with
            | s i =>
              obtain ⟨x, y⟩ := IH _ _ _ _ _ _ _ _ _ _ _ _ _ _ _ e eq
              simp only [List.cons.injEq, SideV.n.injEq] at x
              obtain ⟨rfl, x⟩ := x
              refine ⟨x, fun ok hh D => .step _ _ _ _ _ _ _ _ ?_ (y ok hh D)⟩
              rw [← setApp, ← gset]
              exact step_leaf_gen (M := ⟨denote tb, p, w⟩) _ _ _ _ (.ok f) _ k l c q
            | k n => cases e
            | u x => cases e
            | a x => cases e
            | m x => cases e
            | q x => cases e
            | e x => cases e
            | g x => cases e
    | again c =>
      cases q : c.quiet with
      | false => simp only [stepO, q] at e; cases e
      | true =>
        simp only [stepO, q] at e
        cases ops with
        | nil =>
          obtain ⟨a, b⟩ := IH _ _ _ _ _ _ _ _ _ _ _ _ _ _ _ e eq
          exact ⟨a, fun ok hh D => .step _ _ _ _ _ _ _ _ (step_again (M := ⟨denote tb, p, w⟩) _ _ _ _ c q) (b ok hh D)⟩
        | cons op ops =>
          cases op with
          | k n =>
            obtain ⟨a, b⟩ := IH _ _ _ _ _ _ _ _ _ _ _ _ _ _ _ e eq
            exact ⟨a, fun ok hh D => .step _ _ _ _ _ _ _ _ (step_again (M := ⟨denote tb, p, w⟩) _ _ _ _ c q) (b ok hh D)⟩
          | s i =>
            obtain ⟨a, b⟩ := IH _ _ _ _ _ _ _ _ _ _ _ _ _ _ _ e eq
            exact ⟨a, fun ok hh D => .step _ _ _ _ _ _ _ _ (step_again (M := ⟨denote tb, p, w⟩) _ _ _ _ c q) (b ok hh D)⟩
          | u S =>
            obtain ⟨a, b⟩ := IH _ _ _ _ _ _ _ _ _ _ _ _ _ _ _ e eq
            exact ⟨a, fun ok hh D => .step _ _ _ _ _ _ _ _ (step_again (M := ⟨denote tb, p, w⟩) _ _ _ _ c q) (b ok hh D)⟩
          | m M =>
            obtain ⟨a, b⟩ := IH _ _ _ _ _ _ _ _ _ _ _ _ _ _ _ e eq
            exact ⟨a, fun ok hh D => .step _ _ _ _ _ _ _ _ (step_again (M := ⟨denote tb, p, w⟩) _ _ _ _ c q) (b ok hh D)⟩
          | q M =>
            obtain ⟨a, b⟩ := IH _ _ _ _ _ _ _ _ _ _ _ _ _ _ _ e eq
            exact ⟨a, fun ok hh D => .step _ _ _ _ _ _ _ _ (step_again (M := ⟨denote tb, p, w⟩) _ _ _ _ c q) (b ok hh D)⟩
          | e M =>
            obtain ⟨a, b⟩ := IH _ _ _ _ _ _ _ _ _ _ _ _ _ _ _ e eq
            exact ⟨a, fun ok hh D => .step _ _ _ _ _ _ _ _ (step_again (M := ⟨denote tb, p, w⟩) _ _ _ _ c q) (b ok hh D)⟩
          | g S =>
            cases st with
            | nil => cases e
            | cons fr st =>
              cases fr with
              | gen g k l c' q' => cases e
              | ret k h g l c' q' kp =>
                obtain ⟨x, y⟩ := useG_ok tb p w K h₀ free d os bot hK hb IH _ e eq
                exact ⟨x, fun ok hh D => .step _ _ _ _ _ _ _ _ (step_again (M := ⟨denote tb, p, w⟩) _ _ _ _ c q) (y ok.2 (ok.1 c sz toks) g l kp pos hh D)⟩
          | a S =>
            cases st with
            | nil => cases e
            | cons fr st =>
              cases fr with
              | gen g k l c' q' => cases e
              | ret k h g l c' q' kp =>
                obtain ⟨x, y⟩ := useS_ok tb p w K h₀ free d os bot hK hb IH _ e eq
                exact ⟨x, fun ok hh D => .step _ _ _ _ _ _ _ _ (step_again (M := ⟨denote tb, p, w⟩) _ _ _ _ c q) (y ok.2 (ok.1 c sz toks) g l kp pos hh D)⟩
  | raise x =>
    cases st with
    | nil => cases e
    | cons fr st =>
      cases fr with
      | ret k h g l c q kp =>
        obtain ⟨a, b⟩ := IH _ _ _ _ _ _ _ _ _ _ _ _ _ _ _ e eq
        exact ⟨a, fun ok hh D => .step _ _ _ _ _ _ _ _ (step_leaf_ret (M := ⟨denote tb, p, w⟩) _ _ _ _ (.error x) k h g l c q kp) (b ok hh D)⟩
      | gen g k l c q =>
        cases ops with
        | nil => cases e
        | cons op ops =>
          cases op with
          | s i =>
            obtain ⟨z, y⟩ := IH _ _ _ _ _ _ _ _ _ _ _ _ _ _ _ e eq
            simp only [List.cons.injEq, SideV.n.injEq] at z
            obtain ⟨rfl, z⟩ := z
            refine ⟨z, fun ok hh D => .step _ _ _ _ _ _ _ _ ?_ (y ok hh D)⟩
            rw [← setApp, ← gset]
            exact step_leaf_gen (M := ⟨denote tb, p, w⟩) _ _ _ _ (.error x) _ k l c q
          | k n => cases e
          | u x => cases e
          | a x => cases e
          | m x => cases e
          | q x => cases e
          | e x => cases e
          | g x => cases e
  | rule tag k => obtain ⟨a, b⟩ := IH _ _ _ _ _ _ _ _ _ _ _ _ _ _ _ e eq; exact ⟨a, fun ok hh D => .step _ _ _ _ _ _ _ _ (step_rule (M := ⟨denote tb, p, w⟩) ..) (b ok hh D)⟩
  | «at» q k =>
    cases ops with
    | nil =>
      obtain ⟨a, b⟩ := IH _ _ _ _ _ _ _ _ _ _ _ _ _ _ _ e eq
      exact ⟨a, fun ok hh D => .step _ _ _ _ _ _ _ _ (step_at (M := ⟨denote tb, p, w⟩) ..) (b ok hh D)⟩
    | cons op ops =>
      cases op with
      | e M =>
        obtain ⟨x, y⟩ := useM_ok tb p w K h₀ free d os bot hK hb IH _ e eq
        exact ⟨x, fun ok hh D => y ok.2 (ok.1 sz toks) hh D⟩
      | _ =>
        obtain ⟨a, b⟩ := IH _ _ _ _ _ _ _ _ _ _ _ _ _ _ _ e eq
        exact ⟨a, fun ok hh D => .step _ _ _ _ _ _ _ _ (step_at (M := ⟨denote tb, p, w⟩) ..) (b ok hh D)⟩
  | point l k => obtain ⟨a, b⟩ := IH _ _ _ _ _ _ _ _ _ _ _ _ _ _ _ e eq; exact ⟨a, fun ok hh D => .step _ _ _ _ _ _ _ _ (step_point (M := ⟨denote tb, p, w⟩) ..) (b ok hh D)⟩
  | ask k => obtain ⟨a, b⟩ := IH _ _ _ _ _ _ _ _ _ _ _ _ _ _ _ e eq; exact ⟨a, fun ok hh D => .step _ _ _ _ _ _ _ _ (step_ask (M := ⟨denote tb, p, w⟩) ..) (b ok hh D)⟩
  | fresh k => obtain ⟨a, b⟩ := IH _ _ _ _ _ _ _ _ _ _ _ _ _ _ _ e eq; exact ⟨a, fun ok hh D => .step _ _ _ _ _ _ _ _ (step_fresh (M := ⟨denote tb, p, w⟩) ..) (b ok hh D)⟩
  | thread k => obtain ⟨a, b⟩ := IH _ _ _ _ _ _ _ _ _ _ _ _ _ _ _ e eq; exact ⟨a, fun ok hh D => .step _ _ _ _ _ _ _ _ (step_thread (M := ⟨denote tb, p, w⟩) ..) (b ok hh D)⟩
  | stack k =>
    cases ops with
    | nil =>
      obtain ⟨a, b⟩ := IH _ _ _ _ _ _ _ _ _ _ _ _ _ _ _ e eq
      refine ⟨a, fun ok hh D => .step _ _ _ _ _ _ _ _ (step_stack (M := ⟨denote tb, p, w⟩) ..) ?_⟩
      rw [List.map_append]
      exact b ok hh D
    | cons op ops =>
      cases op with
      | k n =>
        obtain ⟨a, b⟩ := IH _ _ _ _ _ _ _ _ _ _ _ _ _ _ _ e eq
        refine ⟨a, fun ok hh D => .step _ _ _ _ _ _ _ _ (step_stack (M := ⟨denote tb, p, w⟩) ..) ?_⟩
        rw [List.map_append]
        exact b ok hh D
      | s i =>
        obtain ⟨a, b⟩ := IH _ _ _ _ _ _ _ _ _ _ _ _ _ _ _ e eq
        refine ⟨a, fun ok hh D => .step _ _ _ _ _ _ _ _ (step_stack (M := ⟨denote tb, p, w⟩) ..) ?_⟩
        rw [List.map_append]
        exact b ok hh D
      | u S =>
        obtain ⟨a, b⟩ := IH _ _ _ _ _ _ _ _ _ _ _ _ _ _ _ e eq
        refine ⟨a, fun ok hh D => .step _ _ _ _ _ _ _ _ (step_stack (M := ⟨denote tb, p, w⟩) ..) ?_⟩
        rw [List.map_append]
        exact b ok hh D
      | a S =>
        obtain ⟨a, b⟩ := IH _ _ _ _ _ _ _ _ _ _ _ _ _ _ _ e eq
        refine ⟨a, fun ok hh D => .step _ _ _ _ _ _ _ _ (step_stack (M := ⟨denote tb, p, w⟩) ..) ?_⟩
        rw [List.map_append]
        exact b ok hh D
      | m M =>
        obtain ⟨a, b⟩ := IH _ _ _ _ _ _ _ _ _ _ _ _ _ _ _ e eq
        refine ⟨a, fun ok hh D => .step _ _ _ _ _ _ _ _ (step_stack (M := ⟨denote tb, p, w⟩) ..) ?_⟩
        rw [List.map_append]
        exact b ok hh D
      | e M =>
        obtain ⟨a, b⟩ := IH _ _ _ _ _ _ _ _ _ _ _ _ _ _ _ e eq
        refine ⟨a, fun ok hh D => .step _ _ _ _ _ _ _ _ (step_stack (M := ⟨denote tb, p, w⟩) ..) ?_⟩
        rw [List.map_append]
        exact b ok hh D
      | g M =>
        obtain ⟨a, b⟩ := IH _ _ _ _ _ _ _ _ _ _ _ _ _ _ _ e eq
        refine ⟨a, fun ok hh D => .step _ _ _ _ _ _ _ _ (step_stack (M := ⟨denote tb, p, w⟩) ..) ?_⟩
        rw [List.map_append]
        exact b ok hh D
      | q M =>
        obtain ⟨x, y⟩ := useM_ok tb p w K h₀ free d os bot hK hb IH _ e eq
        refine ⟨x, fun ok hh D => .step _ _ _ _ _ _ _ _ (step_stack (M := ⟨denote tb, p, w⟩) ..) ?_⟩
        rw [List.map_append]
        exact y ok.2 (ok.1 _ sz toks) hh D
  | handled own k =>
    obtain ⟨a, b⟩ := IH _ _ _ _ _ _ _ _ _ _ _ _ _ _ _ e eq
    refine ⟨a, fun ok hh D => .step _ _ _ _ _ _ _ _ (step_handled (M := ⟨denote tb, p, w⟩) ..) ?_⟩
    have := b ok hh D
    cases own with
    | true =>
      rw [show topHandled (if true = true then ownFrames (st ++ bot) else st ++ bot) = topHandled (ownFrames st) from topOwn_over st hb]
      exact this
    | false =>
      rw [show topHandled (if false = true then ownFrames (st ++ bot) else st ++ bot) = topHandled st from topHandled_over st hb]
      exact this
  | alloc o k =>
    cases hf : o.isFreed with
    | true => simp only [stepO, hf] at e; cases e
    | false =>
      cases hg : (T.ins m (sz, o)).get m with
      | none => simp only [stepO, hf, hg] at e; cases e
      | some y =>
        simp only [stepO, hf, hg] at e
        obtain ⟨a, b⟩ := IH _ _ _ _ _ _ _ _ _ _ _ _ _ _ _ e eq
        refine ⟨a, fun ok hh D => ?_⟩
        refine .step _ _ _ _ _ _ _ _ (step_alloc (M := ⟨denote tb, p, w⟩) ..) ?_
        rw [show hh.objs.size = sz from D.size]
        exact b ok _ (D.alloc hf (by rw [hg]; rfl))
  | load a q k =>
    cases ops with
    | nil => cases e
    | cons op ops =>
      cases op with
      | k n =>
        cases hk : K a with
        | none => simp only [stepO, hk] at e; cases e
        | some o =>
          simp only [stepO, hk] at e
          obtain ⟨x, y⟩ := IH _ _ _ _ _ _ _ _ _ _ _ _ _ _ _ e eq
          exact ⟨x, fun ok hh D => .step _ _ _ _ _ _ _ _ (step_load (M := ⟨denote tb, p, w⟩) _ _ _ _ q k (D.keep a o (hK a o hk).1 (hK a o hk).2)) (y (opsK ok) hh D)⟩
      | s i =>
        cases hi : T.get i with
        | none => simp only [stepO, hi] at e; cases e
        | some bo =>
          obtain ⟨b, o⟩ := bo
          simp only [stepO, hi] at e
          obtain ⟨x, y⟩ := IH _ _ _ _ _ _ _ _ _ _ _ _ _ _ _ e eq
          simp only [List.cons.injEq, SideV.n.injEq] at x
          obtain ⟨rfl, rfl⟩ := x
          exact ⟨rfl, fun ok hh D => .step _ _ _ _ _ _ _ _ (step_load (M := ⟨denote tb, p, w⟩) _ _ _ _ q k (D.slot i a o hi).2) (y ok hh D)⟩
      | u S => cases e
      | a S => cases e
      | m M =>
        obtain ⟨x, y⟩ := useM_ok tb p w K h₀ free d os bot hK hb IH _ e eq
        exact ⟨x, fun ok hh D => y ok.2 (ok.1 sz toks) hh D⟩
      | q M => cases e
      | e M => cases e
      | g M => cases e
  | loadIfAlive a k =>
    cases ops with
    | nil => cases e
    | cons op ops =>
      cases op with
      | k n =>
        cases hk : K a with
        | none => simp only [stepO, hk] at e; cases e
        | some o =>
          simp only [stepO, hk] at e
          obtain ⟨x, y⟩ := IH _ _ _ _ _ _ _ _ _ _ _ _ _ _ _ e eq
          refine ⟨x, fun ok hh D => .step _ _ _ _ _ _ _ _ (step_loadIfAlive (M := ⟨denote tb, p, w⟩) ..) ?_⟩
          rw [show (Shared.heap ⟨hh, ⟨gens ++ own⟩, d, toks, os⟩).get? a = some o from D.keep a o (hK a o hk).1 (hK a o hk).2]
          exact y (opsK ok) hh D
      | s i =>
        cases hi : T.get i with
        | none => simp only [stepO, hi] at e; cases e
        | some bo =>
          obtain ⟨b, o⟩ := bo
          simp only [stepO, hi] at e
          obtain ⟨x, y⟩ := IH _ _ _ _ _ _ _ _ _ _ _ _ _ _ _ e eq
          simp only [List.cons.injEq, SideV.n.injEq] at x
          obtain ⟨rfl, rfl⟩ := x
          refine ⟨rfl, fun ok hh D => .step _ _ _ _ _ _ _ _ (step_loadIfAlive (M := ⟨denote tb, p, w⟩) ..) ?_⟩
          rw [show (Shared.heap ⟨hh, ⟨gens ++ own⟩, d, toks, os⟩).get? a = some o from (D.slot i a o hi).2]
          exact y ok hh D
      | u S => cases e
      | a S => cases e
      | m M => cases e
      | q M => cases e
      | e M => cases e
      | g M => cases e
  | update a q f k =>
    cases ops with
    | nil => cases e
    | cons op ops =>
      cases op with
      | k n => cases e
      | s i =>
        cases hi : T.get i with
        | none => simp only [stepO, hi] at e; cases e
        | some bo =>
          obtain ⟨b, o⟩ := bo
          cases hf : (f o).isFreed with
          | true => simp only [stepO, hi, hf] at e; cases e
          | false =>
            simp only [stepO, hi, hf] at e
            obtain ⟨x, y⟩ := IH _ _ _ _ _ _ _ _ _ _ _ _ _ _ _ e eq
            simp only [List.cons.injEq, SideV.n.injEq] at x
            obtain ⟨rfl, rfl⟩ := x
            exact ⟨rfl, fun ok hh D => .step _ _ _ _ _ _ _ _ (step_update (M := ⟨denote tb, p, w⟩) _ _ _ _ q f k (by rw [show (Shared.heap ⟨hh, ⟨gens ++ own⟩, d, toks, os⟩).get? a = some o from (D.slot i a o hi).2]; rfl)) (y ok _ (D.update hi hf))⟩
      | u S => cases e
      | a S => cases e
      | m M => cases e
      | q M => cases e
      | e M => cases e
      | g M => cases e
  | call c hd g l k =>
    cases ops with
    | nil => cases e
    | cons op ops =>
      cases op with
      | k n =>
        obtain ⟨x, y⟩ := IH _ _ _ _ _ _ _ _ _ _ _ _ _ _ _ e eq
        exact ⟨x, fun ok hh D => .step _ _ _ _ _ _ _ _ (step_call (M := ⟨denote tb, p, w⟩) ..) (y (opsK ok) hh D)⟩
      | s i => cases e
      | u S =>
        obtain ⟨x, y⟩ := useS_ok tb p w K h₀ free d os bot hK hb IH _ e eq
        exact ⟨x, fun ok hh D => .step _ _ _ _ _ _ _ _ (step_call (M := ⟨denote tb, p, w⟩) ..) (y ok.2 (ok.1 c sz toks) g l [] pos hh D)⟩
      | a S => cases e
      | m M => cases e
      | q M => cases e
      | e M => cases e
      | g M => cases e
  | newGen c k =>
    obtain ⟨a, b⟩ := IH _ _ _ _ _ _ _ _ _ _ _ _ _ _ _ e eq
    refine ⟨a, fun ok hh D => .step _ _ _ _ _ _ _ _ ?_ (b ok hh D)⟩
    rw [← List.append_assoc, ← gpush, ← List.length_append]
    exact step_newGen (M := ⟨denote tb, p, w⟩) ..
  | genState g k =>
    cases ops with
    | nil => cases e
    | cons op ops =>
      cases op with
      | s i =>
        cases hg : own[i]? with
        | none => simp only [stepO, hg] at e; cases e
        | some x =>
          simp only [stepO, hg] at e
          obtain ⟨a, b⟩ := IH _ _ _ _ _ _ _ _ _ _ _ _ _ _ _ e eq
          simp only [List.cons.injEq, SideV.n.injEq] at a
          obtain ⟨rfl, a⟩ := a
          exact ⟨a, fun ok hh D => .step _ _ _ _ _ _ _ _ (step_genState (M := ⟨denote tb, p, w⟩) _ _ _ _ k ((gget _ _).trans ((getApp gens own i).trans hg))) (b ok hh D)⟩
      | k n => cases e
      | u x => cases e
      | a x => cases e
      | m x => cases e
      | q x => cases e
      | e x => cases e
      | g x => cases e
  | resume g r l k =>
    cases ops with
    | nil => cases e
    | cons op ops =>
      cases op with
      | s i =>
        cases hg : own[i]? with
        | none => simp only [stepO, hg] at e; cases e
        | some x =>
          cases x with
          | fresh c =>
            cases r with
            | throw v => simp only [stepO, hg] at e; cases e
            | send v =>
              cases v with
              | none =>
                simp only [stepO, hg] at e
                obtain ⟨a, b⟩ := IH _ _ _ _ _ _ _ _ _ _ _ _ _ _ _ e eq
                simp only [List.cons.injEq, SideV.n.injEq] at a
                obtain ⟨rfl, a⟩ := a
                have hg' : (⟨gens ++ own⟩ : Array GenState)[gens.length + i]? = some (.fresh c) := (gget _ _).trans ((getApp gens own i).trans hg)
                refine ⟨a, fun ok hh D => .step _ _ _ _ _ _ _ _ ?_ (b ok hh D)⟩
                rw [← setApp, ← gset]
                exact step_resume_fresh (M := ⟨denote tb, p, w⟩) _ _ _ _ l k hg'
              | _ => simp only [stepO, hg] at e; cases e
          | suspended kk lv c q fs cl =>
            simp only [stepO, hg] at e
            obtain ⟨a, b⟩ := IH _ _ _ _ _ _ _ _ _ _ _ _ _ _ _ e eq
            simp only [List.cons.injEq, SideV.n.injEq] at a
            obtain ⟨rfl, a⟩ := a
            have hg' : (⟨gens ++ own⟩ : Array GenState)[gens.length + i]? = some (.suspended kk lv c q fs cl) := (gget _ _).trans ((getApp gens own i).trans hg)
            refine ⟨a, fun ok hh D => ?_⟩
            have z := b ok hh D
            rw [List.append_assoc] at z
            refine .step _ _ _ _ _ _ _ _ ?_ z
            rw [← setApp, ← gset]
            exact step_resume_suspended (M := ⟨denote tb, p, w⟩) ⟨hh, ⟨gens ++ own⟩, d, toks, os⟩ _ _ (st ++ bot) r l k hg'
          | running => simp only [stepO, hg] at e; cases e
          | finished => simp only [stepO, hg] at e; cases e
      | k n => cases e
      | u x => cases e
      | a x => cases e
      | m x => cases e
      | q x => cases e
      | e x => cases e
      | g x => cases e
  | «yield» v gd l k =>
    cases hs : splitAtGen st with
    | none => simp only [stepO, hs] at e; cases e
    | some x =>
      obtain ⟨fs, ⟨g, kk, c, q⟩, rest⟩ := x
      cases hq : (End.susp v gd l k code pos fs).quiet with
      | false => simp only [stepO, hs, hq] at e; cases e
      | true =>
        cases ops with
        | nil => simp only [stepO, hs, hq] at e; cases e
        | cons op ops =>
          cases op with
          | s i =>
            simp only [stepO, hs, hq] at e
            obtain ⟨a, b⟩ := IH _ _ _ _ _ _ _ _ _ _ _ _ _ _ _ e eq
            simp only [List.cons.injEq, SideV.n.injEq] at a
            obtain ⟨rfl, a⟩ := a
            exact ⟨a, fun ok hh D => .step _ _ _ _ _ _ _ _ (by rw [← setApp, ← gset]; exact step_yield (M := ⟨denote tb, p, w⟩) _ _ _ _ v gd l k (splitAtGen_append_some bot hs) hq) (b ok hh D)⟩
          | _ => simp only [stepO, hs, hq] at e; cases e
  | unsupported | finish | register | choose | os | fork | await => cases e

theorem runG_ok : ∀ n, RunOk tb p w K h₀ free d os bot (runG tb p w K (bot.map Frame.where_) n)
  | 0 => fun ops T m sz gens own toks F cur code pos st L R out e eq => by
    cases e
    exact ⟨eq, fun _ h D => ⟨h, by show Comes _ _ _ ⟨h, ⟨appG gens own⟩, _, _, _⟩ _; rw [appG_eq]; exact .refl _ _, D⟩⟩
  | n + 1 => stepO_ok tb p w K h₀ free d os bot hK hb (runG_ok n)
theorem run_ok (n : Nat) (ops T m sz gens toks F cur code pos st L R out) (e : run tb p w K (bot.map Frame.where_) n ops T m sz gens toks F cur code pos st L R = some out) (eq : out.L = out.R) :
    L = R ∧ (OpsOk ⟨denote tb, p, w⟩ K ops → ∀ h, Rep h₀ free h T m sz F → Goes tb p w h₀ free d os bot out h gens toks ⟨cur, code, pos, st ++ bot⟩) := by
  obtain ⟨a, b⟩ := runG_ok tb p w K h₀ free d os bot hK hb n _ _ _ _ _ _ _ _ _ _ _ _ _ _ _ e eq
  refine ⟨a, fun ok h D => ?_⟩
  have := b ok h D
  rw [List.append_nil] at this
  exact this
end
end Mine
namespace Mine
open PySem PySem.W
noncomputable def runT (p : Program) (w : World) (K : Nat → Option Obj) (W : List (Code × Pos)) := run treeTable p w K W
noncomputable def denT := denote treeTable
/-- a world, its two rows told apart -/
noncomputable def wb (b c : Bool) (w : World) : World := (w.withFollow "special-get-raises" b).withFollow "comprehension-iter-twice" c
theorem wb_self (w : World) : ∃ b c, wb b c w = w := by
  refine ⟨w.params.followText "special-get-raises", w.params.followText "comprehension-iter-twice", ?_⟩
  unfold wb
  rw [World.withFollow_self, World.withFollow_self]
end Mine
lay_quick Mine.runT
lay_quick Mine.denT
lay_quick Mine.wb
namespace Mine
open PySem PySem.W

noncomputable abbrev tR := PySem.W.Fast.tw1274714115002603182
noncomputable abbrev tD := PySem.W.Fast.tw15477605792463102439
noncomputable abbrev tW := PySem.W.Fast.tw2171096225454540129
theorem tR_eq : tR = runT := PySem.W.Fast.te1274714115002603182.symm
theorem tD_eq : tD = denote treeTable := PySem.W.Fast.te15477605792463102439.symm
theorem tW_eq : tW = wb := PySem.W.Fast.te2171096225454540129.symm
noncomputable abbrev mdl (p : Program) (w : World) : Model := ⟨denote treeTable, p, w⟩

/-- the memory that a list of objects makes -/
noncomputable def iniGo : List (Nat × Obj) → Mem → Nat → Mem
  | [], T, _ => T
  | q :: r, T, m => iniGo r (T.ins m q) (m + 1)
noncomputable def iniOk : List (Nat × Obj) → Mem → Nat → Bool
  | [], _, _ => true
  | q :: r, T, m => match (T.ins m q).get m with
    | some _ => iniOk r (T.ins m q) (m + 1)
    | none => false
noncomputable def mkT (l : List (Nat × Obj)) : Mem := iniGo l .nil 0

theorem iniGo_get : ∀ {l : List (Nat × Obj)} {T : Mem} {m i : Nat} {q : Nat × Obj}, iniOk l T m = true → (iniGo l T m).get i = some q → T.get i = some q ∨ (m ≤ i ∧ l[i - m]? = some q)
  | [], _, _, _, _, _, e => .inl e
  | x :: r, T, m, i, q, ok, e => by
    unfold iniOk at ok
    have hg : ((T.ins m x).get m).isSome = true := by
      cases z : (T.ins m x).get m with
      | none => rw [z] at ok; cases ok
      | some _ => rfl
    have ok' : iniOk r (T.ins m x) (m + 1) = true := by
      cases z : (T.ins m x).get m with
      | none => rw [z] at ok; cases ok
      | some _ => rw [z] at ok; exact ok
    rcases iniGo_get (l := r) ok' e with z | ⟨z1, z2⟩
    · rw [Tr.get_ins _ T m hg] at z
      by_cases hi : i = m
      · rw [if_pos hi] at z
        cases z
        exact .inr ⟨Nat.le_of_eq hi.symm, by rw [hi, Nat.sub_self]; rfl⟩
      · rw [if_neg hi] at z
        exact .inl z
    · refine .inr ⟨Nat.le_of_succ_le z1, ?_⟩
      have : i - m = (i - (m + 1)) + 1 := by omega
      rw [this]; exact z2

theorem Rep.start {h : Heap} {ini : List (Nat × Obj)} (ok : iniOk ini .nil 0 = true) (hh : ∀ q ∈ ini, h.get? q.1 = some q.2) (nd : (ini.map (·.1)).Nodup) {F : List (List (Nat × Obj))}
    (hF : ∀ l ∈ F, ∀ q ∈ l, h.get? q.1 = some q.2 ∧ q.1 ∉ ini.map (·.1)) : Rep h (ini.map (·.1)) h (mkT ini) ini.length h.objs.size F := by
  have key : ∀ i q, (mkT ini).get i = some q → ini[i]? = some q := fun i q e => by
    rcases iniGo_get ok e with z | ⟨_, z⟩
    · cases z
    · exact z
  refine ⟨rfl, fun i a o e => ?_, fun i j a o o' e1 e2 => ?_, fun b o e _ => e, fun i a o e => .inl ?_, Nat.le_refl _, fun l hl q hq => ⟨(hF l hl q hq).1, fun i o e => ?_⟩⟩
  · have := key i _ e
    exact ⟨(List.getElem?_eq_some_iff.mp this).1, hh _ (List.mem_of_getElem? this)⟩
  · have h1 := key i _ e1
    have h2 := key j _ e2
    obtain ⟨l1, g1⟩ := List.getElem?_eq_some_iff.mp h1
    obtain ⟨l2, g2⟩ := List.getElem?_eq_some_iff.mp h2
    rcases Nat.lt_trichotomy i j with z | z | z
    · have x := List.pairwise_iff_getElem.mp nd i j (by simpa using l1) (by simpa using l2) z
      rw [List.getElem_map, List.getElem_map, g1, g2] at x
      exact absurd rfl x
    · exact z
    · have x := List.pairwise_iff_getElem.mp nd j i (by simpa using l2) (by simpa using l1) z
      rw [List.getElem_map, List.getElem_map, g1, g2] at x
      exact absurd rfl x
  · exact List.mem_map.mpr ⟨_, List.mem_of_getElem? (key i _ e), rfl⟩
  · exact (hF l hl q hq).2 (List.mem_map.mpr ⟨_, List.mem_of_getElem? (key i _ e), rfl⟩)

/-- the equation that the kernel checks -/
noncomputable def chk {α : Type} (r : Option Out) (P : Out → α) : Bool × Option (List SideV × α) := (r.isSome, r.map fun o => (o.L, P o))
noncomputable def chk' {α : Type} (r : Option Out) (v : α) : Bool × Option (List SideV × α) := (true, r.map fun o => (o.R, v))
theorem chk_out {α : Type} {r : Option Out} {P : Out → α} {v : α} (e : chk r P = chk' r v) : ∃ o, r = some o ∧ o.L = o.R ∧ P o = v := by
  unfold chk chk' at e
  cases r with
  | none => cases (Prod.mk.inj e).1
  | some o =>
    obtain ⟨_, e⟩ := Prod.mk.inj e
    obtain ⟨e1, e2⟩ := Prod.mk.inj (Option.some.inj e)
    exact ⟨o, rfl, e1, e2⟩

/-- one run: what comes of it -/
theorem go {p : Program} {w : World} {K : Nat → Option Obj} {bot : List Frame} {W : List (Code × Pos)} {ini : List (Nat × Obj)} {F : List (List (Nat × Obj))} {n : Nat} {ops : List Op} {m sz : Nat} {gens : List GenState} {toks : Nat} {cur : Sem Fin} {code : Code} {pos : Pos} {st : List Frame}
    {α : Type} {P : Out → α} {v : α} (hW : bot.map Frame.where_ = W) (hb : topHandled bot = none) {h : Heap} {d : Drawn} {os : OsState}
    (hK : ∀ a o, K a = some o → h.get? a = some o) (hK' : ∀ q ∈ ini, K q.1 = none) (hh : ∀ q ∈ ini, h.get? q.1 = some q.2) (nd : (ini.map (·.1)).Nodup) (hF : ∀ l ∈ F, ∀ q ∈ l, h.get? q.1 = some q.2 ∧ q.1 ∉ ini.map (·.1))
    (hs : h.objs.size = sz) (hm : m = ini.length) (hi : iniOk ini .nil 0 = true) (ok : OpsOk (mdl p w) K ops)
    (e : chk (tR p w K W n ops (mkT ini) m sz gens toks F cur code pos st [] []) P = chk' (tR p w K W n ops (mkT ini) m sz gens toks F cur code pos st [] []) v) :
    ∃ out h', P out = v ∧ Comes (mdl p w) ⟨h, ⟨gens⟩, d, toks, os⟩ ⟨cur, code, pos, st ++ bot⟩ ⟨h', ⟨out.gens⟩, d, out.toks, os⟩ ⟨out.cur, out.code, out.pos, out.st ++ bot⟩ ∧ h'.objs.size = out.sz ∧
      (∀ i a o, out.T.get i = some (a, o) → h'.get? a = some o) ∧ (∀ l ∈ out.F, ∀ q ∈ l, h'.get? q.1 = some q.2) ∧ ∀ b o, h.get? b = some o → b ∉ ini.map (·.1) → h'.get? b = some o := by
  obtain ⟨out, e1, e2, e3⟩ := chk_out e
  subst hW hs hm
  rw [tR_eq] at e1
  have D := Rep.start (F := F) hi hh nd hF
  obtain ⟨_, y⟩ := run_ok treeTable p w K h (ini.map (·.1)) d os bot (fun a o q => ⟨hK a o q, fun z => by
    obtain ⟨x, hx, rfl⟩ := List.mem_map.mp z
    rw [hK' x hx] at q; cases q⟩) hb n _ _ _ _ _ _ _ _ _ _ _ _ _ out e1 e2
  obtain ⟨h', C, D'⟩ := y ok h D
  exact ⟨out, h', e3, C, D'.size, fun i a o q => (D'.slot i a o q).2, fun l hl q hq => (D'.fact l hl q hq).1, D'.keep⟩

/-- what a summary's run shows at its end -/
noncomputable def ends (n : Nat) (newi : List Nat) (o : Out) := (o.cur, o.code, o.pos, o.st, o.sz, o.toks, o.gens, o.F, (List.range n).map o.T.get, newi.map o.T.get)

theorem Summ.ofRun {p : Program} {w : World} {K : Nat → Option Obj} {S : Summ} {sz tok : Nat} (ini fin : List (Nat × Obj)) (newi : List Nat) (n : Nat) (ops : List Op) (N : Nat) (F : List (List (Nat × Obj)))
    (hini : S.pre.map (·.2) = ini) (hF : S.needs.map (·.2) = F) (hN : ini.length = N) (hfin : fin.map (·.1) = ini.map (·.1))
    (hpost : ∀ q ∈ S.post, (q.2.1, q.2.2) ∈ fin) (hsame : ∀ q ∈ fin, q ∈ ini ∨ ∃ r ∈ S.post, r.2.1 = q.1) (nd : (ini.map (·.1)).Nodup) (hK' : ∀ q ∈ ini, K q.1 = none) (hi : iniOk ini .nil 0 = true)
    (hFi : ∀ l ∈ F, ∀ q ∈ l, q.1 ∈ ini.map (·.1) → ∃ r ∈ S.post, r.2.1 = q.1)
    (hfa : ∀ l ∈ S.facts, ∀ q ∈ l, sz ≤ q.1 ∧ ∀ r ∈ S.new, q.1 ≠ sz + r.1)
    (ok : OpsOk (mdl p w) K ops)
    (e : ∀ (k : Result → Sem Fin) (g : Bool) (l : List Value) (code : Code) (pos pos' : Pos) (kp : List Value) (W : List (Code × Pos)) (gens : List GenState), S.shape ((code, pos) :: W) = true →
      chk (tR p w K W n ops (mkT ini) N sz gens tok F (tD S.code) S.code pos' [.ret k none g l code pos kp] [] []) (ends N newi) =
      chk' (tR p w K W n ops (mkT ini) N sz gens tok F (tD S.code) S.code pos' [.ret k none g l code pos kp] [] [])
        (k S.res, code, pos, [], addZ S.dsz sz + S.dl, tok + S.dtok, appG gens S.newg, S.facts ++ F, fin.map some, S.new.map fun q => some (sz + q.1, q.2))) : S.Valid (mdl p w) K sz tok := by
  intro s k g l code pos pos' kp st hK hpre hpo hne hne' hs ht hb hsh
  obtain ⟨h, ⟨gens⟩, d, toks, os⟩ := s
  replace ht : toks = tok := ht
  subst ht hini hF hN
  obtain ⟨out, h', e1, C, c1, c2, c3, c4⟩ := go (d := d) (os := os) (bot := st) rfl hb hK hK' (fun q hq => by
      obtain ⟨x, hx, rfl⟩ := List.mem_map.mp hq
      exact hpre x hx) nd (fun x hx q hq => by
      obtain ⟨y, hy, rfl⟩ := List.mem_map.mp hx
      refine ⟨hne y hy q hq, fun z => ?_⟩
      obtain ⟨r, hr, z⟩ := hFi _ hx q hq z
      exact hne' y hy q hq r hr z.symm) hs rfl hi ok (e k g l code pos pos' kp (st.map Frame.where_) gens hsh)
  simp only [ends, Prod.mk.injEq, appG_eq, addZ_eq] at e1
  obtain ⟨e1, e2, e3, e4, e5, e6, e7, e8, e9, e10⟩ := e1
  rw [tD_eq] at C
  rw [e1, e2, e3, e4, e6, e7] at C
  have hfinget : ∀ q ∈ fin, h'.get? q.1 = some q.2 := fun q hq => by
    have : some q ∈ fin.map some := List.mem_map.mpr ⟨q, hq, rfl⟩
    rw [← e9] at this
    obtain ⟨i, _, hi⟩ := List.mem_map.mp this
    exact c2 i q.1 q.2 hi
  have eg : (⟨gens⟩ : Array GenState) ++ ⟨S.newg⟩ = ⟨gens ++ S.newg⟩ := by simp
  refine ⟨h', ?_, c1.trans e5, fun q hq => hfinget _ (hpost q hq), fun q hq => ?_, fun x hx q hq => ⟨c3 x (by rw [e8]; exact List.mem_append_left _ hx) q hq, hfa x hx q hq⟩, fun b o hb' hn => ?_⟩
  · show Comes _ _ _ ⟨h', (⟨gens⟩ : Array GenState) ++ ⟨S.newg⟩, d, _, os⟩ _
    rw [eg]
    exact C
  · have : some (sz + q.1, q.2) ∈ S.new.map (fun q => some (sz + q.1, q.2)) := List.mem_map.mpr ⟨q, hq, rfl⟩
    rw [← e10] at this
    obtain ⟨i, _, hi⟩ := List.mem_map.mp this
    exact c2 i _ _ hi
  · by_cases hm : b ∈ (S.pre.map (·.2)).map (·.1)
    · rw [← hfin] at hm
      obtain ⟨q, hq, rfl⟩ := List.mem_map.mp hm
      rcases hsame q hq with z | ⟨r, hr, z⟩
      · obtain ⟨x, hx, rfl⟩ := List.mem_map.mp z
        have := hpre x hx
        rw [show (Shared.heap ⟨h, ⟨gens⟩, d, toks, os⟩).get? x.2.1 = h.get? x.2.1 from rfl] at this
        rw [show (Shared.heap ⟨h, ⟨gens⟩, d, toks, os⟩).get? x.2.1 = h.get? x.2.1 from rfl, this] at hb'
        cases hb'
        exact hfinget _ hq
      · exact absurd z (hn r hr)
    · exact c4 b o hb' hm

/-- what a turn's run shows at its end -/
noncomputable def turns (n : Nat) (o : Out) := (o.cur, o.code, o.st, o.sz, o.toks, o.gens, (List.range n).map o.T.get)
/-- one turn of a loop, and then the rest of it -/
theorem Summ.ofTurn {p : Program} {w : World} {K : Nat → Option Obj} {S : Summ} {sz tok : Nat} (pre' : List (Nat × Nat × Obj)) (dsz' : Option Nat) (dl' dtok' : Nat) (g1 g' : List GenState) (sz1 tok1 : Nat) (ini : List (Nat × Obj)) (n : Nat) (ops : List Op) (N : Nat)
    (hnew : S.new = []) (hfacts : S.facts = []) (hg : S.newg = g1 ++ g') (hini : S.pre.map (·.2) = ini) (hN : ini.length = N) (hfin : pre'.map (·.2.1) = ini.map (·.1))
    (hsame : ∀ q ∈ pre', q.2 ∈ ini ∨ ∃ r ∈ S.post, r.2.1 = q.2.1) (nd : (ini.map (·.1)).Nodup) (hK' : ∀ q ∈ ini, K q.1 = none) (hi : iniOk ini .nil 0 = true)
    (hne : S.needs = [])
    (hsz : S.dsz.getD 0 + sz + S.dl = dsz'.getD 0 + sz1 + dl') (htok : tok + S.dtok = tok1 + dtok')
    (ok : OpsOk (mdl p w) K ops)
    (e : ∀ (k : Result → Sem Fin) (g : Bool) (l : List Value) (code : Code) (pos pos' : Pos) (kp : List Value) (W : List (Code × Pos)) (gens : List GenState), S.shape ((code, pos) :: W) = true →
      chk (tR p w K W n ops (mkT ini) N sz gens tok [] (tD S.code) S.code pos' [.ret k none g l code pos kp] [] []) (turns N) =
      chk' (tR p w K W n ops (mkT ini) N sz gens tok [] (tD S.code) S.code pos' [.ret k none g l code pos kp] [] [])
        (tD S.code, S.code, [.ret k none g l code pos kp], sz1, tok1, appG gens g1, (pre'.map (·.2)).map some))
    (next : Summ.Valid (mdl p w) K { S with pre := pre', dsz := dsz', dl := dl', dtok := dtok', newg := g' } sz1 tok1) : S.Valid (mdl p w) K sz tok := by
  intro s k g l code pos pos' kp st hK hpre hpo hne1 hne' hs ht hb hsh
  obtain ⟨h, ⟨gens⟩, d, toks, os⟩ := s
  replace ht : toks = tok := ht
  subst ht hini hN
  obtain ⟨out, h1, e1, C, c1, c2, c3, c4⟩ := go (d := d) (os := os) (bot := st) rfl hb hK hK' (fun q hq => by
      obtain ⟨x, hx, rfl⟩ := List.mem_map.mp hq
      exact hpre x hx) nd (fun x hx => absurd hx (List.not_mem_nil)) hs rfl hi ok (e k g l code pos pos' kp (st.map Frame.where_) gens hsh)
  simp only [turns, Prod.mk.injEq, appG_eq] at e1
  obtain ⟨e1, e2, e3, e4, e5, e6, e7⟩ := e1
  rw [tD_eq] at C e1
  rw [e1, e2, e3, e5, e6] at C
  have hfinget : ∀ q ∈ pre', h1.get? q.2.1 = some q.2.2 := fun q hq => by
    have : some q.2 ∈ (pre'.map (·.2)).map some := List.mem_map.mpr ⟨q.2, List.mem_map.mpr ⟨q, hq, rfl⟩, rfl⟩
    rw [← e7] at this
    obtain ⟨i, _, hi⟩ := List.mem_map.mp this
    exact c2 i q.2.1 q.2.2 hi
  have hin : ∀ b, b ∈ (S.pre.map (·.2)).map (·.1) → ∃ q ∈ pre', q.2.1 = b := fun b hm => by
    rw [← hfin] at hm
    obtain ⟨q, hq, rfl⟩ := List.mem_map.mp hm
    exact ⟨q, hq, rfl⟩
  have keep : ∀ b o, h.get? b = some o → (∀ q ∈ S.post, q.2.1 ≠ b) → h1.get? b = some o := fun b o hb' hn => by
    by_cases hm : b ∈ (S.pre.map (·.2)).map (·.1)
    · obtain ⟨q, hq, rfl⟩ := hin b hm
      rcases hsame q hq with z | ⟨r, hr, z⟩
      · obtain ⟨x, hx, z⟩ := List.mem_map.mp z
        have := hpre x hx
        rw [show (Shared.heap ⟨h, ⟨gens⟩, d, toks, os⟩).get? x.2.1 = h.get? x.2.1 from rfl, z, hb'] at this
        rw [hfinget q hq, this]
      · exact absurd z (hn r hr)
    · exact c4 b o hb' hm
  obtain ⟨h', C2, w1, w2, w3, w4, w5⟩ := next ⟨h1, ⟨gens ++ g1⟩, d, tok1, os⟩ k g l code pos out.pos kp st (fun a o q => by
      by_cases hm : a ∈ (S.pre.map (·.2)).map (·.1)
      · obtain ⟨x, hx, rfl⟩ := List.mem_map.mp hm
        rw [hK' x hx] at q; cases q
      · exact c4 a o (hK a o q) hm) hfinget (fun q hq => by
      obtain ⟨o, ho⟩ := hpo q hq
      by_cases hm : q.2.1 ∈ (S.pre.map (·.2)).map (·.1)
      · obtain ⟨x, hx, z⟩ := hin _ hm
        exact ⟨x.2.2, z ▸ hfinget x hx⟩
      · exact ⟨o, c4 _ o ho hm⟩) (fun n hn => by rw [hne] at hn; cases hn) (fun n hn => by rw [hne] at hn; cases hn) (c1.trans e4) rfl hb hsh
  refine ⟨h', ?_, w1.trans hsz.symm, w2, (by rw [hnew]; exact fun _ z => nomatch z), (by rw [hfacts]; exact fun _ z => nomatch z), fun b o hb' hn => w5 b o (keep b o hb' hn) hn⟩
  have C3 := C.trans C2
  rw [htok, hg]
  have eg : (⟨gens ++ g1⟩ : Array GenState) ++ ⟨g'⟩ = (⟨gens⟩ : Array GenState) ++ ⟨g1 ++ g'⟩ := by simp
  rw [← eg]
  exact C3
end Mine
namespace Mine
open PySem PySem.W
/-- a summary at a told size and token -/
noncomputable def Summ.at (S : Summ) (sz tok : Nat) : Summ := { S with atS := some sz, atT := some tok }
theorem Summ.at_ok {M : Model} {K : Nat → Option Obj} {S : Summ} {sz tok : Nat} (h : S.Valid M K sz tok) (sz' tok' : Nat) (h1 : ∀ a, (S.at sz tok).atS = some a → sz' = a) (h2 : ∀ a, (S.at sz tok).atT = some a → tok' = a) : (S.at sz tok).Valid M K sz' tok' := by
  have e1 : sz' = sz := h1 sz rfl
  have e2 : tok' = tok := h2 tok rfl
  subst e1 e2
  exact h
end Mine
namespace Mine
open PySem PySem.W

theorem Summ.Valid.none_dsz {M : Model} {K : Nat → Option Obj} {S : Summ} {sz tok : Nat} (h : Summ.Valid M K { S with dsz := none } sz tok) : Summ.Valid M K { S with dsz := some 0 } sz tok := h

/-- a loop: its state, what stands in its slots, what a turn does to the state, what it costs -/
structure Loop (σ ε : Type) where
  code : Code
  res : Result
  slots : Nat → σ → List (Nat × Nat × Obj)
  fin : Nat → σ → List (Nat × Obj)
  post : Nat → σ → List (Nat × Nat × Obj)
  edl : Nat
  edt : Nat
  step : ε → σ → Nat → σ
  sdl : ε → σ → Nat → Nat
  sdt : ε → σ → Nat → Nat
  shape : List (Code × Pos) → Bool := fun _ => true

variable {σ ε : Type}
noncomputable def Loop.go (L : Loop σ ε) : List ε → σ → Nat → σ × Nat × Nat
  | [], st, _ => (st, 0, L.edt)
  | e :: r, st, t => ((L.go r (L.step e st t) (t + L.sdt e st t)).1, L.sdl e st t + (L.go r (L.step e st t) (t + L.sdt e st t)).2.1, L.sdt e st t + (L.go r (L.step e st t) (t + L.sdt e st t)).2.2)
noncomputable def Loop.S (L : Loop σ ε) (n : Nat) (rem : List ε) (st : σ) (t : Nat) : Summ :=
  { code := L.code, res := L.res, pre := L.slots n st, post := L.post (n + rem.length) (L.go rem st t).1, dsz := some (L.go rem st t).2.1, dl := L.edl, dtok := (L.go rem st t).2.2, shape := L.shape }

theorem Loop.valid {p : Program} {w : World} {K : Nat → Option Obj} (L : Loop σ ε) (addrs paddrs : List Nat) (len : Nat) (I : Nat → σ → Prop) (el : Nat → ε → Prop) (last : Nat → Prop) (lo : Nat)
    (h1 : ∀ n st, (L.slots n st).map (·.2.1) = addrs) (hl : addrs.length = len) (hi : ∀ n st, iniOk ((L.slots n st).map (·.2)) .nil 0 = true) (nd : addrs.Nodup) (hK : ∀ a ∈ addrs, K a = none)
    (hp : ∀ n st, (L.post n st).map (·.2.1) = paddrs) (hsame : ∀ n st n' st', ∀ q ∈ L.slots n' st', q.2 ∈ (L.slots n st).map (·.2) ∨ q.2.1 ∈ paddrs)
    (turn : ∀ n st e sz tok, lo ≤ sz → I n st → el n e → I (n + 1) (L.step e st tok) ∧ ∃ N ops, OpsOk (mdl p w) K ops ∧
      ∀ (k : Result → Sem Fin) (g : Bool) (l : List Value) (code : Code) (pos pos' : Pos) (kp : List Value) (W : List (Code × Pos)) (gens : List GenState), L.shape ((code, pos) :: W) = true →
        chk (tR p w K W N ops (mkT ((L.slots n st).map (·.2))) len sz gens tok [] (tD L.code) L.code pos' [.ret k none g l code pos kp] [] []) (turns len) =
        chk' (tR p w K W N ops (mkT ((L.slots n st).map (·.2))) len sz gens tok [] (tD L.code) L.code pos' [.ret k none g l code pos kp] [] [])
          (tD L.code, L.code, [.ret k none g l code pos kp], sz + L.sdl e st tok, tok + L.sdt e st tok, appG gens [], ((L.slots (n + 1) (L.step e st tok)).map (·.2)).map some))
    (fin : ∀ n st sz tok, lo ≤ sz → I n st → last n → ∃ N ops, OpsOk (mdl p w) K ops ∧
      ∀ (k : Result → Sem Fin) (g : Bool) (l : List Value) (code : Code) (pos pos' : Pos) (kp : List Value) (W : List (Code × Pos)) (gens : List GenState), L.shape ((code, pos) :: W) = true →
        chk (tR p w K W N ops (mkT ((L.slots n st).map (·.2))) len sz gens tok [] (tD L.code) L.code pos' [.ret k none g l code pos kp] [] []) (ends len []) =
        chk' (tR p w K W N ops (mkT ((L.slots n st).map (·.2))) len sz gens tok [] (tD L.code) L.code pos' [.ret k none g l code pos kp] [] [])
          (k L.res, code, pos, [], sz + L.edl, tok + L.edt, appG gens [], [], (L.fin n st).map some, []))
    (hf1 : ∀ n st, (L.fin n st).map (·.1) = addrs) (hf2 : ∀ n st, ∀ q ∈ L.post n st, (q.2.1, q.2.2) ∈ L.fin n st) (hf3 : ∀ n st, ∀ q ∈ L.fin n st, q ∈ (L.slots n st).map (·.2) ∨ q.1 ∈ paddrs) :
    ∀ (rem : List ε) (n : Nat) (st : σ) (sz tok : Nat), lo ≤ sz → (∀ i e, rem[i]? = some e → el (n + i) e) → last (n + rem.length) → I n st → (L.S n rem st tok).Valid (mdl p w) K sz tok
  | [], n, st, sz, tok, hlo, he, hla, hI => by
    obtain ⟨N, ops, ok, run⟩ := fin n st sz tok hlo hI hla
    have hm : ∀ n st, ((L.slots n st).map (·.2)).map (·.1) = addrs := fun n st => by rw [List.map_map]; exact h1 n st
    refine Summ.Valid.none_dsz (S := L.S n [] st tok) ?_
    refine Summ.ofRun ((L.slots n st).map (·.2)) (L.fin n st) [] N ops len [] rfl rfl (by rw [← hl, ← h1 n st]; simp) ((hf1 n st).trans (hm n st).symm) (hf2 n st) (fun q hq => ?_) (by rw [hm]; exact nd) (fun q hq => hK _ (by rw [← hm n st]; exact List.mem_map.mpr ⟨q, hq, rfl⟩)) (hi n st) (fun l hl => nomatch hl) (fun l hl => nomatch hl) ok run
    rcases hf3 n st q hq with z | z
    · exact .inl z
    · rw [← hp n st] at z
      obtain ⟨r, hr, z⟩ := List.mem_map.mp z
      exact .inr ⟨r, hr, z⟩
  | e :: rem, n, st, sz, tok, hlo, he, hla, hI => by
    obtain ⟨hI', N, ops, ok, run⟩ := turn n st e sz tok hlo hI (he 0 e rfl)
    have hm : ∀ n st, ((L.slots n st).map (·.2)).map (·.1) = addrs := fun n st => by rw [List.map_map]; exact h1 n st
    have next := L.valid addrs paddrs len I el last lo h1 hl hi nd hK hp hsame turn fin hf1 hf2 hf3 rem (n + 1) (L.step e st tok) (sz + L.sdl e st tok) (tok + L.sdt e st tok) (Nat.le_trans hlo (Nat.le_add_right _ _)) (fun i x hx => by
      have := he (i + 1) x (by simpa using hx)
      rw [show n + (i + 1) = n + 1 + i by omega] at this
      exact this) (by rw [show n + 1 + rem.length = n + (e :: rem).length by simp; omega]; exact hla) hI'
    refine Summ.ofTurn (S := L.S n (e :: rem) st tok) (L.slots (n + 1) (L.step e st tok)) (some (L.go rem (L.step e st tok) (tok + L.sdt e st tok)).2.1) L.edl (L.go rem (L.step e st tok) (tok + L.sdt e st tok)).2.2 [] [] (sz + L.sdl e st tok) (tok + L.sdt e st tok) (List.map (fun q : Nat × Nat × Obj => q.2) (L.slots n st)) N ops len
      rfl rfl rfl rfl (by rw [← hl, ← h1 n st]; simp) ((h1 _ _).trans (hm n st).symm) (fun q hq => ?_) (by rw [hm]; exact nd) (fun q hq => hK _ (by rw [← hm n st]; exact List.mem_map.mpr ⟨q, hq, rfl⟩)) (hi n st) rfl ?_ ?_ ok run ?_
    · rcases hsame n st _ _ q hq with z | z
      · exact .inl z
      · rw [← hp (n + (e :: rem).length) (L.go (e :: rem) st tok).1] at z
        obtain ⟨r, hr, z⟩ := List.mem_map.mp z
        exact .inr ⟨r, hr, z⟩
    · show L.sdl e st tok + _ + sz + L.edl = _ + (sz + L.sdl e st tok) + L.edl
      simp only [Option.getD_some]
      omega
    · show tok + (L.sdt e st tok + _) = tok + L.sdt e st tok + _
      omega
    · have hx : n + 1 + rem.length = n + (e :: rem).length := by simp; omega
      unfold Loop.S at next
      rw [hx] at next
      exact next

/-- the same summary, its end said by names -/
noncomputable def Loop.T (L : Loop σ ε) (n m : Nat) (st st' : σ) (dz dt : Nat) : Summ :=
  { code := L.code, res := L.res, pre := L.slots n st, post := L.post m st', dsz := some dz, dl := L.edl, dtok := dt, shape := L.shape }
theorem Loop.T_ok {M : Model} {K : Nat → Option Obj} {L : Loop σ ε} {n m : Nat} {st st' : σ} {dz dt sz tok : Nat} {rem : List ε} (h : (L.S n rem st tok).Valid M K sz tok) (hm : m = n + rem.length) (hg : L.go rem st tok = (st', dz, dt)) : (L.T n m st st' dz dt).Valid M K sz tok := by
  subst hm
  unfold Loop.S at h
  rw [hg] at h
  exact h
end Mine
namespace Mine
open PySem PySem.W
end Mine
namespace Mine
open PySem PySem.W

theorem comes_any {p : Program} {w : World} {c code : Code} {s s₁ : Shared} {r : Result} {k : Result → Sem Fin} {g : Bool} {l kp : List Value} {pos pos' : Pos} {st : List Frame} (hb : topHandled st = none)
    (h : ∀ A : Around, A.handled = none → wpAny (model p w) A (denote table c) (fun fin s' => ∃ f, fin = .done f ∧ r = .ok f ∧ s' = s₁) (fun e s' => r = .error e ∧ s' = s₁) s) :
    Comes (mdl p w) s ⟨(mdl p w).den c, c, pos', .ret k none g l code pos kp :: st⟩ s₁ ⟨k r, code, pos, st⟩ := by
  have hm : mdl p w = model p w := by unfold mdl model; rw [table_eq_tree]
  rw [hm]
  let Γ := Ctx.of c (.ret k none g l code pos kp :: st)
  have hh : Γ.handled = none := by
    show topHandled (.ret k none g l code pos kp :: st) = none
    rw [topHandled_ret]; exact hb
  obtain ⟨s', p', leaf, C, hl⟩ := wp_comes (Γ := Γ) (Ctx.fits_of c _) (denote table c) _ _ pos' s
    (h ⟨none, frameCount Γ.below + Γ.code.weight, none, none, Γ.units⟩ rfl Γ pos' ⟨hh, Nat.le_refl _, (fun _ z => by cases z), (fun _ z => by cases z), Nat.le_refl _⟩)
  rcases hl with ⟨a, rfl, f, rfl, rfl, rfl⟩ | ⟨e, rfl, rfl, rfl⟩
  · exact C.trans (.step (step_leaf_ret (M := model p w) _ _ _ _ (.ok f) k none g l code pos kp) (.refl _ _))
  · exact C.trans (.step (step_leaf_ret (M := model p w) _ _ _ _ (.error e) k none g l code pos kp) (.refl _ _))

theorem comes_tree {p : Program} {w : World} {c code : Code} {s s₁ : Shared} {r : Result} {k : Result → Sem Fin} {g : Bool} {l kp : List Value} {pos pos' : Pos} {st : List Frame} {t : Sem Fin} (hb : topHandled st = none)
    (h : ∀ A : Around, A.handled = none → wpAny (model p w) A t (fun fin s' => ∃ f, fin = .done f ∧ r = .ok f ∧ s' = s₁) (fun e s' => r = .error e ∧ s' = s₁) s) :
    Comes (mdl p w) s ⟨t, c, pos', .ret k none g l code pos kp :: st⟩ s₁ ⟨k r, code, pos, st⟩ := by
  have hm : mdl p w = model p w := by unfold mdl model; rw [table_eq_tree]
  rw [hm]
  let Γ := Ctx.of c (.ret k none g l code pos kp :: st)
  have hh : Γ.handled = none := by
    show topHandled (.ret k none g l code pos kp :: st) = none
    rw [topHandled_ret]; exact hb
  obtain ⟨s', p', leaf, C, hl⟩ := wp_comes (Γ := Γ) (Ctx.fits_of c _) t _ _ pos' s
    (h ⟨none, frameCount Γ.below + Γ.code.weight, none, none, Γ.units⟩ rfl Γ pos' ⟨hh, Nat.le_refl _, (fun _ z => by cases z), (fun _ z => by cases z), Nat.le_refl _⟩)
  rcases hl with ⟨a, rfl, f, rfl, rfl, rfl⟩ | ⟨e, rfl, rfl, rfl⟩
  · exact C.trans (.step (step_leaf_ret (M := model p w) _ _ _ _ (.ok f) k none g l code pos kp) (.refl _ _))
  · exact C.trans (.step (step_leaf_ret (M := model p w) _ _ _ _ (.error e) k none g l code pos kp) (.refl _ _))
/-- the middle of a tree -/
theorem comes_mid {p : Program} {w : World} {α : Type} {c : Code} {s s₁ : Shared} {a : α} {m : Sem α} {f : α → Sem Fin} {pos' : Pos} {st : List Frame} (hb : topHandled st = none)
    (h : ∀ A : Around, A.handled = none → wpAny (model p w) A m (fun x s' => x = a ∧ s' = s₁) (fun _ _ => False) s) :
    ∃ pos'', Comes (mdl p w) s ⟨m.bind f, c, pos', st⟩ s₁ ⟨f a, c, pos'', st⟩ := by
  have hm : mdl p w = model p w := by unfold mdl model; rw [table_eq_tree]
  rw [hm]
  let Γ := Ctx.of c st
  have hh : Γ.handled = none := hb
  obtain ⟨s', p', t', C, hl⟩ := wp_comes_bind (Γ := Γ) (Ctx.fits_of c _) f m _ _ pos' s
    (h ⟨none, frameCount Γ.below + Γ.code.weight, none, none, Γ.units⟩ rfl Γ pos' ⟨hh, Nat.le_refl _, (fun _ z => by cases z), (fun _ z => by cases z), Nat.le_refl _⟩)
  rcases hl with ⟨x, rfl, rfl, rfl⟩ | ⟨e, rfl, z⟩
  · exact ⟨p', C⟩
  · exact z.elim

/-- what a prefix's run shows -/
noncomputable def mids (n : Nat) (o : Out) := (o.cur, o.code, o.st, o.sz, o.toks, o.gens, (List.range n).map o.T.get)
/-- a summary from a run that changes nothing, and then the library's rules -/
theorem Summ.ofPre {p : Program} {w : World} {K : Nat → Option Obj} {S : Summ} {sz tok : Nat} (ini : List (Nat × Obj)) (X : Sem Fin) (n : Nat) (ops : List Op) (N : Nat)
    (hg : S.newg = []) (hfa : S.facts = []) (hne : S.needs = []) (hini : S.pre.map (·.2) = ini) (hN : ini.length = N) (nd : (ini.map (·.1)).Nodup) (hK' : ∀ q ∈ ini, K q.1 = none) (hi : iniOk ini .nil 0 = true)
    (ok : OpsOk (mdl p w) K ops)
    (e : ∀ (k : Result → Sem Fin) (g : Bool) (l : List Value) (code : Code) (pos pos' : Pos) (kp : List Value) (W : List (Code × Pos)) (gens : List GenState), S.shape ((code, pos) :: W) = true →
      chk (tR p w K W n ops (mkT ini) N sz gens tok [] (tD S.code) S.code pos' [.ret k none g l code pos kp] [] []) (mids N) =
      chk' (tR p w K W n ops (mkT ini) N sz gens tok [] (tD S.code) S.code pos' [.ret k none g l code pos kp] [] [])
        (X, S.code, [.ret k none g l code pos kp], sz, tok, gens, ini.map some))
    (H : ∀ s : Shared, (∀ q ∈ S.pre, s.heap.get? q.2.1 = some q.2.2) → s.heap.objs.size = sz → s.toks = tok → ∃ h' : Heap,
      (∀ A : Around, A.handled = none → wpAny (model p w) A X (fun fin s' => ∃ f, fin = .done f ∧ S.res = .ok f ∧ s' = { s with heap := h', toks := tok + S.dtok }) (fun e s' => S.res = .error e ∧ s' = { s with heap := h', toks := tok + S.dtok }) s) ∧
      h'.objs.size = S.dsz.getD 0 + sz + S.dl ∧ (∀ q ∈ S.post, h'.get? q.2.1 = some q.2.2) ∧ (∀ q ∈ S.new, h'.get? (sz + q.1) = some q.2) ∧
      ∀ b o, s.heap.get? b = some o → (∀ q ∈ S.post, q.2.1 ≠ b) → h'.get? b = some o) : S.Valid (mdl p w) K sz tok := by
  intro s k g l code pos pos' kp st hK hpre hpo hne1 hne' hs ht hb hsh
  obtain ⟨h, ⟨gens⟩, d, toks, os⟩ := s
  replace ht : toks = tok := ht
  subst ht hini hN
  obtain ⟨out, h1, e1, C, c1, c2, c3, c4⟩ := go (d := d) (os := os) (bot := st) rfl hb hK hK' (fun q hq => by
      obtain ⟨x, hx, rfl⟩ := List.mem_map.mp hq
      exact hpre x hx) nd (fun x hx => absurd hx (List.not_mem_nil)) hs rfl hi ok (e k g l code pos pos' kp (st.map Frame.where_) gens hsh)
  simp only [mids, Prod.mk.injEq] at e1
  obtain ⟨e1, e2, e3, e4, e5, e6, e7⟩ := e1
  rw [tD_eq] at C
  rw [e1, e2, e3, e5, e6] at C
  have hini : ∀ q ∈ S.pre, h1.get? q.2.1 = some q.2.2 := fun q hq => by
    have : some q.2 ∈ (S.pre.map (·.2)).map some := List.mem_map.mpr ⟨q.2, List.mem_map.mpr ⟨q, hq, rfl⟩, rfl⟩
    rw [← e7] at this
    obtain ⟨i, _, hi⟩ := List.mem_map.mp this
    exact c2 i q.2.1 q.2.2 hi
  have keep : ∀ b o, h.get? b = some o → h1.get? b = some o := fun b o hb' => by
    by_cases hm : b ∈ (S.pre.map (·.2)).map (·.1)
    · obtain ⟨x, hx, rfl⟩ := List.mem_map.mp hm
      obtain ⟨q, hq, rfl⟩ := List.mem_map.mp hx
      have := hpre q hq
      rw [show (Shared.heap ⟨h, ⟨gens⟩, d, toks, os⟩).get? q.2.1 = h.get? q.2.1 from rfl, hb'] at this
      cases this
      exact hini q hq
    · exact c4 b o hb' hm
  obtain ⟨h', w1, w2, w3, w4, w5⟩ := H ⟨h1, ⟨gens⟩, d, toks, os⟩ hini (c1.trans e4) rfl
  have C2 := comes_tree (c := S.code) (code := code) (k := k) (g := g) (l := l) (kp := kp) (pos := pos) (pos' := out.pos) hb w1
  refine ⟨h', ?_, w2, w3, w4, (by rw [hfa]; exact fun _ z => nomatch z), fun b o hb' hn => w5 b o (keep b o hb') hn⟩
  rw [hg]
  have C3 := C.trans C2
  simpa using C3

/-- a summary of a built-in's own code, from the library's rules -/
theorem Summ.ofAny {p : Program} {w : World} {K : Nat → Option Obj} {S : Summ} {sz tok : Nat} (hg : S.newg = []) (hfa : S.facts = [])
    (H : ∀ s : Shared, (∀ q ∈ S.pre, s.heap.get? q.2.1 = some q.2.2) → s.heap.objs.size = sz → s.toks = tok → ∃ h' : Heap,
      (∀ A : Around, A.handled = none → wpAny (model p w) A (denote table S.code) (fun fin s' => ∃ f, fin = .done f ∧ S.res = .ok f ∧ s' = { s with heap := h', toks := tok + S.dtok }) (fun e s' => S.res = .error e ∧ s' = { s with heap := h', toks := tok + S.dtok }) s) ∧
      h'.objs.size = S.dsz.getD 0 + sz + S.dl ∧ (∀ q ∈ S.post, h'.get? q.2.1 = some q.2.2) ∧ (∀ q ∈ S.new, h'.get? (sz + q.1) = some q.2) ∧
      ∀ b o, s.heap.get? b = some o → (∀ q ∈ S.post, q.2.1 ≠ b) → h'.get? b = some o) : S.Valid (mdl p w) K sz tok := by
  intro s k g l code pos pos' kp st hK hpre hpo hne hne' hs ht hb hsh
  obtain ⟨h', h1, h2, h3, h4, h5⟩ := H s hpre hs ht
  refine ⟨h', ?_, h2, h3, h4, (by rw [hfa]; exact fun _ z => nomatch z), h5⟩
  have := comes_any (code := code) (k := k) (g := g) (l := l) (kp := kp) (pos := pos) (pos' := pos') hb h1
  rw [hg]
  simpa using this

noncomputable def liObj (l n : Nat) : Obj := ⟨.type "list_iterator", none, .fields ⟨[.ref l, .int (n : Int) 0]⟩, #[]⟩
noncomputable def liEnd : Obj → Obj
  | ⟨c, d, .fields ⟨_ :: r⟩, s⟩ => ⟨c, d, .fields ⟨.none :: r⟩, s⟩
  | o => o
noncomputable def lsObj (xs : List Value) (ep : Nat) : Obj := ⟨.type "list", none, .seq ⟨xs⟩ ep, #[]⟩
noncomputable def tupObj (xs : List Value) : Obj := ⟨.type "tuple", none, .seq ⟨xs⟩ 0, #[]⟩
noncomputable def stopObj (t : Nat) : Obj := ⟨.type "StopIteration", none, .fields ⟨[.ref t, .none, .none, .none, .bool false, .none]⟩, #[]⟩
noncomputable def cNext (id : String) (it : Nat) : Code := .builtin id ⟨[.ref it], []⟩

/-- the next of a list's iterator: an item -/
noncomputable def sLiNext (i j it l n : Nat) (xs : List Value) (ep : Nat) (v : Value) : Summ :=
  { code := cNext "list_iterator.__next__" it, res := .ok (.ret v), pre := [(i, it, liObj l n), (j, l, lsObj xs ep)], post := [(i, it, liObj l (n + 1))] }
/-- the next of a list's iterator: the end -/
noncomputable def sLiEnd (i j it l n : Nat) (xs : List Value) (ep sz : Nat) : Summ :=
  { code := cNext "list_iterator.__next__" it, res := .error (.ref (sz + 1)), pre := [(i, it, liObj l n), (j, l, lsObj xs ep)], post := [(i, it, liEnd (liObj l n))], new := [(0, tupObj []), (1, stopObj sz)], dl := 2 }

variable {p : Program} {w : World} {K : Nat → Option Obj}
theorem any_builtin {A : Around} {id : String} {args : Args} {b : Builtin} {Q : PySem.Fin → Shared → Prop} {E : Value → Shared → Prop} {s : Shared} (hb : entryFor table id = some b)
    (h : wpAny (model p w) A (b args) Q E s) : wpAny (model p w) A (denote table (.builtin id args)) Q E s := by
  show wpAny _ _ (match entryFor table id with | some b => b args | none => unsupported ((withoutEnding? id "#data").getD id)) _ _ s
  rw [hb]; exact h
theorem sLiNext_ok {i j it l n : Nat} {xs : List Value} {ep : Nat} {v : Value} (hv : xs[n]? = some v) (sz tok : Nat) : (sLiNext i j it l n xs ep v).Valid (mdl p w) K sz tok := by
  refine Summ.ofAny rfl rfl fun s hpre hs ht => ?_
  have h1 : s.heap.get? it = some (liObj l n) := hpre (i, it, liObj l n) (by simp [sLiNext])
  have h2 : s.heap.get? l = some (lsObj xs ep) := hpre (j, l, lsObj xs ep) (by simp [sLiNext])
  have hu := Heap.get?_update_self (Obj.mapFields (·.setIfInBounds 1 (rawInt (n + 1)))) h1 rfl
  have hsb : Heap.SameBut it s.heap (s.heap.update it (Obj.mapFields (·.setIfInBounds 1 (rawInt (n + 1))))) := Heap.SameBut.update ..
  refine ⟨s.heap.update it (Obj.mapFields (·.setIfInBounds 1 (rawInt (n + 1)))), fun A hA => ?_, ?_, ?_, fun q hq => (nomatch hq), fun b o hb hn => ?_⟩
  · refine any_builtin entry_listiter_next ?_
    show wpAny _ _ (field (.ref it) 0 >>= _) _ _ s
    refine wpAny_bind (wpAny_field h1 rfl (x := .ref l) rfl ?_)
    show wpAny _ _ (if (Value.ref l == Value.none) = true then _ else _) _ _ s
    rw [if_neg (show ¬ ((Value.ref l == Value.none) = true) from Bool.false_ne_true)]
    show wpAny _ _ (field (.ref it) 1 >>= _) _ _ s
    refine wpAny_bind (wpAny_field h1 rfl (x := .int n 0) rfl ?_)
    show wpAny _ _ (seqItems? (.ref l) >>= _) _ _ s
    refine wpAny_bind (wpAny_seqItems h2 rfl ?_)
    have hx : (⟨xs⟩ : Array Value)[n]? = some v := by simpa using hv
    simp only [Int.toNat_natCast, hx]
    refine wpAny_bind (wpAny_setField h1 rfl (by simp) (wpAny_pure ⟨_, rfl, rfl, ?_⟩))
    subst ht
    rfl
  · rw [hsb.1, hs]; exact (Nat.zero_add _).symm
  · intro q hq
    simp only [sLiNext, List.mem_singleton] at hq
    subst hq
    exact hu
  · exact (hsb.2 b fun z => hn (i, it, liObj l (n + 1)) (by simp [sLiNext]) z.symm).trans hb
theorem sLiEnd_ok {i j it l n : Nat} {xs : List Value} {ep : Nat} (hv : xs[n]? = none) (sz tok : Nat) : (sLiEnd i j it l n xs ep sz).Valid (mdl p w) K sz tok := by
  refine Summ.ofAny rfl rfl fun s hpre hs ht => ?_
  have h1 : s.heap.get? it = some (liObj l n) := hpre (i, it, liObj l n) (by simp [sLiEnd])
  have h2 : s.heap.get? l = some (lsObj xs ep) := hpre (j, l, lsObj xs ep) (by simp [sLiEnd])
  have hu := Heap.get?_update_self (Obj.mapFields (·.setIfInBounds 0 .none)) h1 rfl
  have hsb : Heap.SameBut it s.heap (s.heap.update it (Obj.mapFields (·.setIfInBounds 0 .none))) := Heap.SameBut.update ..
  have hz : (s.heap.update it (Obj.mapFields (·.setIfInBounds 0 .none))).objs.size = sz := hsb.1.trans hs
  refine ⟨((s.heap.update it (Obj.mapFields (·.setIfInBounds 0 .none))).push (tupObj [])).push (stopObj sz), fun A hA => ?_, ?_, ?_, ?_, fun b o hb hn => ?_⟩
  · refine any_builtin entry_listiter_next ?_
    show wpAny _ _ (field (.ref it) 0 >>= _) _ _ s
    refine wpAny_bind (wpAny_field h1 rfl (x := .ref l) rfl ?_)
    show wpAny _ _ (if (Value.ref l == Value.none) = true then _ else _) _ _ s
    rw [if_neg (show ¬ ((Value.ref l == Value.none) = true) from Bool.false_ne_true)]
    show wpAny _ _ (field (.ref it) 1 >>= _) _ _ s
    refine wpAny_bind (wpAny_field h1 rfl (x := .int n 0) rfl ?_)
    show wpAny _ _ (seqItems? (.ref l) >>= _) _ _ s
    refine wpAny_bind (wpAny_seqItems h2 rfl ?_)
    have hx : (⟨xs⟩ : Array Value)[n]? = none := by simpa using hv
    simp only [Int.toNat_natCast, hx]
    refine wpAny_bind (wpAny_rule (wpAny_bind (wpAny_setField h1 rfl (by simp) ?_)))
    show wpAny _ _ (newExc (.type "StopIteration") [] >>= _) _ _ _
    refine wpAny_bind ?_
    simp only [newExc, newTuple]
    refine wpAny_bind (wpAny_newObj_type ?_ (by size_fits))
    refine wpAny_bind (m := firstArgMember _ _) (wpAny_of_eq (a := Value.none) (by first | rfl | (simp only [firstArgMember]; rfl)) ?_)
    refine wpAny_newObj_type ?_ (by size_fits)
    simp only [raiseNew]
    refine wpAny_bind (wpAny_handled ?_)
    rw [hA]
    refine wpAny_bind (wpAny_pure (wpAny_throw ?_))
    subst ht
    refine ⟨?_, ?_⟩
    · show Except.error (Value.ref (sz + 1)) = Except.error (Value.ref _)
      rw [Heap.size_push, hz]
    · rw [hz]; rfl
  · rw [Heap.size_push, Heap.size_push, hz]; show _ = 0 + sz + 2; omega
  · intro q hq
    simp only [sLiEnd, List.mem_singleton] at hq
    subst hq
    exact Heap.get?_push_of_some _ (Heap.get?_push_of_some _ hu)
  · intro q hq
    simp only [sLiEnd, List.mem_cons, List.not_mem_nil, or_false] at hq
    rcases hq with rfl | rfl
    · refine Heap.get?_push_of_some _ ?_
      rw [Nat.add_zero, ← hz]
      exact Heap.get?_push_size _ rfl
    · have : sz + 1 = ((s.heap.update it (Obj.mapFields (·.setIfInBounds 0 .none))).push (tupObj [])).objs.size := by rw [Heap.size_push, hz]
      show Heap.get? _ (sz + 1) = _
      rw [this]
      exact Heap.get?_push_size _ rfl
  · exact Heap.get?_push_of_some _ (Heap.get?_push_of_some _ ((hsb.2 b fun z => hn (i, it, liEnd (liObj l n)) (by simp [sLiEnd]) z.symm).trans hb))
end Mine
namespace Mine
open PySem PySem.W

/-- an entry: key and value, each with its token -/
structure E where
  k : Int
  t : Nat
  v : Int
  u : Nat
noncomputable def ent (e : E) : DictEntry := ⟨hashInt e.k, .int e.k e.t, .int e.v e.u⟩
noncomputable def dObj (cls : Value) (dd : Option Nat) (es : List E) (ep : Nat) : Obj := ⟨cls, dd, .dict ⟨es.map ent⟩ ep, #[]⟩
noncomputable def esFind : List E → Int → Option E
  | [], _ => none
  | e :: r, x => if e.k = x then some e else esFind r x
noncomputable def esSet : List E → Int → Nat → Int → Nat → List E
  | [], x, t, y, u => [⟨x, t, y, u⟩]
  | e :: r, x, t, y, u => if e.k = x then ⟨e.k, e.t, y, u⟩ :: r else e :: esSet r x t y u
noncomputable def esDel : List E → Int → List E
  | [], _ => []
  | e :: r, x => if e.k = x then r else e :: esDel r x
noncomputable def esVal (es : List E) (x : Int) : Option Value := (esFind es x).map fun e => .int e.v e.u

theorem intKeys (es : List E) : IntKeys ⟨es.map ent⟩ := by
  intro e he
  obtain ⟨x, _, rfl⟩ := List.mem_map.mp (by simpa using he)
  exact ⟨x.k, x.t, rfl, rfl⟩
theorem idx_eq (es : List E) (x : Int) : ((⟨es.map ent⟩ : Array DictEntry).findIdx? fun e => Value.isInt x e.key) = es.findIdx? fun e => decide (e.k = x) := by
  have : ∀ e : E, Value.isInt x (ent e).key = decide (e.k = x) := fun e => by
    show (e.k == x) = decide (e.k = x)
    by_cases h : e.k = x <;> simp [h]
  simp only [List.findIdx?_toArray, List.findIdx?_map]
  congr 1
theorem idx_none {es : List E} {x : Int} : (es.findIdx? fun e => decide (e.k = x)) = none ↔ esFind es x = none := by
  induction es with
  | nil => simp [esFind]
  | cons e r ih =>
    rw [List.findIdx?_cons]
    unfold esFind
    by_cases h : e.k = x
    · simp [h]
    · simp only [h, decide_false, if_false]
      rw [← ih]
      simp
theorem idx_some {es : List E} {x : Int} {i : Nat} (h : (es.findIdx? fun e => decide (e.k = x)) = some i) : es[i]? = esFind es x ∧ (esFind es x).isSome = true := by
  induction es generalizing i with
  | nil => simp at h
  | cons e r ih =>
    rw [List.findIdx?_cons] at h
    unfold esFind
    by_cases hk : e.k = x
    · simp [hk] at h
      subst h
      simp [hk]
    · simp only [hk, decide_false, if_false] at h
      obtain ⟨j, hj, rfl⟩ := Option.map_eq_some_iff.mp h
      simpa [hk] using ih hj
theorem set_some {es : List E} {x : Int} {i : Nat} (h : (es.findIdx? fun e => decide (e.k = x)) = some i) (t : Nat) (y : Int) (u : Nat) :
    (⟨es.map ent⟩ : Array DictEntry).modify i (fun e => { e with val := .int y u }) = ⟨(esSet es x t y u).map ent⟩ := by
  have key : (es.map ent).modify i (fun e => { e with val := .int y u }) = (esSet es x t y u).map ent := by
    induction es generalizing i with
    | nil => simp at h
    | cons e r ih =>
      rw [List.findIdx?_cons] at h
      unfold esSet
      by_cases hk : e.k = x
      · simp [hk] at h
        subst h
        simp [hk, ent]
      · simp only [hk, decide_false, if_false] at h
        obtain ⟨j, hj, rfl⟩ := Option.map_eq_some_iff.mp h
        simp only [List.map_cons, hk, if_false, List.modify_succ_cons]
        rw [ih hj]
  simp [key]
theorem set_none {es : List E} {x : Int} (h : esFind es x = none) (t : Nat) (y : Int) (u : Nat) :
    (⟨es.map ent⟩ : Array DictEntry).push ⟨hashInt x, .int x t, .int y u⟩ = ⟨(esSet es x t y u).map ent⟩ := by
  have key : es.map ent ++ [⟨hashInt x, .int x t, .int y u⟩] = (esSet es x t y u).map ent := by
    induction es with
    | nil => rfl
    | cons e r ih =>
      unfold esFind at h
      unfold esSet
      by_cases hk : e.k = x
      · simp [hk] at h
      · simp only [hk, if_false] at h ⊢
        simp only [List.map_cons, List.cons_append]
        rw [ih h]
  simp [key]
theorem del_some {es : List E} {x : Int} {i : Nat} (h : (es.findIdx? fun e => decide (e.k = x)) = some i) :
    (⟨es.map ent⟩ : Array DictEntry).eraseIdxIfInBounds i = ⟨(esDel es x).map ent⟩ := by
  have key : (es.map ent).eraseIdx i = (esDel es x).map ent := by
    induction es generalizing i with
    | nil => simp at h
    | cons e r ih =>
      rw [List.findIdx?_cons] at h
      unfold esDel
      by_cases hk : e.k = x
      · simp [hk] at h
        subst h
        simp [hk]
      · simp only [hk, decide_false, if_false] at h
        obtain ⟨j, hj, rfl⟩ := Option.map_eq_some_iff.mp h
        simp only [List.map_cons, hk, if_false, List.eraseIdx_cons_succ]
        rw [ih hj]
  simp [key]

/-- the turn of a dict's object when an entry is set -/
noncomputable def setF (es : List E) (x : Int) (t : Nat) (y : Int) (u : Nat) : Obj → Obj := match es.findIdx? fun e => decide (e.k = x) with
  | some i => Obj.mapDict (·.modify i fun e => { e with val := .int y u })
  | none => Obj.mapDictKeys (·.push ⟨hashInt x, .int x t, .int y u⟩)
theorem setF_eq (cls : Value) (dd : Option Nat) (es : List E) (ep : Nat) (x : Int) (t : Nat) (y : Int) (u : Nat) :
    setF es x t y u (dObj cls dd es ep) = dObj cls dd (esSet es x t y u) (match esFind es x with | some _ => ep | none => ep + 1) := by
  unfold setF
  cases hi : es.findIdx? fun e => decide (e.k = x) with
  | some i =>
    obtain ⟨_, h2⟩ := idx_some hi
    obtain ⟨e, he⟩ := Option.isSome_iff_exists.mp h2
    rw [he]
    show Obj.mk _ _ (.dict ((⟨es.map ent⟩ : Array DictEntry).modify i _) ep) _ = Obj.mk _ _ _ _
    rw [set_some hi t y u]
  | none =>
    rw [idx_none.mp hi]
    show Obj.mk _ _ (.dict ((⟨es.map ent⟩ : Array DictEntry).push _) (ep + 1)) _ = Obj.mk _ _ _ _
    rw [set_none (idx_none.mp hi) t y u]

section
variable {p : Program} {w : World} {A : Around} {EE : Value → Shared → Prop} {s : Shared}
theorem any_dictGet {d : Nat} {cls : Value} {dd : Option Nat} {es : List E} {ep : Nat} {x : Int} {t : Nat} {Q : Option Value → Shared → Prop} (ho : s.heap.get? d = some (dObj cls dd es ep))
    (h : Q (esVal es x) { s with toks := s.toks + 1 }) : wpAny (model p w) A (dictGet d (.int x t)) Q EE s := by
  unfold dictGet
  try with_reducible refine wpAny_holding ?_
  refine wpAny_bind (wpAny_pyHash_int (wpAny_bind (wpAny_dictFind_int (s := { s with toks := s.toks + 1 }) ho rfl (intKeys es) ?_)))
  rw [idx_eq]
  cases hi : es.findIdx? fun e => decide (e.k = x) with
  | none =>
    rw [show esVal es x = none by unfold esVal; rw [idx_none.mp hi]; rfl] at h
    exact wpAny_pure h
  | some i =>
    refine wpAny_bind (wpAny_dictEntries (s := { s with toks := s.toks + 1 }) ho rfl (wpAny_pure ?_))
    obtain ⟨h1, _⟩ := idx_some hi
    have : ((⟨es.map ent⟩ : Array DictEntry)[i]?).map (·.val) = esVal es x := by
      simp only [List.getElem?_toArray, List.getElem?_map, h1, esVal, Option.map_map]
      rfl
    rw [this]
    exact h
theorem any_dictSet {d : Nat} {cls : Value} {dd : Option Nat} {es : List E} {ep : Nat} {x : Int} {t : Nat} {y : Int} {u : Nat} {Q : Unit → Shared → Prop} (ho : s.heap.get? d = some (dObj cls dd es ep)) (hz : es.length ≤ sizeLine)
    (h : Q () { s with heap := s.heap.update d (setF es x t y u), toks := s.toks + 1 }) :
    wpAny (model p w) A (dictSet d (.int x t) (.int y u)) Q EE s := by
  unfold dictSet
  try with_reducible refine wpAny_holding ?_
  refine wpAny_bind (wpAny_pyHash_int ?_)
  unfold dictSetHashed
  try with_reducible refine wpAny_holding ?_
  refine wpAny_bind (wpAny_dictFind_int (s := { s with toks := s.toks + 1 }) ho rfl (intKeys es) ?_)
  rw [idx_eq]
  unfold setF at h
  cases hi : es.findIdx? fun e => decide (e.k = x) with
  | some i =>
    rw [hi] at h
    exact wpAny_bind (wpAny_rule (wpAny_bind (wpAny_updateDict (s := { s with toks := s.toks + 1 }) ho rfl (wpAny_point h))))
  | none =>
    rw [hi] at h
    exact wpAny_bind (wpAny_rule (wpAny_updateDictKeys (hz := by simpa using hz) (s := { s with toks := s.toks + 1 }) ho rfl h))

theorem any_dictSetHashed {d : Nat} {cls : Value} {dd : Option Nat} {es : List E} {ep : Nat} {x : Int} {t : Nat} {y : Int} {u : Nat} {Q : Unit → Shared → Prop} (ho : s.heap.get? d = some (dObj cls dd es ep)) (hz : es.length ≤ sizeLine)
    (h : Q () { s with heap := s.heap.update d (setF es x t y u) }) :
    wpAny (model p w) A (dictSetHashed d (.int x t) (hashInt x) (.int y u)) Q EE s := by
  unfold dictSetHashed
  try with_reducible refine wpAny_holding ?_
  refine wpAny_bind (wpAny_dictFind_int ho rfl (intKeys es) ?_)
  rw [idx_eq]
  unfold setF at h
  cases hi : es.findIdx? fun e => decide (e.k = x) with
  | some i =>
    rw [hi] at h
    exact wpAny_bind (wpAny_rule (wpAny_bind (wpAny_updateDict ho rfl (wpAny_point h))))
  | none =>
    rw [hi] at h
    exact wpAny_bind (wpAny_rule (wpAny_updateDictKeys (hz := by simpa using hz) ho rfl h))

/-- the heap after entries have been put one by one -/
noncomputable def cpH (d : Nat) : Heap → List E → List E → Heap
  | h, _, [] => h
  | h, pre, e :: r => cpH d (h.update d (setF pre e.k e.t e.v e.u)) (pre ++ [e]) r
theorem esFind_none {es : List E} {x : Int} (h : x ∉ es.map (·.k)) : esFind es x = none := by
  induction es with
  | nil => rfl
  | cons e r ih =>
    rw [List.map_cons, List.mem_cons, not_or] at h
    unfold esFind
    rw [if_neg (fun z => h.1 z.symm)]
    exact ih h.2
theorem esSet_new {es : List E} {x : Int} (h : esFind es x = none) (t : Nat) (y : Int) (u : Nat) : esSet es x t y u = es ++ [⟨x, t, y, u⟩] := by
  induction es with
  | nil => rfl
  | cons e r ih =>
    unfold esFind at h
    unfold esSet
    by_cases hk : e.k = x
    · rw [if_pos hk] at h; cases h
    · rw [if_neg hk] at h
      rw [if_neg hk, ih h]; rfl
theorem cpH_get {d : Nat} {cls : Value} {dd : Option Nat} : ∀ (r pre : List E) (h : Heap) (ep : Nat), h.get? d = some (dObj cls dd pre ep) → ((pre ++ r).map (·.k)).Nodup →
    (cpH d h pre r).get? d = some (dObj cls dd (pre ++ r) (ep + r.length)) ∧ Heap.SameBut d h (cpH d h pre r)
  | [], pre, h, ep, hg, _ => by rw [List.append_nil]; exact ⟨hg, Heap.SameBut.refl _ _⟩
  | e :: r, pre, h, ep, hg, nd => by
    have hf : esFind pre e.k = none := esFind_none fun z => by
      rw [List.map_append, List.nodup_append] at nd
      exact nd.2.2 _ z e.k (by simp) rfl
    have hsb : Heap.SameBut d h (h.update d (setF pre e.k e.t e.v e.u)) := Heap.SameBut.update ..
    have h1 : (h.update d (setF pre e.k e.t e.v e.u)).get? d = some (dObj cls dd (pre ++ [e]) (ep + 1)) := by
      rw [Heap.get?_update_self _ hg (by rw [setF_eq]; rfl), setF_eq, hf, esSet_new hf]
    obtain ⟨a, b⟩ := cpH_get r (pre ++ [e]) _ (ep + 1) h1 (by simpa using nd)
    refine ⟨?_, Heap.SameBut.trans hsb b⟩
    rw [List.append_assoc] at a
    rw [show ep + (e :: r).length = ep + 1 + r.length by simp; omega]
    exact a

theorem any_mergeDict {nm : String} {d o : Nat} {cls cls' : Value} {dd dd' : Option Nat} {es : List E} {ep : Nat} {Q : Unit → Shared → Prop} (hne : d ≠ o) (hoS : (o == sysModules) = false) (hd : s.heap.get? d = some (dObj cls dd [] 0))
    (ho : s.heap.get? o = some (dObj cls' dd' es ep)) (hz : es.length ≤ 8) (h8 : 8 ≤ sizeLine) (nd : (es.map (·.k)).Nodup) (h : Q () { s with heap := cpH d s.heap [] es }) :
    wpAny (model p w) A (Builtin.Dict.mergeDict nm d o) Q EE s := by
  unfold Builtin.Dict.mergeDict
  rw [if_neg (by simpa using hne)]
  unfold Builtin.Dict.showsAll
  rw [if_neg (by rw [hoS]; exact Bool.false_ne_true)]
  refine wpAny_bind (wpAny_pure ?_)
  refine wpAny_bind (wpAny_dictEntries ho rfl ?_)
  have hfew : ((decide ((⟨es.map ent⟩ : Array DictEntry).size ≤ 8)) && (⟨es.map ent⟩ : Array DictEntry).all fun e => (keyPart e.key).isSome) = true := by
    rw [Bool.and_eq_true]
    refine ⟨by simpa using hz, ?_⟩
    rw [Array.all_eq_true']
    intro e he
    obtain ⟨x, _, rfl⟩ := List.mem_map.mp (by simpa using he)
    rfl
  dsimp only
  rw [hfew]
  have hlen : (⟨es.map ent⟩ : Array DictEntry).size = es.length := by simp
  rw [if_neg (by decide)]
  refine wpAny_bind (wpAny_dictEpoch ho rfl ?_)
  refine wpAny_bind (wpAny_dictEntries ho rfl ?_)
  refine wpAny_bind ?_
  rw [Std.Legacy.Range.forIn_eq_forIn_range']
  simp only [Std.Legacy.Range.size, Nat.sub_zero, Nat.add_sub_cancel, Nat.div_one]
  rw [hlen]
  refine wpAny_forIn_list _ (fun rest _ s' => ∃ pre r, es = pre ++ r ∧ rest = List.range' pre.length r.length ∧ s' = { s with heap := s'.heap } ∧ s'.heap.get? d = some (dObj cls dd pre pre.length) ∧ Heap.SameBut d s.heap s'.heap ∧ cpH d s'.heap pre r = cpH d s.heap [] es)
    _ ?_ ?_ _ _ ⟨[], es, rfl, by simp, rfl, hd, Heap.SameBut.refl _ _, rfl⟩
  · rintro x rest b s' ⟨pre, r, he, hr, hs', hg, hsb, hc⟩
    cases r with
    | nil => simp at hr
    | cons e r =>
      rw [List.length_cons, List.range'_succ] at hr
      injection hr with hx hrest
      subst hx
      have ho' : s'.heap.get? o = some (dObj cls' dd' es ep) := (hsb.2 o (Ne.symm hne)).trans ho
      refine wpAny_bind (wpAny_dictEntries ho' rfl ?_)
      have hge : (⟨es.map ent⟩ : Array DictEntry)[pre.length]? = some (ent e) := by
        simp [he]
      rw [hge]
      have hf : esFind pre e.k = none := esFind_none fun z => by
        rw [he, List.map_append, List.nodup_append] at nd
        exact nd.2.2 _ z e.k (by simp) rfl
      have hpl : pre.length ≤ sizeLine := by
        have : pre.length ≤ es.length := by rw [he]; simp
        omega
      show wpAny _ _ (holding [.int e.k e.t, .int e.v e.u] (dictSetHashed d (.int e.k e.t) (hashInt e.k) (.int e.v e.u)) >>= _) _ _ _
      refine wpAny_bind (wpAny_holding (any_dictSetHashed hg hpl ?_))
      have hsb2 : Heap.SameBut d s'.heap (s'.heap.update d (setF pre e.k e.t e.v e.u)) := Heap.SameBut.update ..
      refine wpAny_bind (wpAny_dictEpoch (o := dObj cls' dd' es ep) (by exact (hsb2.2 o (Ne.symm hne)).trans ho') rfl ?_)
      rw [if_neg (by simp)]
      refine wpAny_pure ⟨pre ++ [e], r, by rw [he]; simp, by rw [hrest]; simp, ?_, ?_, Heap.SameBut.trans hsb hsb2, hc⟩
      · rw [hs']
      · show (s'.heap.update d (setF pre e.k e.t e.v e.u)).get? d = _
        rw [Heap.get?_update_self _ hg (by rw [setF_eq]; rfl), setF_eq, hf, esSet_new hf]
        simp
  · rintro b s' ⟨pre, r, he, hr, hs', hg, hsb, hc⟩
    have : r = [] := by
      cases r with
      | nil => rfl
      | cons e r => simp [List.range'_succ] at hr
    subst this
    refine wpAny_pure ?_
    rw [hs']
    rw [show s'.heap = cpH d s.heap [] es from hc]
    exact h
end
end Mine
namespace Mine
open PySem PySem.W

/-- the number of entries, as the machine counts them -/
noncomputable def eln (es : List E) : Nat := (es.map ent).length
noncomputable def fset (i : Nat) (v : Value) : Obj → Obj := Obj.mapFields (·.setIfInBounds i v)
noncomputable def iiObj (f0 f1 : Value) (d i n ep : Nat) (ok ov : Value) : Obj := ⟨.type "dict_itemiterator", none, .fields ⟨[f0, f1, .ref d, .int (i : Int) 0, .int (n : Int) 0, .int (ep : Int) 0, ok, ov]⟩, #[]⟩
noncomputable def iiEnd : Obj → Obj
  | ⟨c, d, .fields ⟨a :: b :: _ :: r⟩, s⟩ => ⟨c, d, .fields ⟨a :: b :: .none :: r⟩, s⟩
  | o => o
noncomputable def kv (e : E) : List Value := [.int e.k e.t, .int e.v e.u]

/-- the heap after an item's tuple has been handed out by its owner -/
noncomputable def iiH (h : Heap) (it n : Nat) (e : E) : Heap :=
  ((((((h.update it (fset 3 (rawInt ((n : Int) + 1)))).push (tupObj (kv e))).update it (fset 6 (.int e.k e.t))).update it (fset 7 (.int e.v e.u))).update it (fset 0 (rawInt h.objs.size))).update it (fset 1 (.bool false)))
/-- the heap after an item's tuple has been made, the owner's own one being held -/
noncomputable def iiG (h : Heap) (it n : Nat) (e : E) : Heap := ((h.update it (fset 3 (rawInt ((n : Int) + 1)))).push (tupObj (kv e))).update it (fset 1 (.bool true))
noncomputable def iiG' (h : Heap) (it n : Nat) (e : E) : Heap := (h.update it (fset 3 (rawInt ((n : Int) + 1)))).push (tupObj (kv e))

section
variable {p : Program} {w : World} {A : Around} {EE : Value → Shared → Prop} {s : Shared} {Q : PySem.Fin → Shared → Prop}

theorem get_upd {h : Heap} {a : Nat} {o o' : Obj} (f : Obj → Obj) (ho : h.get? a = some o) (hf : f o = o') (hn : o'.isFreed = false) : (h.update a f).get? a = some o' := by
  rw [Heap.get?_update_self f ho (by rw [hf]; exact hn), hf]

theorem any_iiPre {it d n ep : Nat} {f0 f1 ok ov cls : Value} {dd : Option Nat} {es : List E} {e : E} (hit : s.heap.get? it = some (iiObj f0 f1 d n (eln es) ep ok ov)) (hd : s.heap.get? d = some (dObj cls dd es ep)) (he : es[n]? = some e)
    (h : wpAny (model p w) A (Builtin.Dict_items.pairFromOwner (.ref it) 6 (.int e.k e.t) (.int e.v e.u)) (fun v s' => Q (Fin.done (.ret v)) s') EE { s with heap := s.heap.update it (fset 3 (rawInt ((n : Int) + 1))) }) :
    wpAny (model p w) A (Builtin.«dict_itemiterator.__next__» ⟨[.ref it], []⟩) Q EE s := by
  have hT : s.TypeIs (.ref it) "dict_itemiterator" := ⟨_, hit, rfl⟩
  refine wpAny_bind (wpAny_pure ?_)
  refine wpAny_bind ?_
  refine wpAny_bind ?_
  first | refine wpAny_bind (wpAny_typeNameOfWhole_itemiter hT (wpAny_pure ?_)) | refine wpAny_bind (wpAny_typeNameOf_itemiter hT (wpAny_pure ?_))
  refine wpAny_bind (wpAny_fieldsOf hit rfl ?_)
  have hown : Builtin.Dict_items.ownsTuple "dict_itemiterator" = true := by decide
  simp only [hown, if_true]
  show wpAny _ _ (if (Value.ref d == Value.none) = true then _ else _) _ _ _
  rw [if_neg (show ¬ ((Value.ref d == Value.none) = true) from Bool.false_ne_true)]
  refine wpAny_bind (wpAny_pure ?_)
  refine wpAny_bind (wpAny_dictEntries hd rfl ?_)
  have hsz : (⟨es.map ent⟩ : Array DictEntry).size = eln es := rfl
  rw [if_neg (by rw [hsz]; simp)]
  refine wpAny_bind (wpAny_pure ?_)
  refine wpAny_bind (wpAny_dictEpoch hd rfl ?_)
  rw [if_neg (by simp)]
  refine wpAny_pure ?_
  have hx : (⟨es.map ent⟩ : Array DictEntry)[n]? = some (ent e) := by simp [he]
  simp only [show ¬ ((n : Int) < 0) from by omega, if_false, Int.toNat_natCast, hx]
  refine wpAny_bind ?_
  first | refine wpAny_bind (wpAny_typeNameOfWhole_itemiter hT (wpAny_pure ?_)) | refine wpAny_bind (wpAny_typeNameOf_itemiter hT (wpAny_pure ?_))
  refine wpAny_bind (wpAny_isOneOf_itemiter hT ?_)
  show wpAny _ _ (setField (.ref it) 3 (rawInt ((n : Int) + 1)) >>= _) _ _ s
  refine wpAny_bind (wpAny_setField hit rfl (by simp) ?_)
  have hT₁ : Shared.TypeIs { s with heap := s.heap.update it (fset 3 (rawInt ((n : Int) + 1))) } (.ref it) "dict_itemiterator" := ⟨_, get_upd _ hit rfl rfl, rfl⟩
  refine wpAny_bind (wpAny_holding ?_)
  refine wpAny_bind (wpAny_isOneOf_itemiter hT₁ ?_)
  refine wpAny_bind (wpAny_isOneOf_itemiter hT₁ ?_)
  exact wpAny_mono h (fun _ _ z => wpAny_pure z) (fun _ _ z => z)

theorem any_iiNext {it d n ep : Nat} {ok ov cls : Value} {dd : Option Nat} {es : List E} {e : E} (hit : s.heap.get? it = some (iiObj .none (.bool false) d n (eln es) ep ok ov)) (hd : s.heap.get? d = some (dObj cls dd es ep)) (he : es[n]? = some e)
    (h : Q (Fin.done (.ret (.ref s.heap.objs.size))) { s with heap := iiH s.heap it n e }) : wpAny (model p w) A (Builtin.«dict_itemiterator.__next__» ⟨[.ref it], []⟩) Q EE s := by
  refine any_iiPre hit hd he ?_
  have h1 : (s.heap.update it (fset 3 (rawInt ((n : Int) + 1)))).get? it = some (iiObj .none (.bool false) d (n + 1) (eln es) ep ok ov) := get_upd _ hit rfl rfl
  have z1 : (s.heap.update it (fset 3 (rawInt ((n : Int) + 1)))).objs.size = s.heap.objs.size := (Heap.SameBut.update (a := it) (h := s.heap) (fset 3 (rawInt ((n : Int) + 1)))).1
  have h2 : ((s.heap.update it (fset 3 (rawInt ((n : Int) + 1)))).push (tupObj (kv e))).get? it = some (iiObj .none (.bool false) d (n + 1) (eln es) ep ok ov) := Heap.get?_push_of_some _ h1
  unfold Builtin.Dict_items.pairFromOwner
  refine wpAny_bind (wpAny_newTuple ?_)
  refine wpAny_bind ?_
  unfold Builtin.Dict_items.ownedTupleIsFree
  refine wpAny_bind (wpAny_field (o := iiObj .none (.bool false) d (n + 1) (eln es) ep ok ov) h2 rfl (x := .none) rfl (wpAny_pure ?_))
  simp only [if_true]
  refine wpAny_bind (wpAny_field (o := iiObj .none (.bool false) d (n + 1) (eln es) ep ok ov) h2 rfl (x := ok) rfl ?_)
  refine wpAny_bind (wpAny_field (o := iiObj .none (.bool false) d (n + 1) (eln es) ep ok ov) h2 rfl (x := ov) rfl ?_)
  refine wpAny_bind (wpAny_setField (o := iiObj .none (.bool false) d (n + 1) (eln es) ep ok ov) h2 rfl (by simp) ?_)
  have h3 := get_upd (fset 6 (.int e.k e.t)) h2 (o' := iiObj .none (.bool false) d (n + 1) (eln es) ep (.int e.k e.t) ov) rfl rfl
  refine wpAny_bind (wpAny_setField h3 rfl (by simp) ?_)
  have h4 := get_upd (fset 7 (.int e.v e.u)) h3 (o' := iiObj .none (.bool false) d (n + 1) (eln es) ep (.int e.k e.t) (.int e.v e.u)) rfl rfl
  refine wpAny_bind (wpAny_setField h4 rfl (by simp) ?_)
  have h5 := get_upd (fset 0 (rawInt s.heap.objs.size)) h4 (o' := iiObj (rawInt s.heap.objs.size) (.bool false) d (n + 1) (eln es) ep (.int e.k e.t) (.int e.v e.u)) rfl rfl
  rw [z1]
  refine wpAny_bind (wpAny_setField h5 rfl (by simp) ?_)
  exact wpAny_bind (wpAny_letGo (wpAny_pure h))
theorem upd_other {h : Heap} {a b : Nat} (f : Obj → Obj) (hb : b ≠ a) : (h.update a f).get? b = h.get? b := (Heap.SameBut.update (a := a) (h := h) f).2 b hb
theorem upd_size (h : Heap) (a : Nat) (f : Obj → Obj) : (h.update a f).objs.size = h.objs.size := (Heap.SameBut.update (a := a) (h := h) f).1
theorem iiH_spec {h : Heap} {it d n N ep : Nat} {ok ov : Value} {e : E} (hit : h.get? it = some (iiObj .none (.bool false) d n N ep ok ov)) :
    (iiH h it n e).objs.size = 1 + h.objs.size ∧ (iiH h it n e).get? it = some (iiObj (rawInt h.objs.size) (.bool false) d (n + 1) N ep (.int e.k e.t) (.int e.v e.u)) ∧ (iiH h it n e).get? h.objs.size = some (tupObj (kv e)) ∧
    ∀ b o, h.get? b = some o → b ≠ it → (iiH h it n e).get? b = some o := by
  have hl := Heap.lt_size hit
  have h1 : (h.update it (fset 3 (rawInt ((n : Int) + 1)))).get? it = some (iiObj .none (.bool false) d (n + 1) N ep ok ov) := get_upd _ hit rfl rfl
  have h2 : ((h.update it (fset 3 (rawInt ((n : Int) + 1)))).push (tupObj (kv e))).get? it = some (iiObj .none (.bool false) d (n + 1) N ep ok ov) := Heap.get?_push_of_some _ h1
  have h3 := get_upd (fset 6 (.int e.k e.t)) h2 (o' := iiObj .none (.bool false) d (n + 1) N ep (.int e.k e.t) ov) rfl rfl
  have h4 := get_upd (fset 7 (.int e.v e.u)) h3 (o' := iiObj .none (.bool false) d (n + 1) N ep (.int e.k e.t) (.int e.v e.u)) rfl rfl
  have h5 := get_upd (fset 0 (rawInt h.objs.size)) h4 (o' := iiObj (rawInt h.objs.size) (.bool false) d (n + 1) N ep (.int e.k e.t) (.int e.v e.u)) rfl rfl
  have h6 := get_upd (fset 1 (.bool false)) h5 (o' := iiObj (rawInt h.objs.size) (.bool false) d (n + 1) N ep (.int e.k e.t) (.int e.v e.u)) rfl rfl
  refine ⟨?_, h6, ?_, fun b o hb hn => ?_⟩
  · unfold iiH
    rw [upd_size, upd_size, upd_size, upd_size, Heap.size_push, upd_size]; omega
  · unfold iiH
    rw [upd_other _ (Nat.ne_of_gt hl), upd_other _ (Nat.ne_of_gt hl), upd_other _ (Nat.ne_of_gt hl), upd_other _ (Nat.ne_of_gt hl)]
    rw [show h.objs.size = (h.update it (fset 3 (rawInt ((n : Int) + 1)))).objs.size from (upd_size ..).symm]
    exact Heap.get?_push_size _ rfl
  · unfold iiH
    rw [upd_other _ hn, upd_other _ hn, upd_other _ hn, upd_other _ hn]
    exact Heap.get?_push_of_some _ ((upd_other _ hn).trans hb)

theorem any_iiEnd {it d n ep : Nat} {f0 f1 ok ov cls : Value} {dd : Option Nat} {es : List E} (hh : A.handled = none) (hit : s.heap.get? it = some (iiObj f0 f1 d n (eln es) ep ok ov)) (hd : s.heap.get? d = some (dObj cls dd es ep)) (he : es[n]? = none)
    {EE : Value → Shared → Prop} (h : EE (.ref (s.heap.objs.size + 1)) { s with heap := ((s.heap.update it (fset 2 .none)).push (tupObj [])).push (stopObj s.heap.objs.size) }) : wpAny (model p w) A (Builtin.«dict_itemiterator.__next__» ⟨[.ref it], []⟩) Q EE s := by
  have hT : s.TypeIs (.ref it) "dict_itemiterator" := ⟨_, hit, rfl⟩
  refine wpAny_bind (wpAny_pure ?_)
  refine wpAny_bind ?_
  refine wpAny_bind ?_
  first | refine wpAny_bind (wpAny_typeNameOfWhole_itemiter hT (wpAny_pure ?_)) | refine wpAny_bind (wpAny_typeNameOf_itemiter hT (wpAny_pure ?_))
  refine wpAny_bind (wpAny_fieldsOf hit rfl ?_)
  have hown : Builtin.Dict_items.ownsTuple "dict_itemiterator" = true := by decide
  simp only [hown, if_true]
  show wpAny _ _ (if (Value.ref d == Value.none) = true then _ else _) _ _ _
  rw [if_neg (show ¬ ((Value.ref d == Value.none) = true) from Bool.false_ne_true)]
  refine wpAny_bind (wpAny_pure ?_)
  refine wpAny_bind (wpAny_dictEntries hd rfl ?_)
  have hsz : (⟨es.map ent⟩ : Array DictEntry).size = eln es := rfl
  rw [if_neg (by rw [hsz]; simp)]
  refine wpAny_bind (wpAny_pure ?_)
  refine wpAny_bind (wpAny_dictEpoch hd rfl ?_)
  rw [if_neg (by simp)]
  refine wpAny_pure ?_
  have hx : (⟨es.map ent⟩ : Array DictEntry)[n]? = none := by simpa using he
  simp only [show ¬ ((n : Int) < 0) from by omega, if_false, Int.toNat_natCast, hx]
  refine wpAny_bind ?_
  first | refine wpAny_bind (wpAny_typeNameOfWhole_itemiter hT (wpAny_pure ?_)) | refine wpAny_bind (wpAny_typeNameOf_itemiter hT (wpAny_pure ?_))
  show wpAny _ _ (setField (.ref it) 2 .none >>= _) _ _ s
  refine wpAny_bind (wpAny_setField hit rfl (by simp) ?_)
  show wpAny _ _ (newExc (.type "StopIteration") [] >>= _) _ _ _
  refine wpAny_bind ?_
  simp only [newExc, newTuple]
  refine wpAny_bind (wpAny_newObj_type ?_ (by size_fits))
  refine wpAny_bind (m := firstArgMember _ _) (wpAny_of_eq (a := Value.none) (by first | rfl | (simp only [firstArgMember]; rfl)) ?_)
  refine wpAny_newObj_type ?_ (by size_fits)
  simp only [raiseNew]
  refine wpAny_bind (wpAny_handled ?_)
  rw [hh]
  refine wpAny_bind (wpAny_pure (wpAny_throw ?_))
  have z1 := upd_size s.heap it (fset 2 .none)
  have z2 : ((s.heap.update it (fset 2 .none)).push (tupObj [])).objs.size = s.heap.objs.size + 1 := by rw [Heap.size_push, z1]
  have := h
  rw [← z2] at this
  rw [← z1] at this
  exact this
end

variable {p : Program} {w : World} {K : Nat → Option Obj}

section
variable {A : Around} {EE : Value → Shared → Prop} {s : Shared} {Q : PySem.Fin → Shared → Prop}

end

section
variable {A : Around} {EE : Value → Shared → Prop} {s : Shared} {Q : PySem.Fin → Shared → Prop}

end
end Mine
namespace Mine
open PySem PySem.W

/-- a turn of a for loop, the element drawn -/
noncomputable def forRest (target : Expr) (it : Value) (body orelse : List Stmt) (env : Env) (v : Value) : Sem PySem.Fin := (do
    assign target env v
    match ← execs body env with
    | .next | .cont => again (.forLoop target it body orelse env)
    | .brk => pure (.done .next)
    | .ret v => pure (.done (.ret v))).onRaise (fun x => do noteFrame x env; theTreesLotGoes x)
noncomputable def forMid (target : Expr) (it : Value) (body orelse : List Stmt) (env : Env) (v : Value) : Sem PySem.Fin := (do
    letOwnedTupleGo target it v
    assign target env v
    match ← execs body env with
    | .next | .cont => again (.forLoop target it body orelse env)
    | .brk => pure (.done .next)
    | .ret v => pure (.done (.ret v))).onRaise (fun x => do noteFrame x env; theTreesLotGoes x)
end Mine
lay_quick Mine.forRest
lay_quick Mine.forMid
namespace Mine
open PySem PySem.W


end Mine
namespace Mine
open PySem PySem.W

/-- a summary from the library's rules for the first stretch, and a run for the rest -/
theorem Summ.ofMid {p : Program} {w : World} {K : Nat → Option Obj} {S : Summ} {sz tok : Nat} {α : Type} (m : Sem α) (f : α → Sem Fin) (a : α) (dt0 : Nat) (Y : Sem Fin) (ini fin : List (Nat × Obj)) (newi : List Nat) (n : Nat) (ops : List Op) (N : Nat)
    (hcode : denote table S.code = m.bind f) (hY : Y = f a)
    (hm : ∀ s : Shared, (∀ q ∈ S.pre, s.heap.get? q.2.1 = some q.2.2) → s.toks = tok → ∀ A : Around, A.handled = none → wpAny (model p w) A m (fun x s' => x = a ∧ s' = { s with toks := tok + dt0 }) (fun _ _ => False) s)
    (hini : S.pre.map (·.2) = ini) (hne : S.needs = []) (hN : ini.length = N) (hfin : fin.map (·.1) = ini.map (·.1))
    (hpost : ∀ q ∈ S.post, (q.2.1, q.2.2) ∈ fin) (hsame : ∀ q ∈ fin, q ∈ ini ∨ ∃ r ∈ S.post, r.2.1 = q.1) (nd : (ini.map (·.1)).Nodup) (hK' : ∀ q ∈ ini, K q.1 = none) (hi : iniOk ini .nil 0 = true)
    (hfa : ∀ l ∈ S.facts, ∀ q ∈ l, sz ≤ q.1 ∧ ∀ r ∈ S.new, q.1 ≠ sz + r.1)
    (ok : OpsOk (mdl p w) K ops)
    (e : ∀ (k : Result → Sem Fin) (g : Bool) (l : List Value) (code : Code) (pos pos' : Pos) (kp : List Value) (W : List (Code × Pos)) (gens : List GenState), S.shape ((code, pos) :: W) = true →
      chk (tR p w K W n ops (mkT ini) N sz gens (tok + dt0) [] Y S.code pos' [.ret k none g l code pos kp] [] []) (ends N newi) =
      chk' (tR p w K W n ops (mkT ini) N sz gens (tok + dt0) [] Y S.code pos' [.ret k none g l code pos kp] [] [])
        (k S.res, code, pos, [], addZ S.dsz sz + S.dl, tok + S.dtok, appG gens S.newg, S.facts, fin.map some, S.new.map fun q => some (sz + q.1, q.2))) : S.Valid (mdl p w) K sz tok := by
  intro s k g l code pos pos' kp st hK hpre hpo hne1 hne' hs ht hb hsh
  obtain ⟨h, ⟨gens⟩, d, toks, os⟩ := s
  replace ht : toks = tok := ht
  have hb' : topHandled (.ret k none g l code pos kp :: st) = none := by rw [topHandled_ret]; exact hb
  obtain ⟨pos2, C0⟩ := comes_mid (c := S.code) (f := f) (pos' := pos') hb' (hm ⟨h, ⟨gens⟩, d, toks, os⟩ hpre ht)
  subst ht hini hN
  obtain ⟨out, h', e1, C, c1, c2, c3, c4⟩ := go (d := d) (os := os) (bot := st) rfl hb hK hK' (fun q hq => by
      obtain ⟨x, hx, rfl⟩ := List.mem_map.mp hq
      exact hpre x hx) nd (fun x hx => absurd hx (List.not_mem_nil)) hs rfl hi ok (e k g l code pos pos2 kp (st.map Frame.where_) gens hsh)
  simp only [ends, Prod.mk.injEq, appG_eq, addZ_eq] at e1
  obtain ⟨e1, e2, e3, e4, e5, e6, e7, e8, e9, e10⟩ := e1
  rw [e1, e2, e3, e4, e6, e7, hY] at C
  have hfinget : ∀ q ∈ fin, h'.get? q.1 = some q.2 := fun q hq => by
    have : some q ∈ fin.map some := List.mem_map.mpr ⟨q, hq, rfl⟩
    rw [← e9] at this
    obtain ⟨i, _, hi⟩ := List.mem_map.mp this
    exact c2 i q.1 q.2 hi
  have eg : (⟨gens⟩ : Array GenState) ++ ⟨S.newg⟩ = ⟨gens ++ S.newg⟩ := by simp
  refine ⟨h', ?_, c1.trans e5, fun q hq => hfinget _ (hpost q hq), fun q hq => ?_, fun x hx q hq => ⟨c3 x (by rw [e8]; exact hx) q hq, hfa x hx q hq⟩, fun b o hb' hn => ?_⟩
  · show Comes _ _ _ ⟨h', (⟨gens⟩ : Array GenState) ++ ⟨S.newg⟩, d, _, os⟩ _
    rw [eg]
    have hd : (mdl p w).den S.code = m.bind f := by
      rw [← hcode]
      show denote treeTable S.code = denote table S.code
      rw [table_eq_tree]
    rw [hd]
    exact C0.trans C
  · have : some (sz + q.1, q.2) ∈ S.new.map (fun q => some (sz + q.1, q.2)) := List.mem_map.mpr ⟨q, hq, rfl⟩
    rw [← e10] at this
    obtain ⟨i, _, hi⟩ := List.mem_map.mp this
    exact c2 i _ _ hi
  · by_cases hm : b ∈ (S.pre.map (·.2)).map (·.1)
    · rw [← hfin] at hm
      obtain ⟨q, hq, rfl⟩ := List.mem_map.mp hm
      rcases hsame q hq with z | ⟨r, hr, z⟩
      · obtain ⟨x, hx, rfl⟩ := List.mem_map.mp z
        have := hpre x hx
        rw [show (Shared.heap ⟨h, ⟨gens⟩, d, toks, os⟩).get? x.2.1 = h.get? x.2.1 from rfl] at this
        rw [show (Shared.heap ⟨h, ⟨gens⟩, d, toks, os⟩).get? x.2.1 = h.get? x.2.1 from rfl, this] at hb'
        cases hb'
        exact hfinget _ hq
      · exact absurd z (hn r hr)
    · exact c4 b o hb' hm

theorem denote_builtin {id : String} {args : Args} {b : Builtin} (h : entryFor table id = some b) : denote table (.builtin id args) = b args := by
  show (match entryFor table id with | some b => b args | none => unsupported ((withoutEnding? id "#data").getD id)) = _
  rw [h]
/-- key in dict -/
noncomputable def sHas (cls : Value) (dd : Option Nat) (i d : Nat) (es : List E) (ep : Nat) (x : Int) (t : Nat) (r : Bool) : Summ :=
  { code := .builtin "dict.__contains__" ⟨[.ref d, .int x t], []⟩, res := .ok (.ret (.bool r)), pre := [(i, d, dObj cls dd es ep)], dtok := 1 }
theorem sHas_ok {p : Program} {w : World} {K : Nat → Option Obj} {cls : Value} {dd : Option Nat} {i d : Nat} {es : List E} {ep : Nat} {x : Int} {t : Nat} {r : Bool} (hr : (esFind es x).isSome = r) (hd : (d == sysModules) = false) (sz tok : Nat) : (sHas cls dd i d es ep x t r).Valid (mdl p w) K sz tok := by
  refine Summ.ofAny rfl rfl fun s hpre hs ht => ?_
  have h1 : s.heap.get? d = some (dObj cls dd es ep) := hpre (i, d, _) (List.mem_singleton.mpr rfl)
  refine ⟨s.heap, fun A hA => ?_, by rw [hs]; exact (Nat.zero_add _).symm, (fun q hq => nomatch hq), (fun q hq => nomatch hq), fun b o hb _ => hb⟩
  show wpAny _ _ (denote table (.builtin "dict.__contains__" ⟨[.ref d, .int x t], []⟩)) _ _ _
  rw [denote_builtin entry_dict_contains]
  refine wpAny_bind (m := dictGet d (.int x t)) (any_dictGet h1 ?_)
  subst hr
  unfold esVal
  cases esFind es x with
  | some e => exact wpAny_pure ⟨_, rfl, rfl, by subst ht; rfl⟩
  | none =>
    show wpAny _ _ (Builtin.Dict.pendingKey? d (.int x t) >>= _) _ _ _
    unfold Builtin.Dict.pendingKey?
    rw [if_neg (by rw [hd]; exact Bool.false_ne_true)]
    exact wpAny_bind (wpAny_pure (wpAny_pure ⟨_, rfl, rfl, by subst ht; rfl⟩))


/-- dict.__getitem__ when the key is not there -/
noncomputable def getRest (d : Nat) (key : Value) : Sem PySem.Fin := do
  match ← Builtin.Dict.missed d key with
  | some v => ret v
  | none => do
    if (← typeOf (.ref d)) != .type "dict" then
      if let some r ← callSpecial? (.ref d) "__missing__" [key] then rule "dict.__getitem__.missing-hook"; return ← ret r
    rule "dict.__getitem__.keyerror"
    raiseNew (← newExc (.type "KeyError") [key])
noncomputable def getCont (d : Nat) (key : Value) (o : Option Value) : Sem PySem.Fin := match o with
  | some v => ret v
  | none => getRest d key
theorem getitem_code (d : Nat) (x : Int) (t : Nat) : denote table (.builtin "dict.__getitem__" ⟨[.ref d, .int x t], []⟩) = (dictGet d (.int x t)).bind (getCont d (.int x t)) := by
  rw [denote_builtin entry_dict_getitem]
  show (dictGet d (.int x t)).bind _ = _
  congr 1
  funext o
  cases o <;> rfl
end Mine
lay_quick Mine.getRest
namespace Mine
open PySem PySem.W

noncomputable def csAfter (acts : List (Code × Pos)) (d : Bool) : Sem (List Env) := do
  return (((← (do
    let codes := (pastTheWaiting acts).map (·.1)
    if d then unsupported "caller:past-a-waiting-one"
    return codes : Sem (List Code))).filter (·.env?.isSome)).takeWhile (·.isInlined)).filterMap (·.env?)
noncomputable def csDec (acts : List (Code × Pos)) : Bool := ((acts.map (·.1)).findSome? (·.env?)).map (·.frame) != (((pastTheWaiting acts).map (·.1)).findSome? (·.env?)).map (·.frame)
noncomputable def supVal (env : Env) (g cls : Value) (first : Str) (cs : Sem (List Env)) : Sem Value := do
  let self ← loadName (env.holderOf (← cs) first) first
  let aType ← isType cls
  if g == .type "super" && aType then call g [cls, self] else holding [cls, self] (call g [])
noncomputable def supStm (o : Expr) (name : Str) (apos : Pos) (args : List Expr) (keywords : List Keyword) (pos epos : Pos) (env : Env) (ov : Sem Value) : Sem Flow := do
  dropValue (.Call (.Attribute o name apos) args keywords pos) epos (← (do
    let ov ← ov
    standAt apos.atName
    methodCall o name apos pos env ov (args.length + keywords.length) (backTo pos (starEach args env)) (backToKw pos (keywordEach keywords env))))
noncomputable def nest (env : Env) : List (List Stmt) → Sem Flow → Sem Flow
  | [], t => t
  | r :: rs, t => nest env rs (do
    match ← t with
    | .next => execs r env
    | f => pure f)
noncomputable def funcOf (env : Env) (t : Sem Flow) : Sem PySem.Fin := do
  match ← t.onRaise (leaving env) with
  | .ret v => ret v
  | _ => ret .none
noncomputable def supX (st : Stmt) (env : Env) (g cls : Value) (first : Str) (rests : List (List Stmt)) (cs : Sem (List Env)) : Sem PySem.Fin := match st with
  | .Expr (.Call (.Attribute o name apos) args keywords pos) epos => funcOf env (nest env rests (supStm o name apos args keywords pos epos env (supVal env g cls first cs)))
  | _ => unsupported "none"
end Mine
lay_quick Mine.csAfter
lay_quick Mine.csDec
lay_quick Mine.supX
namespace Mine
open PySem PySem.W
noncomputable abbrev tSupX := PySem.W.Fast.tw2776418994055508487
noncomputable abbrev tCsDec := PySem.W.Fast.tw12540664107310235544
noncomputable abbrev tCsAfter := PySem.W.Fast.tw1743703238527925738
theorem tCsDec_eq : tCsDec = csDec := PySem.W.Fast.te12540664107310235544.symm
theorem csDec_func (body : List Stmt) (env : Env) (p : Pos) (r : List (Code × Pos)) : csDec ((.func body env, p) :: r) = false := by
  have e : pastTheWaiting ((.func body env, p) :: r) = (.func body env, p) :: pastTheWaiting.go false (some (.func body env)) r := rfl
  unfold csDec
  rw [e]
  simp [Code.env?]
noncomputable def mSup (st : Stmt) (env : Env) (g cls : Value) (first : Str) (rests : List (List Stmt)) (acts : List (Code × Pos)) : Mid :=
  { X := tSupX st env g cls first rests (tCsAfter acts (tCsDec acts)), Y := tSupX st env g cls first rests (tCsAfter acts false) }
theorem mSup_ok {M : Model} {K : Nat → Option Obj} {st : Stmt} {env env' : Env} {g cls : Value} {first : Str} {rests : List (List Stmt)} {body : List Stmt} {p : Pos} {r : List (Code × Pos)} (sz tok : Nat) :
    (mSup st env g cls first rests ((.func body env', p) :: r)).Valid M K sz tok := by
  intro s code pos st' hK hpre hpo hs ht hb
  refine ⟨s.heap, ?_, hs, (fun q hq => nomatch hq), fun b o h _ => h⟩
  have : (mSup st env g cls first rests ((.func body env', p) :: r)).X = (mSup st env g cls first rests ((.func body env', p) :: r)).Y := by
    unfold mSup
    rw [tCsDec_eq, csDec_func]
  rw [this]
  exact .refl _ _
/-- the stretch at a super call in a function's body; `sel` tells the statement and what follows it -/
noncomputable def mSupA (sel : List Stmt → Stmt × List (List Stmt)) (cls : Value) (first : Str) : List (Code × Pos) → Nat → Nat → Mid := fun acts _ _ => match acts with
  | (.func b e, p) :: r => mSup (sel b).1 e (.type "super") cls first (sel b).2 ((.func b e, p) :: r)
  | _ => { X := .unsupported "", Y := .unsupported "" }
theorem mSupA_ok {M : Model} {K : Nat → Option Obj} {sel : List Stmt → Stmt × List (List Stmt)} {cls : Value} {first : Str} (acts : List (Code × Pos)) (sz tok : Nat) : (mSupA sel cls first acts sz tok).Valid M K sz tok := by
  have triv : Mid.Valid M K { X := .unsupported "", Y := .unsupported "" } sz tok := fun s code pos st hK hpre hpo hs ht hb => ⟨s.heap, .refl _ _, hs, (fun q hq => nomatch hq), fun b o h _ => h⟩
  unfold mSupA
  split
  · exact mSup_ok sz tok
  · exact triv
/-- the first statement -/
noncomputable def sel0 (b : List Stmt) : Stmt × List (List Stmt) := match b with
  | s :: r => (s, [r])
  | [] => (.Pass default, [])
/-- the statement in `if..: if..: if..: .. else: HERE`, the first one of a body -/
noncomputable def ifBody : Stmt → List Stmt
  | .If _ b _ _ => b
  | _ => []
noncomputable def ifElse : Stmt → List Stmt
  | .If _ _ o _ => o
  | _ => []
noncomputable def hdS (b : List Stmt) : Stmt := b.headD (.Pass default)
noncomputable def selUpd (b : List Stmt) : Stmt × List (List Stmt) := (hdS (ifElse (hdS (ifBody (hdS (ifBody (hdS b)))))), [(ifElse (hdS (ifBody (hdS (ifBody (hdS b)))))).tail, (ifBody (hdS (ifBody (hdS b)))).tail, (ifBody (hdS b)).tail, b.tail])
end Mine
namespace Mine
open PySem PySem.W

/-- list's extension by what is neither a list nor a tuple: the start -/
noncomputable def extX (l v : Nat) (r : Value) : Sem PySem.Fin := Builtin.List.listExtendWith (.ref l) (.ref v) r
/-- behind the question whether it is the list itself -/
noncomputable def extY (l v : Nat) (r : Value) (b : Bool) : Sem PySem.Fin := do
  let iter ← pyIter (.ref v)
  let room ← holding [iter] (Builtin.List.listLengthHint (.ref v))
  if room || b then rule "list.extend.makes-room"; Builtin.List.listTouch (.ref l)
  again (.builtin "list.extend.loop" ⟨[.ref l, iter, r], []⟩)
end Mine
lay_quick Mine.extX
lay_quick Mine.extY
namespace Mine
open PySem PySem.W
theorem ext_comes {p : Program} {w : World} {s : Shared} {l v : Nat} {r : Value} {o : Obj} {b : Bool} (code : Code) (pos : Pos) (st : List Frame) (ho : s.heap.get? v = some o) (hne : l ≠ v)
    (h1 : (o.cls == .type "list" || o.cls == .type "tuple") = false) (h2 : (["set", "frozenset", "dict", "dict_keys", "dict_values", "dict_items"].any (o.cls == .type ·)) = b) :
    Comes (mdl p w) s ⟨extX l v r, code, pos, st⟩ s ⟨extY l v r b, code, pos, st⟩ := by
  refine Comes.step (step_load (M := mdl p w) _ _ _ _ none _ ho) ?_
  have hs : (Builtin.List.listSameRef (.ref l) (.ref v) || o.cls == .type "list" || o.cls == .type "tuple") = false := by
    rw [Bool.or_assoc, h1, Bool.or_false]
    show (l == v) = false
    simpa using hne
  subst h2
  show Comes (mdl p w) s ⟨if (Builtin.List.listSameRef (.ref l) (.ref v) || o.cls == .type "list" || o.cls == .type "tuple") = true then _ else _, code, pos, st⟩ s _
  rw [if_neg (by rw [hs]; exact Bool.false_ne_true)]
  exact Comes.refl _ _
noncomputable abbrev tExtX := PySem.W.Fast.tw52672456572025752
noncomputable abbrev tExtY := PySem.W.Fast.tw7827945706206845217
theorem tExtX_eq : tExtX = extX := PySem.W.Fast.te52672456572025752.symm
theorem tExtY_eq : tExtY = extY := PySem.W.Fast.te7827945706206845217.symm
/-- the extension goes on behind its first question -/
noncomputable def mExt (i l v : Nat) (r : Value) (o : Obj) (b : Bool) : Mid := { X := tExtX l v r, Y := tExtY l v r b, pre := [(i, v, o)] }
theorem mExt_ok {p : Program} {w : World} {K : Nat → Option Obj} {i l v : Nat} {r : Value} {o : Obj} {b : Bool} (hne : l ≠ v) (h1 : (o.cls == .type "list" || o.cls == .type "tuple") = false)
    (h2 : (["set", "frozenset", "dict", "dict_keys", "dict_values", "dict_items"].any (o.cls == .type ·)) = b) (sz tok : Nat) : (mExt i l v r o b).Valid (mdl p w) K sz tok := by
  intro s code pos st hK hpre hpo hs ht hb
  have ho : s.heap.get? v = some o := hpre (i, v, o) (List.mem_singleton.mpr rfl)
  refine ⟨s.heap, ?_, hs, (fun q hq => nomatch hq), fun b o h _ => h⟩
  have hX : (mExt i l v r o b).X = extX l v r := by unfold mExt; rw [← tExtX_eq]
  have hY : (mExt i l v r o b).Y = extY l v r b := by unfold mExt; rw [← tExtY_eq]
  rw [hX, hY]
  exact ext_comes code pos st ho hne h1 h2
end Mine
namespace Mine
open PySem PySem.W

theorem comes_cod {p : Program} {w : World} {c code : Code} {s : Shared} {r : Result} {P : Shared → Prop} {k : Result → Sem PySem.Fin} {g : Bool} {l kp : List Value} {pos pos' : Pos} {st : List Frame} (hb : topHandled st = none)
    (h : ∀ A : Around, A.handled = none → A.units = unitsOf ((code, pos) :: st.map Frame.where_) → codeAny (model p w) A c (fun r' s' => r' = r ∧ P s') s) :
    ∃ s₁, P s₁ ∧ Comes (mdl p w) s ⟨(mdl p w).den c, c, pos', .ret k none g l code pos kp :: st⟩ s₁ ⟨k r, code, pos, st⟩ := by
  have hm : mdl p w = model p w := by unfold mdl model; rw [table_eq_tree]
  rw [hm]
  let Γ := Ctx.of c (.ret k none g l code pos kp :: st)
  have hh : Γ.handled = none := by
    show topHandled (.ret k none g l code pos kp :: st) = none
    rw [topHandled_ret]; exact hb
  obtain ⟨r', s₁, hr, rfl, hP⟩ := h ⟨none, frameCount Γ.below, none, none, unitsOf Γ.below⟩ rfl rfl Γ pos' rfl ⟨hh, Nat.le_refl _, (fun _ z => by cases z), (fun _ z => by cases z), Nat.le_refl _⟩
  obtain ⟨t', c', p', pre', hc₁, hx⟩ := (runs_reach hr _ (Ctx.fits_of c (.ret k none g l code pos kp :: st))).comes
  obtain ⟨rfl, rfl⟩ := hx
  exact ⟨s₁, hP, .trans hc₁ (.step (step_leaf_ret ..) (.refl _ _))⟩

/-- a summary from the library's words on a code -/
theorem Summ.ofCode {p : Program} {w : World} {K : Nat → Option Obj} {S : Summ} {sz tok : Nat} (hg : S.newg = []) (B : Nat → Prop) (hB : ∀ W, S.shape W = true → B (unitsOf W))
    (H : ∀ s : Shared, (∀ q ∈ S.pre, s.heap.get? q.2.1 = some q.2.2) → (∀ n ∈ S.needs, ∀ q ∈ n.2, s.heap.get? q.1 = some q.2) → (∀ n ∈ S.needs, ∀ q ∈ n.2, ∀ r ∈ S.post, q.1 ≠ r.2.1) → s.heap.objs.size = sz → s.toks = tok → ∀ A : Around, A.handled = none → B A.units →
      codeAny (model p w) A S.code (fun r s' => r = S.res ∧ ∃ h', s' = { s with heap := h', toks := tok + S.dtok } ∧ h'.objs.size = S.dsz.getD 0 + sz + S.dl ∧ (∀ q ∈ S.post, h'.get? q.2.1 = some q.2.2) ∧ (∀ q ∈ S.new, h'.get? (sz + q.1) = some q.2) ∧
        (∀ l ∈ S.facts, ∀ q ∈ l, h'.get? q.1 = some q.2 ∧ sz ≤ q.1 ∧ ∀ r ∈ S.new, q.1 ≠ sz + r.1) ∧ ∀ b o, s.heap.get? b = some o → (∀ q ∈ S.post, q.2.1 ≠ b) → h'.get? b = some o) s) : S.Valid (mdl p w) K sz tok := by
  intro s k g l code pos pos' kp st hK hpre hpo hne hne' hs ht hb hsh
  obtain ⟨s₁, ⟨h', rfl, h2, h3, h4, h5, h6⟩, C⟩ := comes_cod (k := k) (g := g) (l := l) (pos' := pos') (kp := kp) hb (fun A hA hu => H s hpre hne hne' hs ht A hA (by rw [hu]; exact hB _ hsh))
  refine ⟨h', ?_, h2, h3, h4, h5, h6⟩
  rw [hg]
  simpa using C
noncomputable def shUnits : List (Code × Pos) → Bool := fun W => Nat.ble (unitsOf W) 5000
theorem shUnits_le {W : List (Code × Pos)} (h : shUnits W = true) : unitsOf W ≤ 5000 := Nat.le_of_ble_eq_true h
end Mine
namespace Mine
open PySem PySem.W

/-- the heap behind the next of a dict's items, the owner's tuple being held -/
noncomputable def iiHd (f : Bool) (h : Heap) (it n : Nat) (e : E) : Heap := match f with
  | true => iiG' h it n e
  | false => iiG h it n e
section
variable {p : Program} {w : World} {A : Around} {EE : Value → Shared → Prop} {s : Shared}
theorem any_alive {a : Addr} {o : Obj} {Q : Option Obj → Shared → Prop} (ho : s.heap.get? a = some o) (h : Q (some o) s) : wpAny (model p w) A (loadIfAlive a) Q EE s := by
  have h' : Q (s.heap.get? a) s := by rw [ho]; exact h
  exact fun _ _ _ => h'
theorem any_iiNextH {Q : PySem.Fin → Shared → Prop} {it d n ep a : Nat} {f : Bool} {oa : Obj} {ok ov cls : Value} {dd : Option Nat} {es : List E} {e : E} (hit : s.heap.get? it = some (iiObj (rawInt a) (.bool f) d n (eln es) ep ok ov)) (ha : s.heap.get? a = some oa) (hne : a ≠ it)
    (hd : s.heap.get? d = some (dObj cls dd es ep)) (he : es[n]? = some e)
    (h : Q (Fin.done (.ret (.ref s.heap.objs.size))) { s with heap := iiHd f s.heap it n e }) : wpAny (model p w) A (Builtin.«dict_itemiterator.__next__» ⟨[.ref it], []⟩) Q EE s := by
  refine any_iiPre hit hd he ?_
  have h1 : (s.heap.update it (fset 3 (rawInt ((n : Int) + 1)))).get? it = some (iiObj (rawInt a) (.bool f) d (n + 1) (eln es) ep ok ov) := get_upd _ hit rfl rfl
  have z1 : (s.heap.update it (fset 3 (rawInt ((n : Int) + 1)))).objs.size = s.heap.objs.size := upd_size ..
  have h2 : ((s.heap.update it (fset 3 (rawInt ((n : Int) + 1)))).push (tupObj (kv e))).get? it = some (iiObj (rawInt a) (.bool f) d (n + 1) (eln es) ep ok ov) := Heap.get?_push_of_some _ h1
  have ha2 : ((s.heap.update it (fset 3 (rawInt ((n : Int) + 1)))).push (tupObj (kv e))).get? a = some oa := Heap.get?_push_of_some _ ((upd_other _ hne).trans ha)
  unfold Builtin.Dict_items.pairFromOwner
  refine wpAny_bind (wpAny_newTuple ?_)
  refine wpAny_bind ?_
  unfold Builtin.Dict_items.ownedTupleIsFree
  refine wpAny_bind (wpAny_field (o := iiObj (rawInt a) (.bool f) d (n + 1) (eln es) ep ok ov) h2 rfl (x := rawInt a) rfl ?_)
  show wpAny _ _ (loadIfAlive ((a : Int).toNat) >>= _) _ _ _
  rw [Int.toNat_natCast]
  refine wpAny_bind (any_alive ha2 ?_)
  simp only [Option.isNone_some, Bool.false_eq_true, if_false]
  refine wpAny_bind (wpAny_field (o := iiObj (rawInt a) (.bool f) d (n + 1) (eln es) ep ok ov) h2 rfl (x := .bool f) rfl ?_)
  rw [z1]
  cases f with
  | true =>
    rw [if_neg (show ¬ ((Value.bool true != Value.bool true) = true) from Bool.false_ne_true)]
    refine wpAny_pure ?_
    simp only [Bool.false_eq_true, if_false]
    exact wpAny_pure h
  | false =>
    rw [if_pos (show (Value.bool false != Value.bool true) = true from rfl)]
    refine wpAny_bind (wpAny_setField h2 rfl (by simp) ?_)
    refine wpAny_pure ?_
    simp only [Bool.false_eq_true, if_false]
    exact wpAny_pure h
theorem iiHd_spec {f : Bool} {h : Heap} {it d n N ep a : Nat} {ok ov : Value} {e : E} (hit : h.get? it = some (iiObj (rawInt a) (.bool f) d n N ep ok ov)) :
    (iiHd f h it n e).objs.size = h.objs.size + 1 ∧ (iiHd f h it n e).get? it = some (iiObj (rawInt a) (.bool true) d (n + 1) N ep ok ov) ∧ (iiHd f h it n e).get? h.objs.size = some (tupObj (kv e)) ∧
    ∀ b o, h.get? b = some o → b ≠ it → (iiHd f h it n e).get? b = some o := by
  have hl := Heap.lt_size hit
  have h1 : (h.update it (fset 3 (rawInt ((n : Int) + 1)))).get? it = some (iiObj (rawInt a) (.bool f) d (n + 1) N ep ok ov) := get_upd _ hit rfl rfl
  have h2 : ((h.update it (fset 3 (rawInt ((n : Int) + 1)))).push (tupObj (kv e))).get? it = some (iiObj (rawInt a) (.bool f) d (n + 1) N ep ok ov) := Heap.get?_push_of_some _ h1
  have ht : ((h.update it (fset 3 (rawInt ((n : Int) + 1)))).push (tupObj (kv e))).get? h.objs.size = some (tupObj (kv e)) := by
    rw [show h.objs.size = (h.update it (fset 3 (rawInt ((n : Int) + 1)))).objs.size from (upd_size ..).symm]
    exact Heap.get?_push_size _ rfl
  have hz : ((h.update it (fset 3 (rawInt ((n : Int) + 1)))).push (tupObj (kv e))).objs.size = h.objs.size + 1 := by rw [Heap.size_push, upd_size]
  cases f with
  | true => exact ⟨hz, h2, ht, fun b o hb hn => Heap.get?_push_of_some _ ((upd_other _ hn).trans hb)⟩
  | false =>
    refine ⟨(upd_size ..).trans hz, get_upd _ h2 rfl rfl, (upd_other _ (Nat.ne_of_gt hl)).trans ht, fun b o hb hn => ?_⟩
    exact (upd_other _ hn).trans (Heap.get?_push_of_some _ ((upd_other _ hn).trans hb))

/-- pyNext of a dict's items: an item, the end -/
theorem any_pyNextII {it : Nat} {f0 f1 ok ov : Value} {d n N ep : Nat} {Q : Option Value → Shared → Prop} (hit : s.heap.get? it = some (iiObj f0 f1 d n N ep ok ov))
    (h : wpAny (model p w) A.in1 (Builtin.«dict_itemiterator.__next__» ⟨[.ref it], []⟩) (fun fin s' => ∃ v, fin = .done (.ret v) ∧ Q (some v) s') (fun e s' => e = .ref (s.heap.objs.size + 1) ∧ (∃ t, s'.heap.get? (s.heap.objs.size + 1) = some (stopObj t)) ∧ Q none s') s) :
    wpAny (model p w) A (pyNext (.ref it)) Q EE s := by
  have hT : s.TypeIs (.ref it) "dict_itemiterator" := ⟨_, hit, rfl⟩
  unfold pyNext
  refine wpAny_bind (wpAny_attempt (wpAny_callSpecial?_slot (name := Str.ofString "__next__") hT F.slot_dict_itemiterator_next
    (wpAny_call_entry F.slot_dict_itemiterator_next hT F.entry_dict_itemiterator_next (wpAny_mono h ?_ ?_) (F.args_dict_itemiterator_next_1 _))))
  · rintro fin s' ⟨v, rfl, hv⟩
    exact ⟨v, rfl, wpAny_pure hv⟩
  · rintro e s' ⟨rfl, ⟨t, ht⟩, hq⟩
    refine wpAny_bind (wpAny_isInstance (T := "StopIteration") (b := true) ⟨_, ht, rfl⟩ isSubtype_stop ?_)
    exact wpAny_pure hq

noncomputable def tupF : Nat → List E → List (Nat × Obj)
  | _, [] => []
  | a, e :: r => (a, tupObj (kv e)) :: tupF (a + 1) r
noncomputable def refs : Nat → List E → List Value
  | _, [] => []
  | a, _ :: r => .ref a :: refs (a + 1) r
/-- the iterator of a list's extension: fresh, or its tuple held -/
noncomputable def IiOk (h : Heap) (it l : Nat) (f0 f1 : Value) : Prop :=
  (f0 = .none ∧ f1 = .bool false) ∨ ∃ (a : Nat) (f : Bool) (oa : Obj), f0 = rawInt a ∧ f1 = .bool f ∧ h.get? a = some oa ∧ a ≠ it ∧ a ≠ l
noncomputable def iiRun (d N ep : Nat) : List E → Nat → Nat → Value → Value → Value → Value → Obj
  | [], n, _, f0, f1, ok, ov => iiEnd (iiObj f0 f1 d n N ep ok ov)
  | e :: r, n, sz, f0, _, ok, ov => match f0 with
    | .none => iiRun d N ep r (n + 1) (sz + 1) (rawInt sz) (.bool false) (.int e.k e.t) (.int e.v e.u)
    | f0 => iiRun d N ep r (n + 1) (sz + 1) f0 (.bool true) ok ov
theorem lsPush {h : Heap} {l ep : Nat} {acc : List Value} (hl : h.get? l = some (lsObj acc ep)) (v : Value) : (h.update l (Obj.mapSeq (·.push v))).get? l = some (lsObj (acc ++ [v]) (ep + 1)) := by
  refine get_upd _ hl ?_ rfl
  show Obj.mk _ _ (.seq ((⟨acc⟩ : Array Value).push v) (if ((⟨acc⟩ : Array Value).push v).size == (⟨acc⟩ : Array Value).size then ep else ep + 1)) _ = _
  rw [if_neg (by simp)]
  simp [lsObj]
theorem itemsLoop {it d l ep : Nat} {cls : Value} {dd : Option Nat} {es : List E} {res : Value} {R : Result → Shared → Prop} (hh : A.handled = none) (hil : it ≠ l) (hid : d ≠ it) (hld : d ≠ l) (h8 : es.length ≤ 8) :
    ∀ (rem : List E) (n : Nat) (h : Heap) (acc : List Value) (lep : Nat) (f0 f1 ok ov : Value), es.drop n = rem → acc.length + rem.length ≤ 8 → h.get? it = some (iiObj f0 f1 d n (eln es) ep ok ov) → IiOk h it l f0 f1 → h.get? d = some (dObj cls dd es ep) → h.get? l = some (lsObj acc lep) →
      (∀ h', h'.objs.size = h.objs.size + rem.length + 2 → h'.get? l = some (lsObj (acc ++ refs h.objs.size rem) (lep + rem.length)) → (∀ q ∈ tupF h.objs.size rem, h'.get? q.1 = some q.2) → h'.get? it = some (iiRun d (eln es) ep rem n h.objs.size f0 f1 ok ov) →
        (∀ b o, b ≠ it → b ≠ l → h.get? b = some o → h'.get? b = some o) → R (.ok (.ret res)) { s with heap := h' }) →
      codeAny (model p w) A (.builtin "list.extend.loop" ⟨[.ref l, .ref it, res], []⟩) R { s with heap := h }
  | [], n, h, acc, lep, f0, f1, ok, ov, hdr, hac, hit, hI, hd, hl, hR => by
    have he : es[n]? = none := by
      have := congrArg List.length hdr
      rw [List.length_drop] at this
      exact List.getElem?_eq_none (by simp at this; omega)
    refine codeAny_builtin PySem.F.entry_extend_loop ?_
    rw [Around.under_plainId PySem.F.plain_extend_loop _]
    show wpAny _ A.in1 (pyNext (.ref it) >>= _) _ _ _
    have z1 := upd_size h it (fset 2 .none)
    have z2 : ((h.update it (fset 2 .none)).push (tupObj [])).objs.size = h.objs.size + 1 := by rw [Heap.size_push, z1]
    refine wpAny_bind (any_pyNextII (s := { s with heap := h }) hit (any_iiEnd (s := { s with heap := h }) (A := A.in1.in1) hh hit hd he ⟨rfl, ⟨h.objs.size, ?_⟩, ?_⟩))
    · show Heap.get? _ (h.objs.size + 1) = _
      rw [← z2]
      exact Heap.get?_push_size _ rfl
    · refine wpAny_pure (hR _ ?_ ?_ (fun q hq => nomatch hq) (Heap.get?_push_of_some _ (Heap.get?_push_of_some _ (get_upd _ hit rfl rfl))) fun b o h1 h2 hb => ?_)
      · rw [Heap.size_push, z2]; rfl
      · refine Heap.get?_push_of_some _ (Heap.get?_push_of_some _ ((upd_other _ (Ne.symm hil)).trans ?_))
        simpa [refs] using hl
      · exact Heap.get?_push_of_some _ (Heap.get?_push_of_some _ ((upd_other _ h1).trans hb))
  | e :: rem, n, h, acc, lep, f0, f1, ok, ov, hdr, hac, hit, hI, hd, hl, hR => by
    have he : es[n]? = some e := by
      have := congrArg (·[0]?) hdr
      simpa using this
    have hdr' : es.drop (n + 1) = rem := by
      have := congrArg List.tail hdr
      simpa using this
    have key : ∀ (h1 : Heap) (g0 g1 ok1 ov1 : Value), h1.objs.size = h.objs.size + 1 → h1.get? it = some (iiObj g0 g1 d (n + 1) (eln es) ep ok1 ov1) → IiOk h1 it l g0 g1 → iiRun d (eln es) ep rem (n + 1) (h.objs.size + 1) g0 g1 ok1 ov1 = iiRun d (eln es) ep (e :: rem) n h.objs.size f0 f1 ok ov →
        h1.get? h.objs.size = some (tupObj (kv e)) → (∀ b o, h.get? b = some o → b ≠ it → h1.get? b = some o) →
        codeAny (model p w) A (.builtin "list.extend.loop" ⟨[.ref l, .ref it, res], []⟩) R { s with heap := h1.update l (Obj.mapSeq (·.push (Value.ref h.objs.size))) } := fun h1 g0 g1 ok1 ov1 hz hit1 hI1 hrun ht1 hk1 => by
      have hl1 := hk1 l _ hl (Ne.symm hil)
      have hlt := Heap.lt_size hl
      have up : ∀ b o, b ≠ l → h1.get? b = some o → (h1.update l (Obj.mapSeq (·.push (Value.ref h.objs.size)))).get? b = some o := fun b o hb hg => (upd_other _ hb).trans hg
      refine itemsLoop hh hil hid hld h8 rem (n + 1) _ (acc ++ [.ref h.objs.size]) (lep + 1) g0 g1 ok1 ov1 hdr' (by simp at hac ⊢; omega) (up _ _ hil hit1) ?_ (up _ _ hld (hk1 d _ hd hid)) (lsPush hl1 _) fun h' q1 q2 q3 q5 q4 => ?_
      · rcases hI1 with hI1 | ⟨a, f, oa, e0, e1, e2, e3, e4⟩
        · exact .inl hI1
        · exact .inr ⟨a, f, oa, e0, e1, up _ _ e4 e2, e3, e4⟩
      · rw [upd_size, hz] at q1 q2 q3 q5
        refine hR h' (by rw [q1]; simp; omega) ?_ (fun q hq => ?_) (q5.trans (congrArg some hrun)) fun b o h1' h2' hb => q4 b o h1' h2' (up b o h2' (hk1 b o hb h1'))
        · rw [q2]
          simp only [refs, List.append_assoc, List.singleton_append, List.length_cons]
          congr 2
          omega
        · simp only [tupF, List.mem_cons] at hq
          rcases hq with rfl | hq
          · exact q4 _ _ (Nat.ne_of_gt (Heap.lt_size hit)) (Nat.ne_of_gt hlt) (up _ _ (Nat.ne_of_gt hlt) ht1)
          · exact q3 q hq
    have hlt := Heap.lt_size hl
    have hsz : acc.length ≤ sizeLine := Nat.le_trans (by omega : acc.length ≤ 8) (by size_fits)
    have hsz2 : ((⟨acc⟩ : Array Value).push (.ref h.objs.size)).size ≤ sizeLine + 1 := by
      rw [Array.size_push]
      exact Nat.add_le_add_right hsz 1
    refine codeAny_builtin PySem.F.entry_extend_loop ?_
    rw [Around.under_plainId PySem.F.plain_extend_loop _]
    show wpAny _ A.in1 (pyNext (.ref it) >>= _) _ _ _
    have step : ∀ h1 : Heap, h1.get? l = some (lsObj acc lep) → codeAny (model p w) A (.builtin "list.extend.loop" ⟨[.ref l, .ref it, res], []⟩) R { s with heap := h1.update l (Obj.mapSeq (·.push (Value.ref h.objs.size))) } →
        wpAny (model p w) A.in1 (Builtin.List.listUpdate (.ref l) (·.push (.ref h.objs.size)) >>= fun _ => again (.builtin "list.extend.loop" ⟨[.ref l, .ref it, res], []⟩))
          (fun fin s' => match fin with | .done f => R (.ok f) s' | .again c' => c'.quiet = true ∧ codeAny (model p w) A c' R s') (fun e s' => R (.error e) s') { s with heap := h1 } := fun h1 hl1 hc => by
      refine wpAny_bind (m := Builtin.List.listUpdate (.ref l) (·.push (.ref h.objs.size))) ?_
      exact wpAny_updateSeq (s := { s with heap := h1 }) hl1 rfl (wpAny_pure ⟨plainId_quiet PySem.F.plain_extend_loop _, hc⟩) hsz hsz2
    rcases hI with ⟨rfl, rfl⟩ | ⟨a, f, oa, rfl, rfl, ha, hai, hal⟩
    · obtain ⟨a1, a2, a3, a4⟩ := iiH_spec (e := e) hit
      refine wpAny_bind (any_pyNextII (s := { s with heap := h }) hit (any_iiNext (s := { s with heap := h }) (A := A.in1.in1) hit hd he ⟨.ref h.objs.size, rfl, ?_⟩))
      refine step _ (a4 l _ hl (Ne.symm hil)) (key _ _ _ _ _ (by rw [a1]; omega) a2 (.inr ⟨h.objs.size, false, _, rfl, rfl, a3, Nat.ne_of_gt (Heap.lt_size hit), Nat.ne_of_gt hlt⟩) rfl a3 a4)
    · obtain ⟨a1, a2, a3, a4⟩ := iiHd_spec (e := e) hit
      refine wpAny_bind (any_pyNextII (s := { s with heap := h }) hit (any_iiNextH (s := { s with heap := h }) (A := A.in1.in1) hit ha hai hd he ⟨.ref h.objs.size, rfl, ?_⟩))
      exact step _ (a4 l _ hl (Ne.symm hil)) (key _ _ _ _ _ a1 a2 (.inr ⟨a, true, oa, rfl, rfl, a4 a oa ha hai, hai, hal⟩) rfl a3 a4)
end

theorem tupF_ge (q : Nat × Obj) : ∀ (es : List E) (a : Nat), q ∈ tupF a es → a ≤ q.1
  | [], _, h => (List.not_mem_nil h).elim
  | e :: r, a, h => by
    unfold tupF at h
    rcases List.mem_cons.mp h with h | h
    · rw [h]; exact Nat.le_refl _
    · exact Nat.le_of_succ_le (tupF_ge q r (a + 1) h)
/-- the loop of a list's extension by a dict's items -/
noncomputable def sItems (i0 i1 i2 l it d lep : Nat) (cls : Value) (dd : Option Nat) (es : List E) (ep : Nat) (ok ov : Value) (sz : Nat) : Summ :=
  { code := .builtin "list.extend.loop" ⟨[.ref l, .ref it, .none], []⟩, res := .ok (.ret .none), pre := [(i0, l, lsObj [] lep), (i1, it, iiObj .none (.bool false) d 0 (eln es) ep ok ov), (i2, d, dObj cls dd es ep)],
    post := [(i0, l, lsObj (refs sz es) (lep + es.length)), (i1, it, iiRun d (eln es) ep es 0 sz .none (.bool false) ok ov)], facts := [tupF sz es], dsz := some es.length, dl := 2 }
theorem sItems_ok {p : Program} {w : World} {K : Nat → Option Obj} {i0 i1 i2 l it d lep : Nat} {cls : Value} {dd : Option Nat} {es : List E} {ep : Nat} {ok ov : Value} (hil : it ≠ l) (hid : d ≠ it) (hld : d ≠ l) (h8 : es.length ≤ 8) (sz tok : Nat) :
    (sItems i0 i1 i2 l it d lep cls dd es ep ok ov sz).Valid (mdl p w) K sz tok := by
  refine Summ.ofCode rfl (fun _ => True) (fun _ _ => trivial) fun s hpre _ _ hs ht A hA _ => ?_
  have h0 : s.heap.get? l = some (lsObj [] lep) := hpre (i0, l, lsObj [] lep) List.mem_cons_self
  have h1 : s.heap.get? it = some (iiObj .none (.bool false) d 0 (eln es) ep ok ov) := hpre (i1, it, iiObj .none (.bool false) d 0 (eln es) ep ok ov) (List.mem_cons_of_mem _ List.mem_cons_self)
  have h2 : s.heap.get? d = some (dObj cls dd es ep) := hpre (i2, d, dObj cls dd es ep) (List.mem_cons_of_mem _ (List.mem_cons_of_mem _ List.mem_cons_self))
  subst hs ht
  show codeAny (model p w) A (.builtin "list.extend.loop" ⟨[.ref l, .ref it, .none], []⟩) _ s
  refine itemsLoop (s := s) (res := .none) hA hil hid hld h8 es 0 s.heap [] lep .none (.bool false) ok ov rfl (by simpa using h8) h1 (.inl ⟨rfl, rfl⟩) h2 h0 fun h' q1 q2 q3 q5 q4 => ⟨rfl, h', rfl, ?_, ?_, (fun q hq => nomatch hq), ?_, ?_⟩
  · rw [q1]; show _ = es.length + s.heap.objs.size + 2; omega
  · intro q hq
    rcases List.mem_cons.mp hq with rfl | hq
    · exact q2
    · rw [List.mem_singleton.mp hq]
      exact q5
  · intro x hx q hq
    rw [List.mem_singleton.mp hx] at hq
    exact ⟨q3 q hq, tupF_ge q es _ hq, fun r hr => nomatch hr⟩
  · intro b o hb hn
    exact q4 b o (fun z => hn _ (List.mem_cons_of_mem _ List.mem_cons_self) z.symm) (fun z => hn _ List.mem_cons_self z.symm) hb
end Mine
namespace Mine
open PySem PySem.W PySem.SeqAt

section
variable {p : Program} {w : World} {A : Around} {s : Shared} {a b ep ep' : Nat} {vs us : List Value} {xs ys : List PyData} {as bs : List Addr}
theorem cmp_at (r1 : ReadsAll s.heap vs xs as) (r2 : ReadsAll s.heap us ys bs) (l1 : PyData.canLayAll0 xs = true) (l2 : PyData.canLayAll0 ys = true) (hu : A.units + 1 + min (PyData.depthAll xs) (PyData.depthAll ys) < cLine) :
    ∀ j (h1 : j < (⟨vs⟩ : Array Value).size) (h2 : j < (⟨us⟩ : Array Value).size), EqAt A.in1 s (⟨vs⟩ : Array Value)[j] (⟨us⟩ : Array Value)[j] (pairEq xs ys j) := fun j h1 h2 => by
  have := eqAt_readsAll xs ys A.in1 s vs us _ _ r1 r2 l1 l2 hu j (by simpa using h1) (by simpa using h2)
  simpa using this
theorem listNe (h1 : s.heap.get? a = some (lsObj vs ep)) (h2 : s.heap.get? b = some (lsObj us ep')) (r1 : ReadsAll s.heap vs xs as) (r2 : ReadsAll s.heap us ys bs) (l1 : PyData.canLayAll0 xs = true) (l2 : PyData.canLayAll0 ys = true)
    (hu : A.units + 1 + min (PyData.depthAll xs) (PyData.depthAll ys) < cLine) :
    codeAny (model p w) A (.builtin "list.__ne__" ⟨[.ref a, .ref b], []⟩) (fun r s' => r = .ok (.ret (.bool (!PyData.eqvAll xs ys))) ∧ s' = s) s := by
  refine codeAny_builtin F.entry_list_ne ?_
  rw [Around.under_plainId (show plainId "list.__ne__" = true by decide +kernel) _]
  have n1 : vs.length = xs.length := ReadsAll.length _ _ _ r1
  have n2 : us.length = ys.length := ReadsAll.length _ _ _ r2
  by_cases hsz : (⟨vs⟩ : Array Value).size = (⟨us⟩ : Array Value).size
  · refine list_neAt a b ⟨vs⟩ ⟨us⟩ ep ep' none none #[] #[] hsz (pairEq xs ys) p w A (fun r s' => r = .ok (.ret (.bool (!PyData.eqvAll xs ys))) ∧ s' = s) s ⟨h1, h2, cmp_at r1 r2 l1 l2 hu, ?_⟩
    have e : (⟨vs⟩ : Array Value).size = xs.length := n1
    have hl : xs.length = ys.length := by simp at hsz; omega
    rw [e, eqvAll_same_length hl]
    exact ⟨rfl, rfl⟩
  · refine list_ne_lengthsAt a b ⟨vs⟩ ⟨us⟩ ep ep' none none #[] #[] (by simpa using hsz) p w A (fun r s' => r = .ok (.ret (.bool (!PyData.eqvAll xs ys))) ∧ s' = s) s ⟨h1, h2, ?_⟩
    rw [eqvAll_other_length (by simp at hsz; omega)]
    exact ⟨rfl, rfl⟩
end

/-- what a list's values read as, given facts -/
structure Rd (N : List (Nat × List (Nat × Obj))) (vs : List Value) (xs : List PyData) : Prop where
  reads : ∀ h : Heap, (∀ n ∈ N, ∀ q ∈ n.2, h.get? q.1 = some q.2) → ∃ as, ReadsAll h vs xs as
  lay : PyData.canLayAll0 xs = true
  depth : PyData.depthAll xs ≤ 64
/-- two lists compared -/
noncomputable def sLsCmp (id : String) (i j a b : Nat) (vs us : List Value) (ep ep' : Nat) (N : List (Nat × List (Nat × Obj))) (r : Bool) : Summ :=
  { code := .builtin id ⟨[.ref a, .ref b], []⟩, res := .ok (.ret (.bool r)), pre := [(i, a, lsObj vs ep), (j, b, lsObj us ep')], needs := N, shape := shUnits }
theorem sLsNe_ok {p : Program} {w : World} {K : Nat → Option Obj} {i j a b : Nat} {vs us : List Value} {ep ep' : Nat} {N : List (Nat × List (Nat × Obj))} {r : Bool} {xs ys : List PyData} (r1 : Rd N vs xs) (r2 : Rd N us ys) (hr : (!PyData.eqvAll xs ys) = r) (sz tok : Nat) :
    (sLsCmp "list.__ne__" i j a b vs us ep ep' N r).Valid (mdl p w) K sz tok := by
  refine Summ.ofCode rfl (· ≤ 5000) (fun W h => shUnits_le h) fun s hpre hn _ hs ht A hA hU => ?_
  have h0 : s.heap.get? a = some (lsObj vs ep) := hpre (i, a, lsObj vs ep) List.mem_cons_self
  have h1 : s.heap.get? b = some (lsObj us ep') := hpre (j, b, lsObj us ep') (List.mem_cons_of_mem _ List.mem_cons_self)
  obtain ⟨as, q1⟩ := r1.reads s.heap hn
  obtain ⟨bs, q2⟩ := r2.reads s.heap hn
  have hu : A.units + 1 + min (PyData.depthAll xs) (PyData.depthAll ys) < cLine := by
    have e1 := r1.depth
    have e2 : min (PyData.depthAll xs) (PyData.depthAll ys) ≤ PyData.depthAll xs := Nat.min_le_left _ _
    have e3 : cLine = 9900 := rfl
    omega
  refine codeAny_mono (listNe h0 h1 q1 q2 r1.lay r2.lay hu) fun r' s' ⟨e1, e2⟩ => ?_
  subst e1 e2 hs ht hr
  exact ⟨rfl, s'.heap, rfl, (Nat.zero_add _).symm, (fun q hq => nomatch hq), (fun q hq => nomatch hq), (fun q hq => nomatch hq), fun b o hb _ => hb⟩

noncomputable def pKV (e : E) : PyData := .tuple [.int e.k, .int e.v]
theorem layKV (es : List E) : PyData.canLayAll0 (es.map pKV) = true := by
  induction es with
  | nil => rfl
  | cons e r ih => simp only [List.map_cons, PyData.canLayAll0, ih, Bool.and_true]; rfl
theorem depthKV (es : List E) : PyData.depthAll (es.map pKV) ≤ 64 := by
  induction es with
  | nil => exact Nat.zero_le _
  | cons e r ih =>
    simp only [List.map_cons, PyData.depthAll]
    exact Nat.max_le.mpr ⟨by show _ ≤ 64; simp [pKV, PyData.depth, PyData.depthAll], ih⟩
theorem readsKV (h : Heap) : ∀ (es : List E) (a : Nat), (∀ q ∈ tupF a es, h.get? q.1 = some q.2) → ∃ as, ReadsAll h (refs a es) (es.map pKV) as
  | [], _, _ => ⟨_, .nil⟩
  | e :: r, a, H => by
    obtain ⟨as, q⟩ := readsKV h r (a + 1) fun q hq => H q (List.mem_cons_of_mem _ hq)
    have h0 : h.get? a = some (tupObj (kv e)) := H (a, tupObj (kv e)) List.mem_cons_self
    exact ⟨_, .cons (.tuple h0 rfl rfl (.cons (.int _ _) (.cons (.int _ _) .nil))) q⟩
/-- the tuples of a dict's items read as pairs -/
theorem rdKV {N : List (Nat × List (Nat × Obj))} {i a : Nat} {es : List E} (h : (i, tupF a es) ∈ N) : Rd N (refs a es) (es.map pKV) :=
  ⟨fun hp H => readsKV hp es a (H _ h), layKV es, depthKV es⟩
theorem eqvKV : ∀ es fs : List E, PyData.eqvAll (es.map pKV) (fs.map pKV) = decide (es.map (fun e => (e.k, e.v)) = fs.map (fun e => (e.k, e.v)))
  | [], [] => by simp [PyData.eqvAll]
  | [], _ :: _ => by simp [PyData.eqvAll]
  | _ :: _, [] => by simp [PyData.eqvAll]
  | e :: r, f :: t => by
    simp only [List.map_cons, PyData.eqvAll, eqvKV r t, pKV, PyData.eqv]
    by_cases h1 : e.k = f.k <;> by_cases h2 : e.v = f.v <;> by_cases h3 : r.map (fun e => (e.k, e.v)) = t.map (fun e => (e.k, e.v)) <;> simp [h1, h2, h3]
/-- plain numbers -/
noncomputable def nvs : List (Int × Nat) → List Value := List.map fun x => .int x.1 x.2
end Mine
namespace Mine
open PySem PySem.W
section
variable {p : Program} {w : World} {A : Around} {EE : Value → Shared → Prop} {s : Shared}
end
section
variable {p : Program} {w : World} {A : Around} {EE : Value → Shared → Prop} {s : Shared}
end
end Mine
namespace Mine
open PySem PySem.W
/-- list.append -/
noncomputable def sApp (i a : Nat) (acc : List Value) (v : Value) (ep : Nat) : Summ :=
  { code := .builtin "list.append" ⟨[.ref a, v], []⟩, res := .ok (.ret .none), pre := [(i, a, lsObj acc ep)], post := [(i, a, lsObj (acc ++ [v]) (ep + 1))] }
theorem sApp_ok {p : Program} {w : World} {K : Nat → Option Obj} {i a : Nat} {acc : List Value} {v : Value} {ep : Nat} (hn : acc.length ≤ 64) (sz tok : Nat) : (sApp i a acc v ep).Valid (mdl p w) K sz tok := by
  refine Summ.ofAny rfl rfl fun s hpre hs ht => ?_
  have h1 : s.heap.get? a = some (lsObj acc ep) := hpre (i, a, lsObj acc ep) List.mem_cons_self
  have hsz : acc.length ≤ sizeLine := Nat.le_trans hn (by size_fits)
  have hsz2 : ((⟨acc⟩ : Array Value).push v).size ≤ sizeLine + 1 := by
    rw [Array.size_push]
    exact Nat.add_le_add_right hsz 1
  refine ⟨s.heap.update a (Obj.mapSeq (·.push v)), fun A hA => any_builtin F.entry_list_append ?_, ?_, fun q hq => ?_, (fun q hq => nomatch hq), fun b o hb hn => (upd_other _ fun z => hn _ List.mem_cons_self z.symm).trans hb⟩
  · refine wpAny_bind (wpAny_pure ?_)
    refine wpAny_bind (m := Builtin.List.listUpdate (.ref a) (·.push v)) ?_
    refine wpAny_updateSeq h1 rfl (wpAny_pure ⟨_, rfl, rfl, ?_⟩) hsz hsz2
    subst ht
    rfl
  · rw [upd_size, hs]; exact (Nat.zero_add _).symm
  · rw [List.mem_singleton.mp hq]
    exact lsPush h1 v
end Mine
namespace Mine
open PySem PySem.W

noncomputable def importT (tb : String → Option Builtin) (p : Program) (w : World) : Nat → SharedT → Thread → Option SharedT
  | 0, _, _ => none
  | n + 1, s, t => match t.atExitBegin with
    | some [] => some s
    | some (_ :: _) => none
    | none => match stepT (denote tb) p w s t with
      | some (s', t') => importT tb p w n s' t'
      | none => none
theorem importT_spec {tb : String → Option Builtin} {p : Program} {w : World} : ∀ {n : Nat} {s s' : SharedT} {t : Thread}, importT tb p w n s t = some s' → importEnds tb p w n s.abs t = some s'.abs
  | 0, _, _, _, h => by cases h
  | n + 1, s, s', t, h => by
    unfold importT at h
    unfold importEnds
    cases he : t.atExitBegin with
    | some x =>
      rw [he] at h
      cases x with
      | nil => cases h; rfl
      | cons => cases h
    | none =>
      rw [he] at h
      cases hs : stepT (denote tb) p w s t with
      | none => rw [hs] at h; cases h
      | some r => obtain ⟨s₂, t₂⟩ := r; rw [hs] at h; dsimp only; rw [stepT_spec hs]; exact importT_spec h
noncomputable def topT (tb : String → Option Builtin) (p : Program) (w : World) (n₀ : Nat) (ann : Option Value) : Nat → SharedT → Thread → Option SharedT
  | 0, _, _ => none
  | n + 1, s, t => match through t with
    | true => some s
    | false => match stepOk n₀ ann t with
      | false => none
      | true => match stepT (denote tb) p w s t with
        | some (s', t') => topT tb p w n₀ ann n s' t'
        | none => none
theorem topT_spec {tb : String → Option Builtin} {p : Program} {w : World} {n₀ : Nat} {ann : Option Value} : ∀ {n : Nat} {s s' : SharedT} {t : Thread}, topT tb p w n₀ ann n s t = some s' → topRun tb p w n₀ ann n s.abs t = some s'.abs
  | 0, _, _, _, h => by cases h
  | n + 1, s, s', t, h => by
    unfold topT at h
    unfold topRun
    cases he : through t with
    | true => rw [he] at h; cases h; rfl
    | false =>
      rw [he] at h
      cases hk : stepOk n₀ ann t with
      | false => rw [hk] at h; cases h
      | true =>
        rw [hk] at h
        cases hs : stepT (denote tb) p w s t with
        | none => rw [hs] at h; cases h
        | some r => obtain ⟨s₂, t₂⟩ := r; rw [hs] at h; dsimp only; rw [stepT_spec hs]; exact topT_spec h

noncomputable def fenceT (m : Str) (s : SharedT) : Option SharedT :=
  match boundIn s.abs.heap sysModules m, tameNamesOf? m with
  | some (.ref a), some row => (match s.abs.heap.get? a with
    | some o => (match o.dict with
      | some D => (match Nat.blt D s.n with
        | true => (match s.tree.get D with
          | some od => (match alive od with
            | some od => (fenceDict? m row od).map fun od' => { s with tree := s.tree.set D fun _ => od' }
            | none => none)
          | none => none)
        | false => none)
      | none => none)
    | none => none)
  | _, _ => none
theorem fenceT_spec {m : Str} {s s' : SharedT} (h : fenceT m s = some s') : fenceModule? m s.abs = some s'.abs := by
  unfold fenceT at h
  unfold fenceModule?
  split at h
  · rename_i a row h1 h2
    rw [h1, h2]
    dsimp only
    split at h
    · rename_i o h3
      rw [h3]
      dsimp only
      split at h
      · rename_i D h4
        rw [h4]
        dsimp only
        split at h
        · rename_i lt
          have lt : D < s.n := Nat.le_of_ble_eq_true lt
          split at h
          · rename_i od h5
            split at h
            · rename_i od2 h6
              have g : s.abs.heap.get? D = some od2 := by
                show (absHeap s.tree s.n s.life).get? D = _
                rw [abs_get lt h5, h6]
              rw [g]
              dsimp only
              obtain ⟨od', e, rfl⟩ := Option.map_eq_some_iff.mp h
              rw [e]
              show some _ = some _
              congr 1
              show Shared.mk _ _ _ _ _ = Shared.mk _ _ _ _ _
              congr 1
              exact (absHeap_set h5).symm
            · cases h
          · cases h
        · cases h
      · cases h
    · cases h
  · cases h
noncomputable def fenceAllT : List Str → SharedT → Option SharedT
  | [], s => some s
  | m :: r, s => match fenceT m s with
    | some s' => fenceAllT r s'
    | none => none
theorem fenceAllT_spec : ∀ {l : List Str} {s s' : SharedT}, fenceAllT l s = some s' → fenceAll? l s.abs = some s'.abs
  | [], _, _, h => by cases h; rfl
  | m :: r, s, s', h => by
    unfold fenceAllT at h
    unfold fenceAll?
    cases e : fenceT m s with
    | none => rw [e] at h; cases h
    | some s₂ => rw [e] at h; rw [fenceT_spec e]; exact fenceAllT_spec h

/-- the opening, the fence and the top, over a tree -/
noncomputable def startT (p : Program) : SharedT := ⟨.nil, 0, {}, #[], {}, 1, (start p).1.os⟩
theorem startT_abs (p : Program) : (startT p).abs = (start p).1 := rfl
noncomputable def whole (p : Program) (w : World) (A B : Nat) : Option (SharedT × SharedT) :=
  match importT treeTable (opening p) w A (startT (opening p)) (start (opening p)).2 with
  | some s => match p.main.body.any namesNumpy with
    | true => none
    | false => match fenceAllT (importedModules p.main.body) s with
      | some s₀ => match topT treeTable p w s₀.n (s₀.abs.heap.nsMap mainGlobals "__annotations__") B s₀ (topStub p) with
        | some s₁ => some (s₀, s₁)
        | none => none
      | none => none
  | none => none
theorem whole_spec {p : Program} {w : World} {A B : Nat} {s₀ s₁ : SharedT} (h : whole p w A B = some (s₀, s₁)) :
    fencedOpening treeTable p w A = some s₀.abs ∧ topRun treeTable p w s₀.abs.heap.objs.size (s₀.abs.heap.nsMap mainGlobals "__annotations__") B s₀.abs (topStub p) = some s₁.abs := by
  unfold whole at h
  split at h
  · rename_i s e
    split at h
    · cases h
    · rename_i hn
      split at h
      · rename_i s₀' e2
        split at h
        · rename_i s₁' e3
          cases h
          refine ⟨?_, ?_⟩
          · unfold fencedOpening
            have := importT_spec e
            rw [startT_abs] at this
            rw [this]
            show fenceModules? p s.abs = _
            unfold fenceModules?
            rw [fenceAllT_spec e2]
            show (if p.main.body.any namesNumpy = true then _ else _) = _
            rw [hn]; rfl
          · have := topT_spec e3
            have hz : s₀.abs.heap.objs.size = s₀.n := absHeap_size ..
            rw [hz]; exact this
        · cases h
      · cases h
  · cases h
end Mine
namespace Mine
open PySem PySem.W
noncomputable abbrev pw : Program := PySem.Challenge.pw_io0001_04
noncomputable def stm (b : List Stmt) (i : Nat) : Stmt := b.getD i (.Pass default)
noncomputable def sBody : Stmt → List Stmt
  | .FunctionDef _ _ b .. => b
  | .ClassDef _ _ _ b .. => b
  | _ => []
noncomputable def sArgs : Stmt → Arguments
  | .FunctionDef _ a .. => a
  | _ => default
noncomputable def sScope : Stmt → Scope
  | .FunctionDef _ _ _ _ _ _ s .. => s
  | _ => default
noncomputable def de (P : Params) (s : Str) (t : Nat) (v : Value) : DictEntry := ⟨PyData.keyHash P s, .str s t, v⟩
noncomputable def z0 : Str := ⟨⟨[95, 95, 110, 97, 109, 101, 95, 95]⟩⟩
noncomputable def z1 : Str := ⟨⟨[98, 117, 105, 108, 116, 105, 110, 115]⟩⟩
noncomputable def z2 : Str := ⟨⟨[95, 95, 100, 111, 99, 95, 95]⟩⟩
noncomputable def z3 : Str := ⟨⟨[95, 95, 112, 97, 99, 107, 97, 103, 101, 95, 95]⟩⟩
noncomputable def z4 : Str := ⟨⟨[95, 95, 108, 111, 97, 100, 101, 114, 95, 95]⟩⟩
noncomputable def z5 : Str := ⟨⟨[95, 95, 115, 112, 101, 99, 95, 95]⟩⟩
noncomputable def z6 : Str := ⟨⟨[95, 95, 98, 117, 105, 108, 100, 95, 99, 108, 97, 115, 115, 95, 95]⟩⟩
noncomputable def z7 : Str := ⟨⟨[95, 95, 105, 109, 112, 111, 114, 116, 95, 95]⟩⟩
noncomputable def z8 : Str := ⟨⟨[97, 98, 115]⟩⟩
noncomputable def z9 : Str := ⟨⟨[97, 108, 108]⟩⟩
noncomputable def z10 : Str := ⟨⟨[97, 110, 121]⟩⟩
noncomputable def z11 : Str := ⟨⟨[97, 115, 99, 105, 105]⟩⟩
noncomputable def z12 : Str := ⟨⟨[98, 105, 110]⟩⟩
noncomputable def z13 : Str := ⟨⟨[98, 114, 101, 97, 107, 112, 111, 105, 110, 116]⟩⟩
noncomputable def z14 : Str := ⟨⟨[99, 97, 108, 108, 97, 98, 108, 101]⟩⟩
noncomputable def z15 : Str := ⟨⟨[99, 104, 114]⟩⟩
noncomputable def z16 : Str := ⟨⟨[99, 111, 109, 112, 105, 108, 101]⟩⟩
noncomputable def z17 : Str := ⟨⟨[100, 101, 108, 97, 116, 116, 114]⟩⟩
noncomputable def z18 : Str := ⟨⟨[100, 105, 114]⟩⟩
noncomputable def z19 : Str := ⟨⟨[100, 105, 118, 109, 111, 100]⟩⟩
noncomputable def z20 : Str := ⟨⟨[101, 118, 97, 108]⟩⟩
noncomputable def z21 : Str := ⟨⟨[101, 120, 101, 99]⟩⟩
noncomputable def z22 : Str := ⟨⟨[102, 111, 114, 109, 97, 116]⟩⟩
noncomputable def z23 : Str := ⟨⟨[103, 101, 116, 97, 116, 116, 114]⟩⟩
noncomputable def z24 : Str := ⟨⟨[103, 108, 111, 98, 97, 108, 115]⟩⟩
noncomputable def z25 : Str := ⟨⟨[104, 97, 115, 97, 116, 116, 114]⟩⟩
noncomputable def z26 : Str := ⟨⟨[104, 97, 115, 104]⟩⟩
noncomputable def z27 : Str := ⟨⟨[104, 101, 120]⟩⟩
noncomputable def z28 : Str := ⟨⟨[105, 100]⟩⟩
noncomputable def z29 : Str := ⟨⟨[105, 110, 112, 117, 116]⟩⟩
noncomputable def z30 : Str := ⟨⟨[105, 115, 105, 110, 115, 116, 97, 110, 99, 101]⟩⟩
noncomputable def z31 : Str := ⟨⟨[105, 115, 115, 117, 98, 99, 108, 97, 115, 115]⟩⟩
noncomputable def z32 : Str := ⟨⟨[105, 116, 101, 114]⟩⟩
noncomputable def z33 : Str := ⟨⟨[97, 105, 116, 101, 114]⟩⟩
noncomputable def z34 : Str := ⟨⟨[108, 101, 110]⟩⟩
noncomputable def z35 : Str := ⟨⟨[108, 111, 99, 97, 108, 115]⟩⟩
noncomputable def z36 : Str := ⟨⟨[109, 97, 120]⟩⟩
noncomputable def z37 : Str := ⟨⟨[109, 105, 110]⟩⟩
noncomputable def z38 : Str := ⟨⟨[110, 101, 120, 116]⟩⟩
noncomputable def z39 : Str := ⟨⟨[97, 110, 101, 120, 116]⟩⟩
noncomputable def z40 : Str := ⟨⟨[111, 99, 116]⟩⟩
noncomputable def z41 : Str := ⟨⟨[111, 114, 100]⟩⟩
noncomputable def z42 : Str := ⟨⟨[112, 111, 119]⟩⟩
noncomputable def z43 : Str := ⟨⟨[112, 114, 105, 110, 116]⟩⟩
noncomputable def z44 : Str := ⟨⟨[114, 101, 112, 114]⟩⟩
noncomputable def z45 : Str := ⟨⟨[114, 111, 117, 110, 100]⟩⟩
noncomputable def z46 : Str := ⟨⟨[115, 101, 116, 97, 116, 116, 114]⟩⟩
noncomputable def z47 : Str := ⟨⟨[115, 111, 114, 116, 101, 100]⟩⟩
noncomputable def z48 : Str := ⟨⟨[115, 117, 109]⟩⟩
noncomputable def z49 : Str := ⟨⟨[118, 97, 114, 115]⟩⟩
noncomputable def z50 : Str := ⟨⟨[78, 111, 110, 101]⟩⟩
noncomputable def z51 : Str := ⟨⟨[69, 108, 108, 105, 112, 115, 105, 115]⟩⟩
noncomputable def z52 : Str := ⟨⟨[78, 111, 116, 73, 109, 112, 108, 101, 109, 101, 110, 116, 101, 100]⟩⟩
noncomputable def z53 : Str := ⟨⟨[70, 97, 108, 115, 101]⟩⟩
noncomputable def z54 : Str := ⟨⟨[84, 114, 117, 101]⟩⟩
noncomputable def z55 : Str := ⟨⟨[98, 111, 111, 108]⟩⟩
noncomputable def z56 : Str := ⟨⟨[109, 101, 109, 111, 114, 121, 118, 105, 101, 119]⟩⟩
noncomputable def z57 : Str := ⟨⟨[98, 121, 116, 101, 97, 114, 114, 97, 121]⟩⟩
noncomputable def z58 : Str := ⟨⟨[98, 121, 116, 101, 115]⟩⟩
noncomputable def z59 : Str := ⟨⟨[99, 108, 97, 115, 115, 109, 101, 116, 104, 111, 100]⟩⟩
noncomputable def z60 : Str := ⟨⟨[99, 111, 109, 112, 108, 101, 120]⟩⟩
noncomputable def z61 : Str := ⟨⟨[100, 105, 99, 116]⟩⟩
noncomputable def z62 : Str := ⟨⟨[101, 110, 117, 109, 101, 114, 97, 116, 101]⟩⟩
noncomputable def z63 : Str := ⟨⟨[102, 105, 108, 116, 101, 114]⟩⟩
noncomputable def z64 : Str := ⟨⟨[102, 108, 111, 97, 116]⟩⟩
noncomputable def z65 : Str := ⟨⟨[102, 114, 111, 122, 101, 110, 115, 101, 116]⟩⟩
noncomputable def z66 : Str := ⟨⟨[112, 114, 111, 112, 101, 114, 116, 121]⟩⟩
noncomputable def z67 : Str := ⟨⟨[105, 110, 116]⟩⟩
noncomputable def z68 : Str := ⟨⟨[108, 105, 115, 116]⟩⟩
noncomputable def z69 : Str := ⟨⟨[109, 97, 112]⟩⟩
noncomputable def z70 : Str := ⟨⟨[111, 98, 106, 101, 99, 116]⟩⟩
noncomputable def z71 : Str := ⟨⟨[114, 97, 110, 103, 101]⟩⟩
noncomputable def z72 : Str := ⟨⟨[114, 101, 118, 101, 114, 115, 101, 100]⟩⟩
noncomputable def z73 : Str := ⟨⟨[115, 101, 116]⟩⟩
noncomputable def z74 : Str := ⟨⟨[115, 108, 105, 99, 101]⟩⟩
noncomputable def z75 : Str := ⟨⟨[115, 116, 97, 116, 105, 99, 109, 101, 116, 104, 111, 100]⟩⟩
noncomputable def z76 : Str := ⟨⟨[115, 116, 114]⟩⟩
noncomputable def z77 : Str := ⟨⟨[115, 117, 112, 101, 114]⟩⟩
noncomputable def z78 : Str := ⟨⟨[116, 117, 112, 108, 101]⟩⟩
noncomputable def z79 : Str := ⟨⟨[116, 121, 112, 101]⟩⟩
noncomputable def z80 : Str := ⟨⟨[122, 105, 112]⟩⟩
noncomputable def z81 : Str := ⟨⟨[95, 95, 100, 101, 98, 117, 103, 95, 95]⟩⟩
noncomputable def z82 : Str := ⟨⟨[66, 97, 115, 101, 69, 120, 99, 101, 112, 116, 105, 111, 110]⟩⟩
noncomputable def z83 : Str := ⟨⟨[66, 97, 115, 101, 69, 120, 99, 101, 112, 116, 105, 111, 110, 71, 114, 111, 117, 112]⟩⟩
noncomputable def z84 : Str := ⟨⟨[69, 120, 99, 101, 112, 116, 105, 111, 110]⟩⟩
noncomputable def z85 : Str := ⟨⟨[71, 101, 110, 101, 114, 97, 116, 111, 114, 69, 120, 105, 116]⟩⟩
noncomputable def z86 : Str := ⟨⟨[75, 101, 121, 98, 111, 97, 114, 100, 73, 110, 116, 101, 114, 114, 117, 112, 116]⟩⟩
noncomputable def z87 : Str := ⟨⟨[83, 121, 115, 116, 101, 109, 69, 120, 105, 116]⟩⟩
noncomputable def z88 : Str := ⟨⟨[65, 114, 105, 116, 104, 109, 101, 116, 105, 99, 69, 114, 114, 111, 114]⟩⟩
noncomputable def z89 : Str := ⟨⟨[65, 115, 115, 101, 114, 116, 105, 111, 110, 69, 114, 114, 111, 114]⟩⟩
noncomputable def z90 : Str := ⟨⟨[65, 116, 116, 114, 105, 98, 117, 116, 101, 69, 114, 114, 111, 114]⟩⟩
noncomputable def z91 : Str := ⟨⟨[66, 117, 102, 102, 101, 114, 69, 114, 114, 111, 114]⟩⟩
noncomputable def z92 : Str := ⟨⟨[69, 79, 70, 69, 114, 114, 111, 114]⟩⟩
noncomputable def z93 : Str := ⟨⟨[73, 109, 112, 111, 114, 116, 69, 114, 114, 111, 114]⟩⟩
noncomputable def z94 : Str := ⟨⟨[76, 111, 111, 107, 117, 112, 69, 114, 114, 111, 114]⟩⟩
noncomputable def z95 : Str := ⟨⟨[77, 101, 109, 111, 114, 121, 69, 114, 114, 111, 114]⟩⟩
noncomputable def z96 : Str := ⟨⟨[78, 97, 109, 101, 69, 114, 114, 111, 114]⟩⟩
noncomputable def z97 : Str := ⟨⟨[79, 83, 69, 114, 114, 111, 114]⟩⟩
noncomputable def z98 : Str := ⟨⟨[82, 101, 102, 101, 114, 101, 110, 99, 101, 69, 114, 114, 111, 114]⟩⟩
noncomputable def z99 : Str := ⟨⟨[82, 117, 110, 116, 105, 109, 101, 69, 114, 114, 111, 114]⟩⟩
noncomputable def z100 : Str := ⟨⟨[83, 116, 111, 112, 65, 115, 121, 110, 99, 73, 116, 101, 114, 97, 116, 105, 111, 110]⟩⟩
noncomputable def z101 : Str := ⟨⟨[83, 116, 111, 112, 73, 116, 101, 114, 97, 116, 105, 111, 110]⟩⟩
noncomputable def z102 : Str := ⟨⟨[83, 121, 110, 116, 97, 120, 69, 114, 114, 111, 114]⟩⟩
noncomputable def z103 : Str := ⟨⟨[83, 121, 115, 116, 101, 109, 69, 114, 114, 111, 114]⟩⟩
noncomputable def z104 : Str := ⟨⟨[84, 121, 112, 101, 69, 114, 114, 111, 114]⟩⟩
noncomputable def z105 : Str := ⟨⟨[86, 97, 108, 117, 101, 69, 114, 114, 111, 114]⟩⟩
noncomputable def z106 : Str := ⟨⟨[87, 97, 114, 110, 105, 110, 103]⟩⟩
noncomputable def z107 : Str := ⟨⟨[70, 108, 111, 97, 116, 105, 110, 103, 80, 111, 105, 110, 116, 69, 114, 114, 111, 114]⟩⟩
noncomputable def z108 : Str := ⟨⟨[79, 118, 101, 114, 102, 108, 111, 119, 69, 114, 114, 111, 114]⟩⟩
noncomputable def z109 : Str := ⟨⟨[90, 101, 114, 111, 68, 105, 118, 105, 115, 105, 111, 110, 69, 114, 114, 111, 114]⟩⟩
noncomputable def z110 : Str := ⟨⟨[66, 121, 116, 101, 115, 87, 97, 114, 110, 105, 110, 103]⟩⟩
noncomputable def z111 : Str := ⟨⟨[68, 101, 112, 114, 101, 99, 97, 116, 105, 111, 110, 87, 97, 114, 110, 105, 110, 103]⟩⟩
noncomputable def z112 : Str := ⟨⟨[69, 110, 99, 111, 100, 105, 110, 103, 87, 97, 114, 110, 105, 110, 103]⟩⟩
noncomputable def z113 : Str := ⟨⟨[70, 117, 116, 117, 114, 101, 87, 97, 114, 110, 105, 110, 103]⟩⟩
noncomputable def z114 : Str := ⟨⟨[73, 109, 112, 111, 114, 116, 87, 97, 114, 110, 105, 110, 103]⟩⟩
noncomputable def z115 : Str := ⟨⟨[80, 101, 110, 100, 105, 110, 103, 68, 101, 112, 114, 101, 99, 97, 116, 105, 111, 110, 87, 97, 114, 110, 105, 110, 103]⟩⟩
noncomputable def z116 : Str := ⟨⟨[82, 101, 115, 111, 117, 114, 99, 101, 87, 97, 114, 110, 105, 110, 103]⟩⟩
noncomputable def z117 : Str := ⟨⟨[82, 117, 110, 116, 105, 109, 101, 87, 97, 114, 110, 105, 110, 103]⟩⟩
noncomputable def z118 : Str := ⟨⟨[83, 121, 110, 116, 97, 120, 87, 97, 114, 110, 105, 110, 103]⟩⟩
noncomputable def z119 : Str := ⟨⟨[85, 110, 105, 99, 111, 100, 101, 87, 97, 114, 110, 105, 110, 103]⟩⟩
noncomputable def z120 : Str := ⟨⟨[85, 115, 101, 114, 87, 97, 114, 110, 105, 110, 103]⟩⟩
noncomputable def z121 : Str := ⟨⟨[66, 108, 111, 99, 107, 105, 110, 103, 73, 79, 69, 114, 114, 111, 114]⟩⟩
noncomputable def z122 : Str := ⟨⟨[67, 104, 105, 108, 100, 80, 114, 111, 99, 101, 115, 115, 69, 114, 114, 111, 114]⟩⟩
noncomputable def z123 : Str := ⟨⟨[67, 111, 110, 110, 101, 99, 116, 105, 111, 110, 69, 114, 114, 111, 114]⟩⟩
noncomputable def z124 : Str := ⟨⟨[70, 105, 108, 101, 69, 120, 105, 115, 116, 115, 69, 114, 114, 111, 114]⟩⟩
noncomputable def z125 : Str := ⟨⟨[70, 105, 108, 101, 78, 111, 116, 70, 111, 117, 110, 100, 69, 114, 114, 111, 114]⟩⟩
noncomputable def z126 : Str := ⟨⟨[73, 110, 116, 101, 114, 114, 117, 112, 116, 101, 100, 69, 114, 114, 111, 114]⟩⟩
noncomputable def z127 : Str := ⟨⟨[73, 115, 65, 68, 105, 114, 101, 99, 116, 111, 114, 121, 69, 114, 114, 111, 114]⟩⟩
noncomputable def z128 : Str := ⟨⟨[78, 111, 116, 65, 68, 105, 114, 101, 99, 116, 111, 114, 121, 69, 114, 114, 111, 114]⟩⟩
noncomputable def z129 : Str := ⟨⟨[80, 101, 114, 109, 105, 115, 115, 105, 111, 110, 69, 114, 114, 111, 114]⟩⟩
noncomputable def z130 : Str := ⟨⟨[80, 114, 111, 99, 101, 115, 115, 76, 111, 111, 107, 117, 112, 69, 114, 114, 111, 114]⟩⟩
noncomputable def z131 : Str := ⟨⟨[84, 105, 109, 101, 111, 117, 116, 69, 114, 114, 111, 114]⟩⟩
noncomputable def z132 : Str := ⟨⟨[73, 110, 100, 101, 110, 116, 97, 116, 105, 111, 110, 69, 114, 114, 111, 114]⟩⟩
noncomputable def z133 : Str := ⟨⟨[95, 73, 110, 99, 111, 109, 112, 108, 101, 116, 101, 73, 110, 112, 117, 116, 69, 114, 114, 111, 114]⟩⟩
noncomputable def z134 : Str := ⟨⟨[73, 110, 100, 101, 120, 69, 114, 114, 111, 114]⟩⟩
noncomputable def z135 : Str := ⟨⟨[75, 101, 121, 69, 114, 114, 111, 114]⟩⟩
noncomputable def z136 : Str := ⟨⟨[77, 111, 100, 117, 108, 101, 78, 111, 116, 70, 111, 117, 110, 100, 69, 114, 114, 111, 114]⟩⟩
noncomputable def z137 : Str := ⟨⟨[78, 111, 116, 73, 109, 112, 108, 101, 109, 101, 110, 116, 101, 100, 69, 114, 114, 111, 114]⟩⟩
noncomputable def z138 : Str := ⟨⟨[80, 121, 116, 104, 111, 110, 70, 105, 110, 97, 108, 105, 122, 97, 116, 105, 111, 110, 69, 114, 114, 111, 114]⟩⟩
noncomputable def z139 : Str := ⟨⟨[82, 101, 99, 117, 114, 115, 105, 111, 110, 69, 114, 114, 111, 114]⟩⟩
noncomputable def z140 : Str := ⟨⟨[85, 110, 98, 111, 117, 110, 100, 76, 111, 99, 97, 108, 69, 114, 114, 111, 114]⟩⟩
noncomputable def z141 : Str := ⟨⟨[85, 110, 105, 99, 111, 100, 101, 69, 114, 114, 111, 114]⟩⟩
noncomputable def z142 : Str := ⟨⟨[66, 114, 111, 107, 101, 110, 80, 105, 112, 101, 69, 114, 114, 111, 114]⟩⟩
noncomputable def z143 : Str := ⟨⟨[67, 111, 110, 110, 101, 99, 116, 105, 111, 110, 65, 98, 111, 114, 116, 101, 100, 69, 114, 114, 111, 114]⟩⟩
noncomputable def z144 : Str := ⟨⟨[67, 111, 110, 110, 101, 99, 116, 105, 111, 110, 82, 101, 102, 117, 115, 101, 100, 69, 114, 114, 111, 114]⟩⟩
noncomputable def z145 : Str := ⟨⟨[67, 111, 110, 110, 101, 99, 116, 105, 111, 110, 82, 101, 115, 101, 116, 69, 114, 114, 111, 114]⟩⟩
noncomputable def z146 : Str := ⟨⟨[84, 97, 98, 69, 114, 114, 111, 114]⟩⟩
noncomputable def z147 : Str := ⟨⟨[85, 110, 105, 99, 111, 100, 101, 68, 101, 99, 111, 100, 101, 69, 114, 114, 111, 114]⟩⟩
noncomputable def z148 : Str := ⟨⟨[85, 110, 105, 99, 111, 100, 101, 69, 110, 99, 111, 100, 101, 69, 114, 114, 111, 114]⟩⟩
noncomputable def z149 : Str := ⟨⟨[85, 110, 105, 99, 111, 100, 101, 84, 114, 97, 110, 115, 108, 97, 116, 101, 69, 114, 114, 111, 114]⟩⟩
noncomputable def z150 : Str := ⟨⟨[69, 120, 99, 101, 112, 116, 105, 111, 110, 71, 114, 111, 117, 112]⟩⟩
noncomputable def z151 : Str := ⟨⟨[69, 110, 118, 105, 114, 111, 110, 109, 101, 110, 116, 69, 114, 114, 111, 114]⟩⟩
noncomputable def z152 : Str := ⟨⟨[73, 79, 69, 114, 114, 111, 114]⟩⟩
noncomputable def z153 : Str := ⟨⟨[111, 112, 101, 110]⟩⟩
noncomputable def z154 : Str := ⟨⟨[113, 117, 105, 116]⟩⟩
noncomputable def z155 : Str := ⟨⟨[101, 120, 105, 116]⟩⟩
noncomputable def z156 : Str := ⟨⟨[99, 111, 112, 121, 114, 105, 103, 104, 116]⟩⟩
noncomputable def z157 : Str := ⟨⟨[99, 114, 101, 100, 105, 116, 115]⟩⟩
noncomputable def z158 : Str := ⟨⟨[108, 105, 99, 101, 110, 115, 101]⟩⟩
noncomputable def z159 : Str := ⟨⟨[104, 101, 108, 112]⟩⟩
noncomputable def z160 : Str := ⟨⟨[105, 109, 112, 111, 114, 116, 46, 108, 111, 97, 100, 101, 100, 46, 95, 99, 111, 108, 108, 101, 99, 116, 105, 111, 110, 115]⟩⟩
noncomputable def z161 : Str := ⟨⟨[99, 108, 97, 115, 115, 46, 95, 102, 114, 111, 122, 101, 110, 95, 105, 109, 112, 111, 114, 116, 108, 105, 98, 46, 66, 117, 105, 108, 116, 105, 110, 73, 109, 112, 111, 114, 116, 101, 114]⟩⟩
noncomputable def z162 : Str := ⟨⟨[119, 97, 116, 99, 104, 101, 100, 46, 105, 109, 112, 111, 114, 116]⟩⟩
noncomputable def z163 : Str := ⟨⟨[99, 108, 97, 115, 115, 46, 95, 102, 114, 111, 122, 101, 110, 95, 105, 109, 112, 111, 114, 116, 108, 105, 98, 46, 77, 111, 100, 117, 108, 101, 83, 112, 101, 99]⟩⟩
noncomputable def z164 : Str := ⟨⟨[115, 121, 115, 46, 109, 111, 100, 117, 108, 101, 115, 46, 98, 111, 111, 107, 101, 100, 45, 101, 112, 111, 99, 104]⟩⟩
noncomputable def z165 : Str := ⟨⟨[115, 121, 115, 46, 109, 111, 100, 117, 108, 101, 115, 46, 108, 97, 110, 100, 101, 100, 46, 95, 99, 111, 108, 108, 101, 99, 116, 105, 111, 110, 115]⟩⟩
noncomputable def z166 : Str := ⟨⟨[105, 109, 112, 111, 114, 116, 46, 108, 97, 116, 101, 114, 45, 108, 97, 105, 100, 46, 95, 99, 111, 108, 108, 101, 99, 116, 105, 111, 110, 115]⟩⟩
noncomputable def z167 : Str := ⟨⟨[119, 97, 116, 99, 104, 101, 100, 46, 108, 105, 98, 114, 97, 114, 121]⟩⟩
noncomputable def z168 : Str := ⟨⟨[119, 97, 116, 99, 104, 101, 100, 46, 108, 105, 98, 114, 97, 114, 121, 45, 111, 98, 106, 101, 99, 116, 115]⟩⟩
noncomputable def z169 : Str := ⟨⟨[13, 31]⟩⟩
noncomputable def z170 : Str := ⟨⟨[119, 97, 116, 99, 104, 101, 100, 46, 108, 105, 98, 114, 97, 114, 121, 45, 100, 101, 101, 112, 46, 95, 99, 111, 108, 108, 101, 99, 116, 105, 111, 110, 115]⟩⟩
noncomputable def z171 : Str := ⟨⟨[4, 0, 0, 12, 4, 0, 0, 12, 4, 0, 0, 3, 4, 0, 0, 12, 8, 4, 100, 105, 99, 116, 2]⟩⟩
noncomputable def z172 : Str := ⟨⟨[105, 109, 112, 111, 114, 116, 46, 108, 111, 97, 100, 101, 100, 46, 95, 104, 101, 97, 112, 113]⟩⟩
noncomputable def z173 : Str := ⟨⟨[99, 108, 97, 115, 115, 46, 95, 102, 114, 111, 122, 101, 110, 95, 105, 109, 112, 111, 114, 116, 108, 105, 98, 95, 101, 120, 116, 101, 114, 110, 97, 108, 46, 95, 76, 111, 97, 100, 101, 114, 66, 97, 115, 105, 99, 115]⟩⟩
noncomputable def z174 : Str := ⟨⟨[99, 108, 97, 115, 115, 46, 95, 102, 114, 111, 122, 101, 110, 95, 105, 109, 112, 111, 114, 116, 108, 105, 98, 95, 101, 120, 116, 101, 114, 110, 97, 108, 46, 70, 105, 108, 101, 76, 111, 97, 100, 101, 114]⟩⟩
noncomputable def z175 : Str := ⟨⟨[99, 108, 97, 115, 115, 46, 95, 102, 114, 111, 122, 101, 110, 95, 105, 109, 112, 111, 114, 116, 108, 105, 98, 95, 101, 120, 116, 101, 114, 110, 97, 108, 46, 69, 120, 116, 101, 110, 115, 105, 111, 110, 70, 105, 108, 101, 76, 111, 97, 100, 101, 114]⟩⟩
noncomputable def z176 : Str := ⟨⟨[105, 109, 112, 111, 114, 116, 46, 108, 97, 116, 101, 114, 45, 108, 97, 105, 100, 46, 95, 104, 101, 97, 112, 113]⟩⟩
noncomputable def z177 : Str := ⟨⟨[108, 97, 119, 95, 105, 111, 48, 48, 48, 49, 95, 48, 52]⟩⟩
noncomputable def z178 : Str := ⟨⟨[95, 95, 97, 110, 110, 111, 116, 97, 116, 105, 111, 110, 115, 95, 95]⟩⟩
noncomputable def z179 : Str := ⟨⟨[95, 95, 98, 117, 105, 108, 116, 105, 110, 115, 95, 95]⟩⟩
noncomputable def z180 : Str := ⟨⟨[95, 95, 102, 105, 108, 101, 95, 95]⟩⟩
noncomputable def z181 : Str := ⟨⟨[47, 99, 108, 97, 105, 109, 47, 99, 117, 116, 46, 112, 121]⟩⟩
noncomputable def z182 : Str := ⟨⟨[95, 95, 99, 97, 99, 104, 101, 100, 95, 95]⟩⟩
noncomputable def z183 : Str := ⟨⟨[100, 101, 113, 117, 101]⟩⟩
noncomputable def z184 : Str := ⟨⟨[104, 101, 97, 112, 105, 102, 121]⟩⟩
noncomputable def z185 : Str := ⟨⟨[104, 101, 97, 112, 114, 101, 112, 108, 97, 99, 101]⟩⟩
noncomputable def z186 : Str := ⟨⟨[95, 119, 97, 108, 108]⟩⟩
noncomputable def z187 : Str := ⟨⟨[95, 99, 111, 117, 110, 116, 95, 101, 108, 101, 109, 101, 110, 116, 115]⟩⟩
noncomputable def z188 : Str := ⟨⟨[65, 66, 67, 77, 101, 116, 97]⟩⟩
noncomputable def z189 : Str := ⟨⟨[95, 65, 66, 67, 76, 105, 107, 101]⟩⟩
noncomputable def z190 : Str := ⟨⟨[95, 97, 98, 99, 95, 112, 108, 97, 105, 110, 95, 109, 101, 116, 97]⟩⟩
noncomputable def z191 : Str := ⟨⟨[95, 97, 98, 99, 95, 104, 97, 115, 95, 105, 116, 101, 114]⟩⟩
noncomputable def z192 : Str := ⟨⟨[95, 97, 98, 99, 95, 104, 97, 115, 95, 108, 101, 110]⟩⟩
noncomputable def z193 : Str := ⟨⟨[95, 97, 98, 99, 95, 104, 97, 115, 95, 99, 111, 110, 116, 97, 105, 110, 115]⟩⟩
noncomputable def z194 : Str := ⟨⟨[95, 97, 98, 99, 95, 105, 115, 95, 109, 97, 112, 112, 105, 110, 103, 112, 114, 111, 120, 121]⟩⟩
noncomputable def z195 : Str := ⟨⟨[95, 97, 98, 99, 95, 105, 115, 95, 98, 117, 105, 108, 116, 105, 110, 95, 99, 111, 108, 108, 101, 99, 116, 105, 111, 110]⟩⟩
noncomputable def z196 : Str := ⟨⟨[73, 116, 101, 114, 97, 98, 108, 101]⟩⟩
noncomputable def z197 : Str := ⟨⟨[83, 105, 122, 101, 100]⟩⟩
noncomputable def z198 : Str := ⟨⟨[67, 111, 110, 116, 97, 105, 110, 101, 114]⟩⟩
noncomputable def z199 : Str := ⟨⟨[67, 111, 108, 108, 101, 99, 116, 105, 111, 110]⟩⟩
noncomputable def z200 : Str := ⟨⟨[83, 101, 116]⟩⟩
noncomputable def z201 : Str := ⟨⟨[77, 97, 112, 112, 105, 110, 103]⟩⟩
noncomputable def z202 : Str := ⟨⟨[77, 97, 112, 112, 105, 110, 103, 86, 105, 101, 119]⟩⟩
noncomputable def z203 : Str := ⟨⟨[75, 101, 121, 115, 86, 105, 101, 119]⟩⟩
noncomputable def z204 : Str := ⟨⟨[73, 116, 101, 109, 115, 86, 105, 101, 119]⟩⟩
noncomputable def z205 : Str := ⟨⟨[86, 97, 108, 117, 101, 115, 86, 105, 101, 119]⟩⟩
noncomputable def z206 : Str := ⟨⟨[110, 108, 97, 114, 103, 101, 115, 116]⟩⟩
noncomputable def z207 : Str := ⟨⟨[95, 105, 115, 95, 105, 110, 116]⟩⟩
noncomputable def z208 : Str := ⟨⟨[95, 119, 104, 111, 108, 101]⟩⟩
noncomputable def z209 : Str := ⟨⟨[95, 112, 117, 108, 108]⟩⟩
noncomputable def z210 : Str := ⟨⟨[95, 78, 111, 116, 71, 105, 118, 101, 110]⟩⟩
noncomputable def z211 : Str := ⟨⟨[99, 104, 97, 105, 110]⟩⟩
noncomputable def z212 : Str := ⟨⟨[114, 101, 112, 101, 97, 116]⟩⟩
noncomputable def z213 : Str := ⟨⟨[115, 116, 97, 114, 109, 97, 112]⟩⟩
noncomputable def z214 : Str := ⟨⟨[105, 116, 101, 109, 103, 101, 116, 116, 101, 114]⟩⟩
noncomputable def z215 : Str := ⟨⟨[67, 111, 117, 110, 116, 101, 114]⟩⟩
noncomputable def z216 : Str := ⟨⟨[95, 108, 97, 119, 95, 119, 105, 116, 104]⟩⟩
noncomputable def z217 : Str := ⟨⟨[95, 108, 97, 119, 95, 119, 105, 116, 104, 111, 117, 116]⟩⟩
noncomputable def z218 : Str := ⟨⟨[108, 97, 119]⟩⟩
noncomputable def z219 : Str := ⟨⟨[95, 95, 109, 111, 100, 117, 108, 101, 95, 95]⟩⟩
noncomputable def z220 : Str := ⟨⟨[97, 98, 99]⟩⟩
noncomputable def z221 : Str := ⟨⟨[95, 95, 102, 105, 114, 115, 116, 108, 105, 110, 101, 110, 111, 95, 95]⟩⟩
noncomputable def z222 : Str := ⟨⟨[114, 101, 103, 105, 115, 116, 101, 114]⟩⟩
noncomputable def z223 : Str := ⟨⟨[95, 95, 115, 116, 97, 116, 105, 99, 95, 97, 116, 116, 114, 105, 98, 117, 116, 101, 115, 95, 95]⟩⟩
noncomputable def z224 : Str := ⟨⟨[95, 95, 105, 110, 115, 116, 97, 110, 99, 101, 99, 104, 101, 99, 107, 95, 95]⟩⟩
noncomputable def z225 : Str := ⟨⟨[95, 65, 66, 67, 76, 105, 107, 101, 46, 95, 95, 105, 110, 115, 116, 97, 110, 99, 101, 99, 104, 101, 99, 107, 95, 95]⟩⟩
noncomputable def z226 : Str := ⟨⟨[99, 111, 108, 108, 101, 99, 116, 105, 111, 110, 115, 46, 97, 98, 99]⟩⟩
noncomputable def z227 : Str := ⟨⟨[95, 95, 115, 117, 98, 99, 108, 97, 115, 115, 99, 104, 101, 99, 107, 95, 95]⟩⟩
noncomputable def z228 : Str := ⟨⟨[95, 97, 98, 99, 95, 107, 105, 110, 100]⟩⟩
noncomputable def z229 : Str := ⟨⟨[77, 97, 112, 112, 105, 110, 103, 46, 95, 97, 98, 99, 95, 107, 105, 110, 100]⟩⟩
noncomputable def z230 : Str := ⟨⟨[95, 95, 115, 108, 111, 116, 115, 95, 95]⟩⟩
noncomputable def z231 : Str := ⟨⟨[95, 95, 103, 101, 116, 105, 116, 101, 109, 95, 95]⟩⟩
noncomputable def z232 : Str := ⟨⟨[103, 101, 116]⟩⟩
noncomputable def z233 : Str := ⟨⟨[95, 95, 99, 111, 110, 116, 97, 105, 110, 115, 95, 95]⟩⟩
noncomputable def z234 : Str := ⟨⟨[107, 101, 121, 115]⟩⟩
noncomputable def z235 : Str := ⟨⟨[105, 116, 101, 109, 115]⟩⟩
noncomputable def z236 : Str := ⟨⟨[118, 97, 108, 117, 101, 115]⟩⟩
noncomputable def z237 : Str := ⟨⟨[95, 95, 101, 113, 95, 95]⟩⟩
noncomputable def z238 : Str := ⟨⟨[95, 95, 114, 101, 118, 101, 114, 115, 101, 100, 95, 95]⟩⟩
noncomputable def z239 : Str := ⟨⟨[95, 95, 104, 97, 115, 104, 95, 95]⟩⟩
noncomputable def z240 : Str := ⟨⟨[95, 95, 97, 98, 115, 116, 114, 97, 99, 116, 109, 101, 116, 104, 111, 100, 115, 95, 95]⟩⟩
noncomputable def z241 : Str := ⟨⟨[95, 95, 105, 110, 105, 116, 95, 95]⟩⟩
noncomputable def z242 : Str := ⟨⟨[67, 111, 117, 110, 116, 101, 114, 46, 95, 95, 105, 110, 105, 116, 95, 95]⟩⟩
noncomputable def z243 : Str := ⟨⟨[95, 95, 99, 108, 97, 115, 115, 95, 95]⟩⟩
noncomputable def z244 : Str := ⟨⟨[99, 112, 121, 51, 49, 51, 46, 99, 111, 108, 108, 101, 99, 116, 105, 111, 110, 115]⟩⟩
noncomputable def z245 : Str := ⟨⟨[95, 95, 109, 105, 115, 115, 105, 110, 103, 95, 95]⟩⟩
noncomputable def z246 : Str := ⟨⟨[67, 111, 117, 110, 116, 101, 114, 46, 95, 95, 109, 105, 115, 115, 105, 110, 103, 95, 95]⟩⟩
noncomputable def z247 : Str := ⟨⟨[102, 114, 111, 109, 107, 101, 121, 115]⟩⟩
noncomputable def z248 : Str := ⟨⟨[67, 111, 117, 110, 116, 101, 114, 46, 102, 114, 111, 109, 107, 101, 121, 115]⟩⟩
noncomputable def z249 : Str := ⟨⟨[117, 112, 100, 97, 116, 101]⟩⟩
noncomputable def z250 : Str := ⟨⟨[67, 111, 117, 110, 116, 101, 114, 46, 117, 112, 100, 97, 116, 101]⟩⟩
noncomputable def z251 : Str := ⟨⟨[99, 111, 112, 121]⟩⟩
noncomputable def z252 : Str := ⟨⟨[67, 111, 117, 110, 116, 101, 114, 46, 99, 111, 112, 121]⟩⟩
noncomputable def z253 : Str := ⟨⟨[95, 95, 100, 101, 108, 105, 116, 101, 109, 95, 95]⟩⟩
noncomputable def z254 : Str := ⟨⟨[67, 111, 117, 110, 116, 101, 114, 46, 95, 95, 100, 101, 108, 105, 116, 101, 109, 95, 95]⟩⟩
noncomputable def z255 : Str := ⟨⟨[116, 111, 116, 97, 108]⟩⟩
noncomputable def z256 : Str := ⟨⟨[109, 111, 115, 116, 95, 99, 111, 109, 109, 111, 110]⟩⟩
noncomputable def z257 : Str := ⟨⟨[101, 108, 101, 109, 101, 110, 116, 115]⟩⟩
noncomputable def z258 : Str := ⟨⟨[115, 117, 98, 116, 114, 97, 99, 116]⟩⟩
noncomputable def z259 : Str := ⟨⟨[95, 95, 114, 101, 100, 117, 99, 101, 95, 95]⟩⟩
noncomputable def z260 : Str := ⟨⟨[95, 95, 114, 101, 112, 114, 95, 95]⟩⟩
noncomputable def z261 : Str := ⟨⟨[95, 95, 110, 101, 95, 95]⟩⟩
noncomputable def z262 : Str := ⟨⟨[95, 95, 108, 101, 95, 95]⟩⟩
noncomputable def z263 : Str := ⟨⟨[95, 95, 108, 116, 95, 95]⟩⟩
noncomputable def z264 : Str := ⟨⟨[95, 95, 103, 101, 95, 95]⟩⟩
noncomputable def z265 : Str := ⟨⟨[95, 95, 103, 116, 95, 95]⟩⟩
noncomputable def z266 : Str := ⟨⟨[95, 95, 97, 100, 100, 95, 95]⟩⟩
noncomputable def z267 : Str := ⟨⟨[95, 95, 115, 117, 98, 95, 95]⟩⟩
noncomputable def z268 : Str := ⟨⟨[95, 95, 111, 114, 95, 95]⟩⟩
noncomputable def z269 : Str := ⟨⟨[95, 95, 97, 110, 100, 95, 95]⟩⟩
noncomputable def z270 : Str := ⟨⟨[95, 95, 112, 111, 115, 95, 95]⟩⟩
noncomputable def z271 : Str := ⟨⟨[95, 95, 110, 101, 103, 95, 95]⟩⟩
noncomputable def z272 : Str := ⟨⟨[95, 107, 101, 101, 112, 95, 112, 111, 115, 105, 116, 105, 118, 101]⟩⟩
noncomputable def z273 : Str := ⟨⟨[95, 95, 105, 97, 100, 100, 95, 95]⟩⟩
noncomputable def z274 : Str := ⟨⟨[95, 95, 105, 115, 117, 98, 95, 95]⟩⟩
noncomputable def z275 : Str := ⟨⟨[95, 95, 105, 111, 114, 95, 95]⟩⟩
noncomputable def z276 : Str := ⟨⟨[95, 95, 105, 97, 110, 100, 95, 95]⟩⟩
noncomputable def z277 : Str := ⟨⟨[95, 95, 100, 105, 99, 116, 95, 95]⟩⟩
noncomputable def z278 : Str := ⟨⟨[95, 95, 119, 101, 97, 107, 114, 101, 102, 95, 95]⟩⟩
noncomputable def y0 : String := "dict"
noncomputable def y1 : String := "builtins.__doc__:str#opaque"
noncomputable def y2 : String := "builtins.__package__:str#opaque"
noncomputable def y3 : String := "builtins.__loader__:shared#opaque"
noncomputable def y4 : String := "builtins.__spec__#opaque"
noncomputable def y5 : String := "__build_class__"
noncomputable def y6 : String := "__import__"
noncomputable def y7 : String := "abs"
noncomputable def y8 : String := "all"
noncomputable def y9 : String := "any"
noncomputable def y10 : String := "ascii"
noncomputable def y11 : String := "bin"
noncomputable def y12 : String := "breakpoint"
noncomputable def y13 : String := "callable"
noncomputable def y14 : String := "chr"
noncomputable def y15 : String := "compile"
noncomputable def y16 : String := "delattr"
noncomputable def y17 : String := "dir"
noncomputable def y18 : String := "divmod"
noncomputable def y19 : String := "eval"
noncomputable def y20 : String := "exec"
noncomputable def y21 : String := "format"
noncomputable def y22 : String := "getattr"
noncomputable def y23 : String := "globals"
noncomputable def y24 : String := "hasattr"
noncomputable def y25 : String := "hash"
noncomputable def y26 : String := "hex"
noncomputable def y27 : String := "id"
noncomputable def y28 : String := "input"
noncomputable def y29 : String := "isinstance"
noncomputable def y30 : String := "issubclass"
noncomputable def y31 : String := "iter"
noncomputable def y32 : String := "aiter"
noncomputable def y33 : String := "len"
noncomputable def y34 : String := "locals"
noncomputable def y35 : String := "max"
noncomputable def y36 : String := "min"
noncomputable def y37 : String := "next"
noncomputable def y38 : String := "anext"
noncomputable def y39 : String := "oct"
noncomputable def y40 : String := "ord"
noncomputable def y41 : String := "pow"
noncomputable def y42 : String := "print"
noncomputable def y43 : String := "repr"
noncomputable def y44 : String := "round"
noncomputable def y45 : String := "setattr"
noncomputable def y46 : String := "sorted"
noncomputable def y47 : String := "sum"
noncomputable def y48 : String := "vars"
noncomputable def y49 : String := "bool"
noncomputable def y50 : String := "memoryview"
noncomputable def y51 : String := "bytearray"
noncomputable def y52 : String := "bytes"
noncomputable def y53 : String := "classmethod"
noncomputable def y54 : String := "complex"
noncomputable def y55 : String := "enumerate"
noncomputable def y56 : String := "filter"
noncomputable def y57 : String := "float"
noncomputable def y58 : String := "frozenset"
noncomputable def y59 : String := "property"
noncomputable def y60 : String := "int"
noncomputable def y61 : String := "list"
noncomputable def y62 : String := "map"
noncomputable def y63 : String := "object"
noncomputable def y64 : String := "range"
noncomputable def y65 : String := "reversed"
noncomputable def y66 : String := "set"
noncomputable def y67 : String := "slice"
noncomputable def y68 : String := "staticmethod"
noncomputable def y69 : String := "str"
noncomputable def y70 : String := "super"
noncomputable def y71 : String := "tuple"
noncomputable def y72 : String := "type"
noncomputable def y73 : String := "zip"
noncomputable def y74 : String := "BaseException"
noncomputable def y75 : String := "BaseExceptionGroup"
noncomputable def y76 : String := "Exception"
noncomputable def y77 : String := "GeneratorExit"
noncomputable def y78 : String := "KeyboardInterrupt"
noncomputable def y79 : String := "SystemExit"
noncomputable def y80 : String := "ArithmeticError"
noncomputable def y81 : String := "AssertionError"
noncomputable def y82 : String := "AttributeError"
noncomputable def y83 : String := "BufferError"
noncomputable def y84 : String := "EOFError"
noncomputable def y85 : String := "ImportError"
noncomputable def y86 : String := "LookupError"
noncomputable def y87 : String := "MemoryError"
noncomputable def y88 : String := "NameError"
noncomputable def y89 : String := "OSError"
noncomputable def y90 : String := "ReferenceError"
noncomputable def y91 : String := "RuntimeError"
noncomputable def y92 : String := "StopAsyncIteration"
noncomputable def y93 : String := "StopIteration"
noncomputable def y94 : String := "SyntaxError"
noncomputable def y95 : String := "SystemError"
noncomputable def y96 : String := "TypeError"
noncomputable def y97 : String := "ValueError"
noncomputable def y98 : String := "Warning"
noncomputable def y99 : String := "FloatingPointError"
noncomputable def y100 : String := "OverflowError"
noncomputable def y101 : String := "ZeroDivisionError"
noncomputable def y102 : String := "BytesWarning"
noncomputable def y103 : String := "DeprecationWarning"
noncomputable def y104 : String := "EncodingWarning"
noncomputable def y105 : String := "FutureWarning"
noncomputable def y106 : String := "ImportWarning"
noncomputable def y107 : String := "PendingDeprecationWarning"
noncomputable def y108 : String := "ResourceWarning"
noncomputable def y109 : String := "RuntimeWarning"
noncomputable def y110 : String := "SyntaxWarning"
noncomputable def y111 : String := "UnicodeWarning"
noncomputable def y112 : String := "UserWarning"
noncomputable def y113 : String := "BlockingIOError"
noncomputable def y114 : String := "ChildProcessError"
noncomputable def y115 : String := "ConnectionError"
noncomputable def y116 : String := "FileExistsError"
noncomputable def y117 : String := "FileNotFoundError"
noncomputable def y118 : String := "InterruptedError"
noncomputable def y119 : String := "IsADirectoryError"
noncomputable def y120 : String := "NotADirectoryError"
noncomputable def y121 : String := "PermissionError"
noncomputable def y122 : String := "ProcessLookupError"
noncomputable def y123 : String := "TimeoutError"
noncomputable def y124 : String := "IndentationError"
noncomputable def y125 : String := "_IncompleteInputError"
noncomputable def y126 : String := "IndexError"
noncomputable def y127 : String := "KeyError"
noncomputable def y128 : String := "ModuleNotFoundError"
noncomputable def y129 : String := "NotImplementedError"
noncomputable def y130 : String := "PythonFinalizationError"
noncomputable def y131 : String := "RecursionError"
noncomputable def y132 : String := "UnboundLocalError"
noncomputable def y133 : String := "UnicodeError"
noncomputable def y134 : String := "BrokenPipeError"
noncomputable def y135 : String := "ConnectionAbortedError"
noncomputable def y136 : String := "ConnectionRefusedError"
noncomputable def y137 : String := "ConnectionResetError"
noncomputable def y138 : String := "TabError"
noncomputable def y139 : String := "UnicodeDecodeError"
noncomputable def y140 : String := "UnicodeEncodeError"
noncomputable def y141 : String := "UnicodeTranslateError"
noncomputable def y142 : String := "ExceptionGroup"
noncomputable def y143 : String := "open"
noncomputable def y144 : String := "builtins.quit#opaque"
noncomputable def y145 : String := "builtins.exit#opaque"
noncomputable def y146 : String := "builtins.copyright#opaque"
noncomputable def y147 : String := "builtins.credits#opaque"
noncomputable def y148 : String := "builtins.license#opaque"
noncomputable def y149 : String := "builtins.help#opaque"
noncomputable def y150 : String := "__main__.__loader__#opaque"
noncomputable def y151 : String := "collections.deque"
noncomputable def y152 : String := "_heapq.heapify"
noncomputable def y153 : String := "_heapq.heapreplace"
noncomputable def y154 : String := "module"
noncomputable def y155 : String := "type.__new__"
noncomputable def y156 : String := "code"
noncomputable def y157 : String := "function"
noncomputable def y158 : String := "object.__new__"
noncomputable def y159 : String := "cell"
noncomputable def y160 : String := "dict.__new__"
noncomputable def k0c22 (P : Params) : List DictEntry := de P z155 155 (.builtin y145) :: de P z156 156 (.builtin y146) :: de P z157 157 (.builtin y147) :: de P z158 158 (.builtin y148) :: de P z159 159 (.builtin y149) :: []
noncomputable def k0c21 (P : Params) : List DictEntry := de P z148 148 (.type y140) :: de P z149 149 (.type y141) :: de P z150 150 (.type y142) :: de P z151 151 (.type y89) :: de P z152 152 (.type y89) :: de P z153 153 (.builtin y143) :: de P z154 154 (.builtin y144) :: k0c22 P
noncomputable def k0c20 (P : Params) : List DictEntry := de P z141 141 (.type y133) :: de P z142 142 (.type y134) :: de P z143 143 (.type y135) :: de P z144 144 (.type y136) :: de P z145 145 (.type y137) :: de P z146 146 (.type y138) :: de P z147 147 (.type y139) :: k0c21 P
noncomputable def k0c19 (P : Params) : List DictEntry := de P z134 134 (.type y126) :: de P z135 135 (.type y127) :: de P z136 136 (.type y128) :: de P z137 137 (.type y129) :: de P z138 138 (.type y130) :: de P z139 139 (.type y131) :: de P z140 140 (.type y132) :: k0c20 P
noncomputable def k0c18 (P : Params) : List DictEntry := de P z127 127 (.type y119) :: de P z128 128 (.type y120) :: de P z129 129 (.type y121) :: de P z130 130 (.type y122) :: de P z131 131 (.type y123) :: de P z132 132 (.type y124) :: de P z133 133 (.type y125) :: k0c19 P
noncomputable def k0c17 (P : Params) : List DictEntry := de P z120 120 (.type y112) :: de P z121 121 (.type y113) :: de P z122 122 (.type y114) :: de P z123 123 (.type y115) :: de P z124 124 (.type y116) :: de P z125 125 (.type y117) :: de P z126 126 (.type y118) :: k0c18 P
noncomputable def k0c16 (P : Params) : List DictEntry := de P z113 113 (.type y105) :: de P z114 114 (.type y106) :: de P z115 115 (.type y107) :: de P z116 116 (.type y108) :: de P z117 117 (.type y109) :: de P z118 118 (.type y110) :: de P z119 119 (.type y111) :: k0c17 P
noncomputable def k0c15 (P : Params) : List DictEntry := de P z106 106 (.type y98) :: de P z107 107 (.type y99) :: de P z108 108 (.type y100) :: de P z109 109 (.type y101) :: de P z110 110 (.type y102) :: de P z111 111 (.type y103) :: de P z112 112 (.type y104) :: k0c16 P
noncomputable def k0c14 (P : Params) : List DictEntry := de P z99 99 (.type y91) :: de P z100 100 (.type y92) :: de P z101 101 (.type y93) :: de P z102 102 (.type y94) :: de P z103 103 (.type y95) :: de P z104 104 (.type y96) :: de P z105 105 (.type y97) :: k0c15 P
noncomputable def k0c13 (P : Params) : List DictEntry := de P z92 92 (.type y84) :: de P z93 93 (.type y85) :: de P z94 94 (.type y86) :: de P z95 95 (.type y87) :: de P z96 96 (.type y88) :: de P z97 97 (.type y89) :: de P z98 98 (.type y90) :: k0c14 P
noncomputable def k0c12 (P : Params) : List DictEntry := de P z85 85 (.type y77) :: de P z86 86 (.type y78) :: de P z87 87 (.type y79) :: de P z88 88 (.type y80) :: de P z89 89 (.type y81) :: de P z90 90 (.type y82) :: de P z91 91 (.type y83) :: k0c13 P
noncomputable def k0c11 (P : Params) : List DictEntry := de P z78 78 (.type y71) :: de P z79 79 (.type y72) :: de P z80 80 (.type y73) :: de P z81 81 (.bool true) :: de P z82 82 (.type y74) :: de P z83 83 (.type y75) :: de P z84 84 (.type y76) :: k0c12 P
noncomputable def k0c10 (P : Params) : List DictEntry := de P z71 71 (.type y64) :: de P z72 72 (.type y65) :: de P z73 73 (.type y66) :: de P z74 74 (.type y67) :: de P z75 75 (.type y68) :: de P z76 76 (.type y69) :: de P z77 77 (.type y70) :: k0c11 P
noncomputable def k0c9 (P : Params) : List DictEntry := de P z64 64 (.type y57) :: de P z65 65 (.type y58) :: de P z66 66 (.type y59) :: de P z67 67 (.type y60) :: de P z68 68 (.type y61) :: de P z69 69 (.type y62) :: de P z70 70 (.type y63) :: k0c10 P
noncomputable def k0c8 (P : Params) : List DictEntry := de P z57 57 (.type y51) :: de P z58 58 (.type y52) :: de P z59 59 (.type y53) :: de P z60 60 (.type y54) :: de P z61 61 (.type y0) :: de P z62 62 (.type y55) :: de P z63 63 (.type y56) :: k0c9 P
noncomputable def k0c7 (P : Params) : List DictEntry := de P z50 50 Value.none :: de P z51 51 Value.ellipsis :: de P z52 52 Value.notImplemented :: de P z53 53 (.bool false) :: de P z54 54 (.bool true) :: de P z55 55 (.type y49) :: de P z56 56 (.type y50) :: k0c8 P
noncomputable def k0c6 (P : Params) : List DictEntry := de P z43 43 (.builtin y42) :: de P z44 44 (.builtin y43) :: de P z45 45 (.builtin y44) :: de P z46 46 (.builtin y45) :: de P z47 47 (.builtin y46) :: de P z48 48 (.builtin y47) :: de P z49 49 (.builtin y48) :: k0c7 P
noncomputable def k0c5 (P : Params) : List DictEntry := de P z36 36 (.builtin y35) :: de P z37 37 (.builtin y36) :: de P z38 38 (.builtin y37) :: de P z39 39 (.builtin y38) :: de P z40 40 (.builtin y39) :: de P z41 41 (.builtin y40) :: de P z42 42 (.builtin y41) :: k0c6 P
noncomputable def k0c4 (P : Params) : List DictEntry := de P z29 29 (.builtin y28) :: de P z30 30 (.builtin y29) :: de P z31 31 (.builtin y30) :: de P z32 32 (.builtin y31) :: de P z33 33 (.builtin y32) :: de P z34 34 (.builtin y33) :: de P z35 35 (.builtin y34) :: k0c5 P
noncomputable def k0c3 (P : Params) : List DictEntry := de P z22 22 (.builtin y21) :: de P z23 23 (.builtin y22) :: de P z24 24 (.builtin y23) :: de P z25 25 (.builtin y24) :: de P z26 26 (.builtin y25) :: de P z27 27 (.builtin y26) :: de P z28 28 (.builtin y27) :: k0c4 P
noncomputable def k0c2 (P : Params) : List DictEntry := de P z15 15 (.builtin y14) :: de P z16 16 (.builtin y15) :: de P z17 17 (.builtin y16) :: de P z18 18 (.builtin y17) :: de P z19 19 (.builtin y18) :: de P z20 20 (.builtin y19) :: de P z21 21 (.builtin y20) :: k0c3 P
noncomputable def k0c1 (P : Params) : List DictEntry := de P z8 8 (.builtin y7) :: de P z9 9 (.builtin y8) :: de P z10 10 (.builtin y9) :: de P z11 11 (.builtin y10) :: de P z12 12 (.builtin y11) :: de P z13 13 (.builtin y12) :: de P z14 14 (.builtin y13) :: k0c2 P
noncomputable def k0 (p : Program) (P : Params) : Obj := ⟨(.type y0), none, .dict ⟨(de P z0 1 (.str z1 160) :: de P z2 2 (.builtin y1) :: de P z3 3 (.builtin y2) :: de P z4 4 (.builtin y3) :: de P z5 5 (.builtin y4) :: de P z6 6 (.builtin y5) :: de P z7 7 (.builtin y6) :: k0c1 P)⟩ 159, ⟨[]⟩⟩
noncomputable def k2c2 (P : Params) : List DictEntry := de P z176 368 (.bool true) :: []
noncomputable def k2c1 (P : Params) : List DictEntry := de P z167 265 (.ref 28) :: de P z168 0 (.str z169 0) :: de P z170 266 (.str z171 0) :: de P z172 278 (.bool true) :: de P z173 283 (.ref 34) :: de P z174 299 (.ref 39) :: de P z175 320 (.ref 44) :: k2c2 P
noncomputable def k2 (p : Program) (P : Params) : Obj := ⟨Value.none, none, .dict ⟨(de P z160 185 (.bool true) :: de P z161 187 (.ref 15) :: de P z162 208 (.ref 19) :: de P z163 218 (.ref 23) :: de P z164 247 (.int (Int.ofNat 4) 0) :: de P z165 248 (.bool true) :: de P z166 263 (.bool true) :: k2c1 P)⟩ 15, ⟨[]⟩⟩
noncomputable def k3c6 (P : Params) : List DictEntry := de P z216 1770 (.ref 1102) :: de P z217 1776 (.ref 1107) :: de P z218 1782 (.ref 1112) :: []
noncomputable def k3c5 (P : Params) : List DictEntry := de P z209 1183 (.ref 677) :: de P z210 1203 (.ref 687) :: de P z211 1278 (.ref 734) :: de P z212 1342 (.ref 786) :: de P z213 1391 (.ref 823) :: de P z214 1449 (.ref 867) :: de P z215 1762 (.ref 1093) :: k3c6 P
noncomputable def k3c4 (P : Params) : List DictEntry := de P z202 982 (.ref 521) :: de P z203 1042 (.ref 568) :: de P z204 1106 (.ref 613) :: de P z205 1149 (.ref 648) :: de P z206 1157 (.ref 656) :: de P z207 1167 (.ref 663) :: de P z208 1176 (.ref 670) :: k3c5 P
noncomputable def k3c3 (P : Params) : List DictEntry := de P z195 514 (.ref 161) :: de P z196 555 (.ref 194) :: de P z197 592 (.ref 224) :: de P z198 639 (.ref 260) :: de P z199 669 (.ref 283) :: de P z200 826 (.ref 399) :: de P z201 914 (.ref 471) :: k3c4 P
noncomputable def k3c2 (P : Params) : List DictEntry := de P z188 429 (.ref 84) :: de P z189 472 (.ref 117) :: de P z190 479 (.ref 126) :: de P z191 486 (.ref 133) :: de P z192 493 (.ref 140) :: de P z193 500 (.ref 147) :: de P z194 507 (.ref 154) :: k3c3 P
noncomputable def k3c1 (P : Params) : List DictEntry := de P z180 173 (.str z181 172) :: de P z182 174 Value.none :: de P z183 272 (.type y151) :: de P z184 375 (.builtin y152) :: de P z185 378 (.builtin y153) :: de P z186 391 (.ref 60) :: de P z187 403 (.ref 67) :: k3c2 P
noncomputable def k3 (p : Program) (P : Params) : Obj := ⟨(.type y0), none, .dict ⟨(de P z0 165 (.str z177 1763) :: de P z2 166 Value.none :: de P z3 167 Value.none :: de P z4 168 (.builtin y150) :: de P z5 169 Value.none :: de P z178 170 (.ref 6) :: de P z179 171 (.ref 4) :: k3c1 P)⟩ 45, ⟨[]⟩⟩
noncomputable def k4 (p : Program) (P : Params) : Obj := ⟨(.type y154), (some 0), .plain, ⟨[]⟩⟩
noncomputable def k83 (p : Program) (P : Params) : Obj := ⟨(.type y0), none, .dict ⟨[de P z219 413 (.str z220 404), de P z221 417 (.int (Int.ofNat 12) 416), de P z222 425 (.ref 81), de P z223 426 (.ref 82), de P z2 427 Value.none]⟩ 2, ⟨[]⟩⟩
noncomputable def k84 (p : Program) (P : Params) : Obj := ⟨(.type y72), none, .cls ⟨z188, [(.type y72)], [(.ref 84), (.type y72), (.type y63)], 83, z188, true, [], [(.ref 117)], false, none, false⟩, ⟨[(some (.ref 68)), none, (some (.str z188 406)), (some (.str z188 414)), (some (.builtin y155)), (some (.bool true))]⟩⟩
noncomputable def k99 (p : Program) (P : Params) : Obj := ⟨(.type y156), none, .fields ⟨[(.str z224 444), (.str z225 445), (.str z181 446), (.int (Int.ofNat 19) 0), (.int (Int.ofNat 2) 0), (.int (Int.ofNat 0) 0), (.int (Int.ofNat 0) 0), (.int (Int.ofNat 3) 0), (.ref 94), (.bool true), (.int (Int.ofNat 379) 0), (.ref 95), Value.none, (.ref 96), (.ref 97), (.ref 98), (.int (Int.ofNat 450) 0), (.int (Int.ofNat 19) 0), (.str z181 451)]⟩, ⟨[]⟩⟩
noncomputable def k100 (p : Program) (P : Params) : Obj := ⟨(.type y157), none, .func ⟨z224, z225, sArgs (stm (sBody (stm (p.main.body) 8)) 0), .stmts (sBody (stm (sBody (stm (p.main.body) 8)) 0)), sScope (stm (sBody (stm (p.main.body) 8)) 0), 3, [], Value.none, Value.none, Value.none, (.str z226 430), none, (.ref 99), Value.none, 0⟩, ⟨[]⟩⟩
noncomputable def k116 (p : Program) (P : Params) : Obj := ⟨(.type y0), none, .dict ⟨[de P z219 439 (.str z226 430), de P z221 443 (.int (Int.ofNat 17) 442), de P z224 452 (.ref 100), de P z227 460 (.ref 107), de P z222 468 (.ref 114), de P z223 469 (.ref 115), de P z2 470 Value.none]⟩ 2, ⟨[]⟩⟩
noncomputable def k117 (p : Program) (P : Params) : Obj := ⟨(.type y72), none, .cls ⟨z189, [(.ref 84)], [(.ref 117), (.ref 84), (.type y72), (.type y63)], 116, z189, true, [], [], false, none, false⟩, ⟨[(some (.ref 87)), none, (some (.str z189 432)), (some (.str z189 440)), (some (.builtin y155)), (some (.bool true))]⟩⟩
noncomputable def k466 (p : Program) (P : Params) : Obj := ⟨(.type y156), none, .fields ⟨[(.str z228 902), (.str z229 903), (.str z181 904), (.int (Int.ofNat 226) 0), (.int (Int.ofNat 2) 0), (.int (Int.ofNat 0) 0), (.int (Int.ofNat 0) 0), (.int (Int.ofNat 3) 0), (.ref 461), (.bool true), (.int (Int.ofNat 379) 0), (.ref 462), Value.none, (.ref 463), (.ref 464), (.ref 465), (.int (Int.ofNat 907) 0), (.int (Int.ofNat 226) 0), (.str z181 908)]⟩, ⟨[]⟩⟩
noncomputable def k467 (p : Program) (P : Params) : Obj := ⟨(.type y157), none, .func ⟨z228, z229, sArgs (stm (sBody (stm (p.main.body) 25)) 9), .stmts (sBody (stm (sBody (stm (p.main.body) 25)) 9)), sScope (stm (sBody (stm (p.main.body) 25)) 9), 3, [], Value.none, Value.none, Value.none, (.str z226 430), none, (.ref 466), Value.none, 0⟩, ⟨[]⟩⟩
noncomputable def k470c2 (P : Params) : List DictEntry := de P z239 912 Value.none :: de P z240 921 (.ref 474) :: []
noncomputable def k470c1 (P : Params) : List DictEntry := de P z235 885 (.ref 446) :: de P z236 892 (.ref 453) :: de P z237 900 (.ref 460) :: de P z238 901 Value.none :: de P z228 909 (.ref 467) :: de P z223 910 (.ref 468) :: de P z2 911 Value.none :: k470c2 P
noncomputable def k470 (p : Program) (P : Params) : Obj := ⟨(.type y0), none, .dict ⟨(de P z219 841 (.str z226 430) :: de P z221 845 (.int (Int.ofNat 191) 844) :: de P z230 846 (.ref 410) :: de P z231 854 (.ref 417) :: de P z232 863 (.ref 425) :: de P z233 871 (.ref 432) :: de P z234 878 (.ref 439) :: k470c1 P)⟩ 4, ⟨[]⟩⟩
noncomputable def k471 (p : Program) (P : Params) : Obj := ⟨(.ref 117), none, .cls ⟨z201, [(.ref 283)], [(.ref 471), (.ref 283), (.ref 224), (.ref 194), (.ref 260), (.type y63)], 470, z201, false, [], [], true, none, false⟩, ⟨[(some (.ref 403)), none, (some (.str z201 834)), (some (.str z201 842)), (some (.builtin y158)), (some (.bool false))]⟩⟩
noncomputable def k874 (p : Program) (P : Params) : Obj := ⟨(.type y159), none, .cell (some (.ref 1093)), ⟨[]⟩⟩
noncomputable def k879 (p : Program) (P : Params) : Obj := ⟨(.type y71), none, .seq ⟨[Value.none]⟩ 0, ⟨[]⟩⟩
noncomputable def k886 (p : Program) (P : Params) : Obj := ⟨(.type y156), none, .fields ⟨[(.str z241 1464), (.str z242 1465), (.str z181 1466), (.int (Int.ofNat 507) 0), (.int (Int.ofNat 2) 0), (.int (Int.ofNat 2) 0), (.int (Int.ofNat 0) 0), (.int (Int.ofNat 11) 0), (.ref 881), (.bool true), (.int (Int.ofNat 379) 0), (.ref 882), Value.none, (.ref 883), (.ref 884), (.ref 885), (.int (Int.ofNat 1471) 0), (.int (Int.ofNat 507) 0), (.str z181 1472)]⟩, ⟨[]⟩⟩
noncomputable def k887 (p : Program) (P : Params) : Obj := ⟨(.type y157), none, .func ⟨z241, z242, sArgs (stm (sBody (stm (p.main.body) 44)) 0), .stmts (sBody (stm (sBody (stm (p.main.body) 44)) 0)), sScope (stm (sBody (stm (p.main.body) 44)) 0), 3, [(z243, 874)], (.ref 879), Value.none, Value.none, (.str z244 1450), none, (.ref 886), (.ref 880), 0⟩, ⟨[]⟩⟩
noncomputable def k893 (p : Program) (P : Params) : Obj := ⟨(.type y156), none, .fields ⟨[(.str z245 1474), (.str z246 1475), (.str z181 1476), (.int (Int.ofNat 511) 0), (.int (Int.ofNat 2) 0), (.int (Int.ofNat 0) 0), (.int (Int.ofNat 0) 0), (.int (Int.ofNat 3) 0), (.ref 888), (.bool true), (.int (Int.ofNat 379) 0), (.ref 889), Value.none, (.ref 890), (.ref 891), (.ref 892), (.int (Int.ofNat 1479) 0), (.int (Int.ofNat 511) 0), (.str z181 1480)]⟩, ⟨[]⟩⟩
noncomputable def k894 (p : Program) (P : Params) : Obj := ⟨(.type y157), none, .func ⟨z245, z246, sArgs (stm (sBody (stm (p.main.body) 44)) 1), .stmts (sBody (stm (sBody (stm (p.main.body) 44)) 1)), sScope (stm (sBody (stm (p.main.body) 44)) 1), 3, [], Value.none, Value.none, Value.none, (.str z244 1450), none, (.ref 893), Value.none, 0⟩, ⟨[]⟩⟩
noncomputable def k917 (p : Program) (P : Params) : Obj := ⟨(.type y71), none, .seq ⟨[Value.none]⟩ 0, ⟨[]⟩⟩
noncomputable def k923 (p : Program) (P : Params) : Obj := ⟨(.type y156), none, .fields ⟨[(.str z247 1504), (.str z248 1505), (.str z181 1506), (.int (Int.ofNat 526) 0), (.int (Int.ofNat 3) 0), (.int (Int.ofNat 0) 0), (.int (Int.ofNat 0) 0), (.int (Int.ofNat 3) 0), (.ref 918), (.bool true), (.int (Int.ofNat 379) 0), (.ref 919), Value.none, (.ref 920), (.ref 921), (.ref 922), (.int (Int.ofNat 1510) 0), (.int (Int.ofNat 526) 0), (.str z181 1511)]⟩, ⟨[]⟩⟩
noncomputable def k924 (p : Program) (P : Params) : Obj := ⟨(.type y157), none, .func ⟨z247, z248, sArgs (stm (sBody (stm (p.main.body) 44)) 5), .stmts (sBody (stm (sBody (stm (p.main.body) 44)) 5)), sScope (stm (sBody (stm (p.main.body) 44)) 5), 3, [], (.ref 917), Value.none, Value.none, (.str z244 1450), (some 927), (.ref 923), Value.none, 0⟩, ⟨[]⟩⟩
noncomputable def k926 (p : Program) (P : Params) : Obj := ⟨(.type y53), (some 925), .fields ⟨[(.ref 924), (.bool false)]⟩, ⟨[]⟩⟩
noncomputable def k928 (p : Program) (P : Params) : Obj := ⟨(.type y71), none, .seq ⟨[Value.none]⟩ 0, ⟨[]⟩⟩
noncomputable def k935 (p : Program) (P : Params) : Obj := ⟨(.type y156), none, .fields ⟨[(.str z249 1525), (.str z250 1526), (.str z181 1527), (.int (Int.ofNat 530) 0), (.int (Int.ofNat 2) 0), (.int (Int.ofNat 2) 0), (.int (Int.ofNat 0) 0), (.int (Int.ofNat 11) 0), (.ref 930), (.bool true), (.int (Int.ofNat 379) 0), (.ref 931), Value.none, (.ref 932), (.ref 933), (.ref 934), (.int (Int.ofNat 1535) 0), (.int (Int.ofNat 530) 0), (.str z181 1536)]⟩, ⟨[]⟩⟩
noncomputable def k936 (p : Program) (P : Params) : Obj := ⟨(.type y157), none, .func ⟨z249, z250, sArgs (stm (sBody (stm (p.main.body) 44)) 6), .stmts (sBody (stm (sBody (stm (p.main.body) 44)) 6)), sScope (stm (sBody (stm (p.main.body) 44)) 6), 3, [(z243, 874)], (.ref 928), Value.none, Value.none, (.str z244 1450), none, (.ref 935), (.ref 929), 0⟩, ⟨[]⟩⟩
noncomputable def k950 (p : Program) (P : Params) : Obj := ⟨(.type y156), none, .fields ⟨[(.str z251 1550), (.str z252 1551), (.str z181 1552), (.int (Int.ofNat 556) 0), (.int (Int.ofNat 1) 0), (.int (Int.ofNat 0) 0), (.int (Int.ofNat 0) 0), (.int (Int.ofNat 3) 0), (.ref 945), (.bool true), (.int (Int.ofNat 379) 0), (.ref 946), Value.none, (.ref 947), (.ref 948), (.ref 949), (.int (Int.ofNat 1554) 0), (.int (Int.ofNat 556) 0), (.str z181 1555)]⟩, ⟨[]⟩⟩
noncomputable def k951 (p : Program) (P : Params) : Obj := ⟨(.type y157), none, .func ⟨z251, z252, sArgs (stm (sBody (stm (p.main.body) 44)) 8), .stmts (sBody (stm (sBody (stm (p.main.body) 44)) 8)), sScope (stm (sBody (stm (p.main.body) 44)) 8), 3, [], Value.none, Value.none, Value.none, (.str z244 1450), none, (.ref 950), Value.none, 0⟩, ⟨[]⟩⟩
noncomputable def k965 (p : Program) (P : Params) : Obj := ⟨(.type y156), none, .fields ⟨[(.str z253 1564), (.str z254 1565), (.str z181 1566), (.int (Int.ofNat 562) 0), (.int (Int.ofNat 2) 0), (.int (Int.ofNat 0) 0), (.int (Int.ofNat 0) 0), (.int (Int.ofNat 3) 0), (.ref 960), (.bool true), (.int (Int.ofNat 379) 0), (.ref 961), Value.none, (.ref 962), (.ref 963), (.ref 964), (.int (Int.ofNat 1570) 0), (.int (Int.ofNat 562) 0), (.str z181 1571)]⟩, ⟨[]⟩⟩
noncomputable def k966 (p : Program) (P : Params) : Obj := ⟨(.type y157), none, .func ⟨z253, z254, sArgs (stm (sBody (stm (p.main.body) 44)) 10), .stmts (sBody (stm (sBody (stm (p.main.body) 44)) 10)), sScope (stm (sBody (stm (p.main.body) 44)) 10), 3, [(z243, 874)], Value.none, Value.none, Value.none, (.str z244 1450), none, (.ref 965), (.ref 959), 0⟩, ⟨[]⟩⟩
noncomputable def k1092c5 (P : Params) : List DictEntry := de P z239 1760 Value.none :: []
noncomputable def k1092c4 (P : Params) : List DictEntry := de P z274 1730 (.ref 1076) :: de P z275 1741 (.ref 1083) :: de P z276 1752 (.ref 1090) :: de P z223 1753 (.ref 1091) :: de P z277 1756 (.ref 1094) :: de P z278 1758 (.ref 1095) :: de P z2 1759 Value.none :: k1092c5 P
noncomputable def k1092c3 (P : Params) : List DictEntry := de P z267 1658 (.ref 1029) :: de P z268 1671 (.ref 1036) :: de P z269 1684 (.ref 1043) :: de P z270 1694 (.ref 1050) :: de P z271 1704 (.ref 1057) :: de P z272 1710 (.ref 1062) :: de P z273 1720 (.ref 1069) :: k1092c4 P
noncomputable def k1092c2 (P : Params) : List DictEntry := de P z237 1590 (.ref 980) :: de P z261 1598 (.ref 987) :: de P z262 1608 (.ref 994) :: de P z263 1616 (.ref 1001) :: de P z264 1626 (.ref 1008) :: de P z265 1634 (.ref 1015) :: de P z266 1646 (.ref 1022) :: k1092c3 P
noncomputable def k1092c1 (P : Params) : List DictEntry := de P z247 1524 (.ref 926) :: de P z249 1537 (.ref 936) :: de P z258 1549 (.ref 944) :: de P z251 1556 (.ref 951) :: de P z259 1563 (.ref 958) :: de P z253 1572 (.ref 966) :: de P z260 1580 (.ref 973) :: k1092c2 P
noncomputable def k1092 (p : Program) (P : Params) : Obj := ⟨(.type y0), none, .dict ⟨(de P z219 1459 (.str z244 1450) :: de P z221 1463 (.int (Int.ofNat 505) 1462) :: de P z241 1473 (.ref 887) :: de P z245 1481 (.ref 894) :: de P z255 1488 (.ref 901) :: de P z256 1496 (.ref 909) :: de P z257 1503 (.ref 916) :: k1092c1 P)⟩ 6, ⟨[]⟩⟩
noncomputable def k1093 (p : Program) (P : Params) : Obj := ⟨(.type y72), none, .cls ⟨z215, [(.type y0)], [(.ref 1093), (.type y0), (.type y63)], 1092, z215, true, [], [], false, none, false⟩, ⟨[(some (.ref 871)), none, (some (.str z215 1452)), (some (.str z215 1460)), (some (.builtin y160)), (some (.bool true))]⟩⟩
noncomputable def k1101 (p : Program) (P : Params) : Obj := ⟨(.type y156), none, .fields ⟨[(.str z216 1765), (.str z216 1766), (.str z181 1767), (.int (Int.ofNat 700) 0), (.int (Int.ofNat 3) 0), (.int (Int.ofNat 0) 0), (.int (Int.ofNat 0) 0), (.int (Int.ofNat 3) 0), (.ref 1098), (.bool true), (.int (Int.ofNat 379) 0), (.ref 1099), Value.none, Value.none, Value.none, (.ref 1100), (.int (Int.ofNat 1768) 0), (.int (Int.ofNat 700) 0), (.str z181 1769)]⟩, ⟨[]⟩⟩
noncomputable def k1102 (p : Program) (P : Params) : Obj := ⟨(.type y157), none, .func ⟨z216, z216, sArgs (stm (p.main.body) 46), .stmts (sBody (stm (p.main.body) 46)), sScope (stm (p.main.body) 46), 3, [], Value.none, Value.none, Value.none, (.str z177 1763), none, (.ref 1101), Value.none, 0⟩, ⟨[]⟩⟩
noncomputable def k1106 (p : Program) (P : Params) : Obj := ⟨(.type y156), none, .fields ⟨[(.str z217 1771), (.str z217 1772), (.str z181 1773), (.int (Int.ofNat 704) 0), (.int (Int.ofNat 2) 0), (.int (Int.ofNat 0) 0), (.int (Int.ofNat 0) 0), (.int (Int.ofNat 3) 0), (.ref 1103), (.bool true), (.int (Int.ofNat 379) 0), (.ref 1104), Value.none, Value.none, Value.none, (.ref 1105), (.int (Int.ofNat 1774) 0), (.int (Int.ofNat 704) 0), (.str z181 1775)]⟩, ⟨[]⟩⟩
noncomputable def k1107 (p : Program) (P : Params) : Obj := ⟨(.type y157), none, .func ⟨z217, z217, sArgs (stm (p.main.body) 47), .stmts (sBody (stm (p.main.body) 47)), sScope (stm (p.main.body) 47), 3, [], Value.none, Value.none, Value.none, (.str z177 1763), none, (.ref 1106), Value.none, 0⟩, ⟨[]⟩⟩
noncomputable def k1109 (p : Program) (P : Params) : Obj := ⟨Value.none, none, .fields ⟨[]⟩, ⟨[]⟩⟩
noncomputable def k1111 (p : Program) (P : Params) : Obj := ⟨(.type y156), none, .fields ⟨[(.str z218 1777), (.str z218 1778), (.str z181 1779), (.int (Int.ofNat 706) 0), (.int (Int.ofNat 1) 0), (.int (Int.ofNat 0) 0), (.int (Int.ofNat 0) 0), (.int (Int.ofNat 3) 0), (.ref 1108), (.bool true), (.int (Int.ofNat 379) 0), (.ref 1109), Value.none, Value.none, Value.none, (.ref 1110), (.int (Int.ofNat 1780) 0), (.int (Int.ofNat 706) 0), (.str z181 1781)]⟩, ⟨[]⟩⟩
noncomputable def k1112 (p : Program) (P : Params) : Obj := ⟨(.type y157), none, .func ⟨z218, z218, sArgs (stm (p.main.body) 48), .stmts (sBody (stm (p.main.body) 48)), sScope (stm (p.main.body) 48), 3, [], Value.none, Value.none, Value.none, (.str z177 1763), none, (.ref 1111), Value.none, 0⟩, ⟨[]⟩⟩
noncomputable def kas : List Nat := [0, 2, 3, 4, 83, 84, 99, 100, 116, 117, 466, 467, 470, 471, 874, 879, 886, 887, 893, 894, 917, 923, 924, 926, 928, 935, 936, 950, 951, 965, 966, 1092, 1093, 1101, 1102, 1106, 1107, 1109, 1111, 1112]
noncomputable def klPc5 (p : Program) (P : Params) : List (Nat × Obj) := (1106, k1106 p P) :: (1107, k1107 p P) :: (1109, k1109 p P) :: (1111, k1111 p P) :: (1112, k1112 p P) :: []
noncomputable def klPc4 (p : Program) (P : Params) : List (Nat × Obj) := (951, k951 p P) :: (965, k965 p P) :: (966, k966 p P) :: (1092, k1092 p P) :: (1093, k1093 p P) :: (1101, k1101 p P) :: (1102, k1102 p P) :: klPc5 p P
noncomputable def klPc3 (p : Program) (P : Params) : List (Nat × Obj) := (923, k923 p P) :: (924, k924 p P) :: (926, k926 p P) :: (928, k928 p P) :: (935, k935 p P) :: (936, k936 p P) :: (950, k950 p P) :: klPc4 p P
noncomputable def klPc2 (p : Program) (P : Params) : List (Nat × Obj) := (874, k874 p P) :: (879, k879 p P) :: (886, k886 p P) :: (887, k887 p P) :: (893, k893 p P) :: (894, k894 p P) :: (917, k917 p P) :: klPc3 p P
noncomputable def klPc1 (p : Program) (P : Params) : List (Nat × Obj) := (100, k100 p P) :: (116, k116 p P) :: (117, k117 p P) :: (466, k466 p P) :: (467, k467 p P) :: (470, k470 p P) :: (471, k471 p P) :: klPc2 p P
noncomputable def klP (p : Program) (P : Params) : List (Nat × Obj) := (0, k0 p P) :: (2, k2 p P) :: (3, k3 p P) :: (4, k4 p P) :: (83, k83 p P) :: (84, k84 p P) :: (99, k99 p P) :: klPc1 p P
noncomputable def qv : Program := view pw [48]
noncomputable def loosec4 : List Str := ("chain" : Str) :: ("repeat" : Str) :: ("starmap" : Str) :: ("itemgetter" : Str) :: ("Counter" : Str) :: ("_law_with" : Str) :: ("_law_without" : Str) :: []
noncomputable def loosec3 : List Str := ("ItemsView" : Str) :: ("ValuesView" : Str) :: ("nlargest" : Str) :: ("_is_int" : Str) :: ("_whole" : Str) :: ("_pull" : Str) :: ("_NotGiven" : Str) :: loosec4
noncomputable def loosec2 : List Str := ("Sized" : Str) :: ("Container" : Str) :: ("Collection" : Str) :: ("Set" : Str) :: ("Mapping" : Str) :: ("MappingView" : Str) :: ("KeysView" : Str) :: loosec3
noncomputable def loosec1 : List Str := ("_abc_plain_meta" : Str) :: ("_abc_has_iter" : Str) :: ("_abc_has_len" : Str) :: ("_abc_has_contains" : Str) :: ("_abc_is_mappingproxy" : Str) :: ("_abc_is_builtin_collection" : Str) :: ("Iterable" : Str) :: loosec2
noncomputable def loose : List Str := ("deque" : Str) :: ("heapify" : Str) :: ("heapreplace" : Str) :: ("_wall" : Str) :: ("_count_elements" : Str) :: ("ABCMeta" : Str) :: ("_ABCLike" : Str) :: loosec1
noncomputable def lv (p : Program) (w : World) : List (Option Obj) × Nat × Nat := ((klP p w.params).map fun x => some x.2, 1113, 1783)
noncomputable def lhsP (p : Program) (w : World) := (whole p w 100000 100000).map fun x => (x.1.abs.heap.isNs mainGlobals && x.1.abs.gens.size == 0,
  staticsOk (importedModules p.main.body) x.1.abs.heap x.2.abs.heap && namesBound p x.2.abs.heap && gensDone x.2.abs && laidKept x.1.abs.heap x.2.abs.heap,
  openSeen (view p [48]) loose (importedModules p.main.body) (fun _ => true) true x.2.abs, (kas.map fun a => x.2.abs.heap.get? a, x.2.n, x.2.toks))
noncomputable def rhsP (p : Program) (w : World) := some (true, true, openGood (view p [48]) loose, lv p w)
noncomputable abbrev kl (P : Params) : List (Nat × Obj) := klP pw P
end Mine
lay_quick Mine.lhsP
lay_quick Mine.rhsP
namespace Mine
open PySem PySem.W

noncomputable abbrev tP : Program := pw
noncomputable abbrev tK : Params → List (Nat × Obj) := PySem.W.Fast.tw1676244692322491841 pw
theorem tP_eq : tP = pw := rfl
theorem tK_eq : tK = kl := congrFun PySem.W.Fast.te1676244692322491841.symm pw
noncomputable def kget : List (Nat × Obj) → Nat → Option Obj
  | [], _ => none
  | (n, o) :: r, a => match Nat.beq n a with
    | true => some o
    | false => kget r a
/-- the code tables that the call fills: they are slots, not constants -/
noncomputable def isTab (a : Nat) : Bool := Nat.beq a 1109
noncomputable def kdrop : List (Nat × Obj) → List (Nat × Obj)
  | [] => []
  | (n, o) :: r => match isTab n with
    | true => kdrop r
    | false => (n, o) :: kdrop r
noncomputable def KK (w : World) (a : Nat) : Option Obj := kget (kdrop (tK w.params)) a
theorem kdrop_sub : ∀ {l : List (Nat × Obj)} {x : Nat × Obj}, x ∈ kdrop l → x ∈ l
  | [], _, h => h
  | (n, o) :: r, x, h => by
    unfold kdrop at h
    cases q : isTab n with
    | true => rw [q] at h; exact List.mem_cons_of_mem _ (kdrop_sub h)
    | false =>
      rw [q] at h
      rcases List.mem_cons.mp h with z | z
      · rw [z]; exact List.mem_cons_self
      · exact List.mem_cons_of_mem _ (kdrop_sub z)
theorem kget_none {l : List (Nat × Obj)} {a : Nat} (h : ∀ x ∈ l, x.1 ≠ a) : kget l a = none := by
  induction l with
  | nil => rfl
  | cons x r ih =>
    obtain ⟨n, o⟩ := x
    unfold kget
    rw [show Nat.beq n a = false from by
      cases q : Nat.beq n a with
      | false => rfl
      | true => exact absurd (Nat.eq_of_beq_eq_true q) (h (n, o) List.mem_cons_self)]
    exact ih fun x hx => h x (List.mem_cons_of_mem _ hx)
theorem kget_some {l : List (Nat × Obj)} {a : Nat} {o : Obj} (h : kget l a = some o) : (a, o) ∈ l := by
  induction l with
  | nil => cases h
  | cons x r ih =>
    obtain ⟨n, o'⟩ := x
    unfold kget at h
    cases q : Nat.beq n a with
    | true =>
      rw [q] at h
      cases h
      rw [Nat.eq_of_beq_eq_true q]
      exact List.mem_cons_self
    | false =>
      rw [q] at h
      exact List.mem_cons_of_mem _ (ih h)
theorem KK_none {w : World} {a : Nat} (h : 1113 ≤ a) : KK w a = none := by
  refine kget_none fun x hx => ?_
  have : ∀ x ∈ tK w.params, x.1 < 1113 := by
    rw [tK_eq]
    have : (kl w.params).map (·.1) = kas := rfl
    intro x hx
    have hm : x.1 ∈ kas := this ▸ List.mem_map.mpr ⟨x, hx, rfl⟩
    exact of_decide_eq_true (List.all_eq_true.mp (show kas.all (fun a => decide (a < 1113)) = true by decide) _ hm)
  have := this x (kdrop_sub hx)
  omega
theorem KK_tab {w : World} {a : Nat} (h : isTab a = true) : KK w a = none := by
  refine kget_none fun x hx => ?_
  have key : ∀ {l : List (Nat × Obj)} {x : Nat × Obj}, x ∈ kdrop l → isTab x.1 = false := fun {l} => by
    induction l with
    | nil => intro x h; cases h
    | cons y r ih =>
      obtain ⟨n, o⟩ := y
      intro x hx
      unfold kdrop at hx
      cases q : isTab n with
      | true => rw [q] at hx; exact ih hx
      | false =>
        rw [q] at hx
        rcases List.mem_cons.mp hx with z | z
        · rw [z]; exact q
        · exact ih z
  intro z
  rw [← z, key hx] at h
  cases h

noncomputable abbrev clsC : Value := .ref 1093
noncomputable abbrev clsD : Value := .type "dict"
noncomputable def sSet (cls : Value) (dd : Option Nat) (i d : Nat) (es : List E) (ep : Nat) (x : Int) (t : Nat) (y : Int) (u : Nat) : Summ :=
  { code := .builtin "dict.__setitem__" ⟨[.ref d, .int x t, .int y u], []⟩, res := .ok (.ret .none), pre := [(i, d, dObj cls dd es ep)],
    post := [(i, d, dObj cls dd (esSet es x t y u) (match esFind es x with | some _ => ep | none => ep + 1))], dtok := 1 }
noncomputable def xSet (d : Nat) (x : Int) (t : Nat) (y : Int) (u : Nat) : Sem PySem.Fin := PySem.W.R.bindR (PySem.W.Fast.tw11925912800584824493 d (.int x t) (.int y u)) fun _ => PySem.W.Fast.tw6905046200447255374 .none
variable {b c : Bool} {w : World}
theorem xSet_any {A : Around} {EE : Value → Shared → Prop} {s : Shared} {d : Nat} {cls : Value} {dd : Option Nat} {es : List E} {ep : Nat} {x : Int} {t : Nat} {y : Int} {u : Nat} {Q : PySem.Fin → Shared → Prop} (ho : s.heap.get? d = some (dObj cls dd es ep)) (hz : es.length ≤ sizeLine)
    (h : Q (Fin.done (.ret .none)) { s with heap := s.heap.update d (setF es x t y u), toks := s.toks + 1 }) :
    wpAny (model tP w) A (xSet d x t y u) Q EE s := by
  unfold xSet
  rw [← PySem.W.Fast.te11925912800584824493, ← PySem.W.Fast.te6905046200447255374, ← PySem.W.R.bindR_eq]
  exact wpAny_bind (m := dictSet d (.int x t) (.int y u)) (f := fun _ => pure (Fin.done (.ret .none))) (any_dictSet ho hz (wpAny_pure h))
theorem sSetC_run (i d dd : Nat) (es : List E) (ep : Nat) (x : Int) (t : Nat) (y : Int) (u : Nat) (sz tok : Nat) (k : Result → Sem PySem.Fin) (g : Bool) (l : List Value) (code : Code) (pos pos' : Pos) (kp : List Value) (W : List (Code × Pos)) (gens : List GenState) :
    chk (tR tP (tW b c w) (KK (tW b c w)) W 3 [.s 0, .s 0, .k 0] (mkT [(d, dObj clsC (some dd) es ep)]) 1 sz gens tok [] (tD (sSet clsC (some dd) i d es ep x t y u).code) (sSet clsC (some dd) i d es ep x t y u).code pos' [.ret k none g l code pos kp] [] []) (mids 1) =
    chk' (tR tP (tW b c w) (KK (tW b c w)) W 3 [.s 0, .s 0, .k 0] (mkT [(d, dObj clsC (some dd) es ep)]) 1 sz gens tok [] (tD (sSet clsC (some dd) i d es ep x t y u).code) (sSet clsC (some dd) i d es ep x t y u).code pos' [.ret k none g l code pos kp] [] [])
      (xSet d x t y u, (sSet clsC (some dd) i d es ep x t y u).code, [.ret k none g l code pos kp], sz, tok, gens, [(d, dObj clsC (some dd) es ep)].map some) := by kernel_rfl
theorem set_H {cls : Value} {dd : Option Nat} {i d : Nat} {es : List E} {ep : Nat} {x : Int} {t : Nat} {y : Int} {u : Nat} (hz : es.length ≤ sizeLine) {sz tok : Nat} (s : Shared) (hpre : ∀ q ∈ (sSet cls dd i d es ep x t y u).pre, s.heap.get? q.2.1 = some q.2.2) (hs : s.heap.objs.size = sz) (ht : s.toks = tok) : ∃ h' : Heap,
      (∀ A : Around, A.handled = none → wpAny (model tP w) A (xSet d x t y u) (fun fin s' => ∃ f, fin = .done f ∧ (sSet cls dd i d es ep x t y u).res = .ok f ∧ s' = { s with heap := h', toks := tok + (sSet cls dd i d es ep x t y u).dtok }) (fun e s' => (sSet cls dd i d es ep x t y u).res = .error e ∧ s' = { s with heap := h', toks := tok + (sSet cls dd i d es ep x t y u).dtok }) s) ∧
      h'.objs.size = (sSet cls dd i d es ep x t y u).dsz.getD 0 + sz + (sSet cls dd i d es ep x t y u).dl ∧ (∀ q ∈ (sSet cls dd i d es ep x t y u).post, h'.get? q.2.1 = some q.2.2) ∧ (∀ q ∈ (sSet cls dd i d es ep x t y u).new, h'.get? (sz + q.1) = some q.2) ∧
      ∀ b o, s.heap.get? b = some o → (∀ q ∈ (sSet cls dd i d es ep x t y u).post, q.2.1 ≠ b) → h'.get? b = some o := by
  have h1 : s.heap.get? d = some (dObj cls dd es ep) := hpre (i, d, dObj cls dd es ep) (by simp [sSet])
  have hsb : Heap.SameBut d s.heap (s.heap.update d (setF es x t y u)) := Heap.SameBut.update ..
  refine ⟨s.heap.update d (setF es x t y u), fun A hA => xSet_any h1 hz ⟨_, rfl, rfl, by subst ht; rfl⟩, by rw [hsb.1, hs]; exact (Nat.zero_add _).symm, fun q hq => ?_, (fun q hq => nomatch hq), fun b o hb hn => ?_⟩
  · simp only [sSet, List.mem_singleton] at hq
    subst hq
    have := Heap.get?_update_self (setF es x t y u) h1 (by rw [setF_eq]; rfl)
    rw [setF_eq] at this
    exact this
  · exact (hsb.2 b fun z => hn (i, d, _) (List.mem_singleton.mpr rfl) z.symm).trans hb
theorem sSetC_ok {i d dd : Nat} {es : List E} {ep : Nat} {x : Int} {t : Nat} {y : Int} {u : Nat} (hz : es.length ≤ sizeLine) (hd : 1113 ≤ d) (sz tok : Nat) : (sSet clsC (some dd) i d es ep x t y u).Valid (mdl tP (tW b c w)) (KK (tW b c w)) sz tok :=
  Summ.ofPre [(d, dObj clsC (some dd) es ep)] (xSet d x t y u) 3 [.s 0, .s 0, .k 0] 1 rfl rfl rfl rfl rfl (by simp) (fun q hq => by rw [List.mem_singleton.mp hq]; exact KK_none hd) rfl trivial
    (fun k g l code pos pos' kp W gens _ => sSetC_run i d dd es ep x t y u sz tok k g l code pos pos' kp W gens) (fun s => set_H hz s)

noncomputable def xUpd (d o : Nat) : Sem PySem.Fin := PySem.W.R.bindR (PySem.W.Fast.tw3262940954092997956 PySem.W.SL.s17922960074652564335x11 d o) fun _ => PySem.W.R.bindR (PySem.W.Fast.tw7919365801931557858 d []) fun _ => PySem.W.Fast.tw6905046200447255374 .none

/-- the token of a number among a call's arguments -/
noncomputable def argTok : Code → Nat → Nat
  | .builtin _ ⟨l, _⟩, i => (match l[i]? with | some (.int _ t) => t | _ => 0)
  | _, _ => 0
noncomputable def sCmp (id : String) (x y : Int) (b : Bool) (c : Code) : Summ := { code := .builtin id ⟨[.int x (argTok c 0), .int y (argTok c 1)], []⟩, res := .ok (.ret (.bool b)) }
theorem sEq_ok {x y : Int} {r : Bool} (h : (x == y) = r) (cc : Code) (sz tok : Nat) : (sCmp "int.__eq__" x y r cc).Valid (mdl tP (tW b c w)) (KK (tW b c w)) sz tok := by
  subst h
  refine Summ.ofRun [] [] [] 1 [] 0 [] rfl rfl rfl rfl (fun _ z => nomatch z) (fun _ z => nomatch z) (by simp) (fun _ z => nomatch z) rfl (fun _ z => nomatch z) (fun _ z => nomatch z) trivial fun k g l code pos pos' kp W gens _ => ?_
  generalize argTok cc 0 = t0, argTok cc 1 = t1
  unfold sCmp
  kernel_rfl
theorem sNe_ok {x y : Int} {r : Bool} (h : (x != y) = r) (cc : Code) (sz tok : Nat) : (sCmp "int.__ne__" x y r cc).Valid (mdl tP (tW b c w)) (KK (tW b c w)) sz tok := by
  subst h
  refine Summ.ofRun [] [] [] 1 [] 0 [] rfl rfl rfl rfl (fun _ z => nomatch z) (fun _ z => nomatch z) (by simp) (fun _ z => nomatch z) rfl (fun _ z => nomatch z) (fun _ z => nomatch z) trivial fun k g l code pos pos' kp W gens _ => ?_
  generalize argTok cc 0 = t0, argTok cc 1 = t1
  unfold sCmp
  kernel_rfl
end Mine
namespace Mine
open PySem PySem.W
noncomputable abbrev tstm := PySem.W.Fast.tw3068626590216125067
noncomputable def fnS (i : Nat) : Stmt := tstm tP.main.body i
noncomputable def sFor : Stmt → Value → Env → Code
  | .For t _ b o _ => fun it env => .forLoop t it b o env
  | _ => fun _ _ => .call .none ⟨[], []⟩
noncomputable def str (s : String) : Str := s
noncomputable def ceObj (v : Option Value) : Obj := ⟨.type "cell", none, .cell v, #[]⟩
noncomputable abbrev Loc := Option (Nat × Value)
noncomputable def locSet (t : Nat) (v : Value) : Loc → Loc
  | none => some (t, v)
  | some (t1, _) => some (t1, v)
noncomputable def iv (x : Int × Nat) : Value := .int x.1 x.2
noncomputable def Good (N : Nat) (es : List E) : Prop := (es.map (·.k)).Nodup ∧ ∀ e ∈ es, 0 ≤ e.k ∧ e.k < N
noncomputable def fbody : Stmt → List Stmt
  | .For _ _ b .. => b
  | _ => []
noncomputable abbrev Loc2 := Option (Nat × Value × Nat × Value)
noncomputable def loc2Set (t3 : Nat) (v3 : Value) (t4 : Nat) (v4 : Value) : Loc2 → Loc2
  | none => some (t3, v3, t4, v4)
  | some (a, _, b, _) => some (a, v3, b, v4)
variable {b c : Bool} {w : World}
noncomputable abbrev tGetRest := PySem.W.Fast.tw15065052549389001082
theorem tGetRest_eq : tGetRest = getRest := PySem.W.Fast.te15065052549389001082.symm
/-- dict.__getitem__: the key stands there -/
noncomputable def sHit (cls : Value) (dd : Option Nat) (i d : Nat) (es : List E) (ep : Nat) (x : Int) (t : Nat) (e : E) : Summ :=
  { code := .builtin "dict.__getitem__" ⟨[.ref d, .int x t], []⟩, res := .ok (.ret (.int e.v e.u)), pre := [(i, d, dObj cls dd es ep)], dtok := 1 }
theorem sHit_ok {p : Program} {K : Nat → Option Obj} {cls : Value} {dd : Option Nat} {i d : Nat} {es : List E} {ep : Nat} {x : Int} {t : Nat} {e : E} (he : esFind es x = some e) (sz tok : Nat) : (sHit cls dd i d es ep x t e).Valid (mdl p w) K sz tok := by
  refine Summ.ofAny rfl rfl fun s hpre hs ht => ?_
  have h1 : s.heap.get? d = some (dObj cls dd es ep) := hpre (i, d, _) (List.mem_singleton.mpr rfl)
  refine ⟨s.heap, fun A hA => ?_, by rw [hs]; exact (Nat.zero_add _).symm, (fun q hq => nomatch hq), (fun q hq => nomatch hq), fun b o hb _ => hb⟩
  show wpAny _ _ (denote table (.builtin "dict.__getitem__" ⟨[.ref d, .int x t], []⟩)) _ _ _
  rw [getitem_code]
  refine wpAny_bind (m := dictGet d (.int x t)) (f := getCont d (.int x t)) (any_dictGet h1 ?_)
  unfold esVal
  rw [he]
  exact wpAny_pure ⟨_, rfl, rfl, by subst ht; rfl⟩

/-- a summary that never holds -/
noncomputable def sVoid : Summ := { code := .call .none ⟨[], []⟩, res := .ok .next, shape := fun _ => false }
theorem sVoid_ok {M : Model} {K : Nat → Option Obj} (sz tok : Nat) : sVoid.Valid M K sz tok := by
  intro s k g l code pos pos' kp st hK hpre hpo hne hne' hs ht hb hsh
  cases hsh
/-- a summary that asks the heap to have the top's objects -/
noncomputable def guard (sz : Nat) (S : Summ) : Summ := match Nat.ble 1113 sz with
  | true => S
  | false => sVoid
theorem guard_ok {M : Model} {K : Nat → Option Obj} {S : Summ} {sz tok : Nat} (h : 1113 ≤ sz → S.Valid M K sz tok) : (guard sz S).Valid M K sz tok := by
  unfold guard
  cases q : Nat.ble 1113 sz with
  | true => exact h (Nat.le_of_ble_eq_true q)
  | false => exact sVoid_ok sz tok
theorem guard_nd {S : Summ} {sz : Nat} (h : (S.new.map (·.1)).Nodup) : ((guard sz S).new.map (·.1)).Nodup := by
  unfold guard
  cases Nat.ble 1113 sz with
  | true => exact h
  | false => exact List.nodup_nil
theorem notSys {o : Nat} (h : 1113 ≤ o) : (o == sysModules) = false := by
  have h2 : o ≠ sysModules := fun z => by rw [z] at h; exact absurd h (by decide)
  simpa using h2
/-- list + list -/
noncomputable def sLsAdd (i j a b : Nat) (xs ys zs : List Value) (ep ep' : Nat) (sz : Nat) : Summ :=
  { code := .builtin "list.__add__" ⟨[.ref a, .ref b], []⟩, res := .ok (.ret (.ref sz)), pre := [(i, a, lsObj xs ep), (j, b, lsObj ys ep')], new := [(0, lsObj zs 0)], dl := 1 }
theorem sLsAdd_ok {p : Program} {w : World} {K : Nat → Option Obj} {i j a b : Nat} {xs ys zs : List Value} {ep ep' : Nat} (hz : zs = xs ++ ys) (hn : zs.length ≤ 64) (sz tok : Nat) : (sLsAdd i j a b xs ys zs ep ep' sz).Valid (mdl p w) K sz tok := by
  subst hz
  refine Summ.ofAny rfl rfl fun s hpre hs ht => ?_
  have h1 : s.heap.get? a = some (lsObj xs ep) := hpre (i, a, lsObj xs ep) List.mem_cons_self
  have h2 : s.heap.get? b = some (lsObj ys ep') := hpre (j, b, lsObj ys ep') (List.mem_cons_of_mem _ List.mem_cons_self)
  have hT : s.TypeIs (.ref b) "list" := ⟨_, h2, rfl⟩
  refine ⟨s.heap.push (lsObj (xs ++ ys) 0), fun A hA => any_builtin F.entry_list_add ?_, ?_, (fun q hq => nomatch hq), fun q hq => ?_, fun b o hb _ => Heap.get?_push_of_some _ hb⟩
  · unfold Builtin.«list.__add__»
    refine wpAny_bind (wpAny_pure ?_)
    refine wpAny_bind (wpAny_isInstance (T := "list") (b := true) hT AutoSeq1.sub_list_list ?_)
    simp only [Bool.not_true, Bool.false_eq_true, if_false]
    show wpAny _ _ (Builtin.List.listItems (.ref a) >>= _) _ _ _
    refine wpAny_bind ?_
    unfold Builtin.List.listItems
    refine wpAny_bind (wpAny_seqItems h1 rfl (wpAny_pure ?_))
    refine wpAny_bind ?_
    refine wpAny_bind (wpAny_seqItems h2 rfl (wpAny_pure ?_))
    refine wpAny_bind (wpAny_newObj_type ?_ ?_)
    · refine wpAny_pure ⟨_, rfl, ?_, ?_⟩
      · rw [hs]; rfl
      · subst ht
        simp [lsObj, sLsAdd]
    · have hz : ((⟨xs⟩ : Array Value) ++ (⟨ys⟩ : Array Value)).size ≤ 64 := by
        rw [List.length_append] at hn
        simpa using hn
      exact Nat.le_trans hz (by size_fits)
  · rw [Heap.size_push, hs]; show sz + 1 = 0 + sz + 1; omega
  · rw [List.mem_singleton.mp hq]
    show Heap.get? _ (sz + 0) = _
    rw [Nat.add_zero, ← hs]
    exact Heap.get?_push_size _ rfl

noncomputable def exD : PySem.Expr := .Tuple [] default default
noncomputable def compSc : PySem.Expr → Scope
  | .ListComp _ _ s _ => s
  | _ => default
/-- a comprehension's scope, the enclosing function's cells as its own -/
noncomputable def scCell (sc : Scope) : Scope := { sc with names := sc.names.map fun (n, k) => if k == .free then (n, .cell) else (n, k) }
end Mine
namespace Mine
open PySem PySem.W
/-- the kind of a code on the stack -/
noncomputable def ck : Code → Nat
  | .func .. => 0
  | .forLoop .. => 1
  | .builtin id _ => if id == "claim.caller" then 2 else 3
  | _ => 3
theorem ck_func {c : Code} (h : ck c = 0) : ∃ b e, c = .func b e := by
  cases c with
  | func b e => exact ⟨b, e, rfl⟩
  | builtin id a =>
    have : (if id == "claim.caller" then 2 else 3) = 0 := h
    split at this <;> cases this
  | forLoop t i b o e => exact absurd h (by intro z; cases z)
  | _ => exact absurd h (by intro z; cases z)
theorem ck_for {c : Code} (h : ck c = 1) : ∃ t i b o e, c = .forLoop t i b o e := by
  cases c with
  | forLoop t i b o e => exact ⟨t, i, b, o, e, rfl⟩
  | builtin id a =>
    have : (if id == "claim.caller" then 2 else 3) = 1 := h
    split at this <;> cases this
  | func b e => exact absurd h (by intro z; cases z)
  | _ => exact absurd h (by intro z; cases z)
theorem ck_caller {c : Code} (h : ck c = 2) : ∃ a, c = .builtin "claim.caller" a := by
  cases c with
  | builtin id a =>
    have h2 : (if id == "claim.caller" then 2 else 3) = 2 := h
    by_cases q : (id == "claim.caller") = true
    · rw [eq_of_beq q]; exact ⟨a, rfl⟩
    · rw [if_neg q] at h2; cases h2
  | func b e => exact absurd h (by intro z; cases z)
  | forLoop t i b o e => exact absurd h (by intro z; cases z)
  | _ => exact absurd h (by intro z; cases z)
noncomputable def sh (l : List Nat) (W : List (Code × Pos)) : Bool := decide (W.map (fun x => ck x.1) = l)
theorem sh_cons {k : Nat} {l : List Nat} {c : Code} {p : Pos} {W : List (Code × Pos)} (h : sh (k :: l) ((c, p) :: W) = true) : ck c = k ∧ sh l W = true := by
  have h2 := of_decide_eq_true h
  simp only [List.map_cons, List.cons.injEq] at h2
  exact ⟨h2.1, decide_eq_true h2.2⟩
theorem sh_ne {k : Nat} {l : List Nat} {W : List (Code × Pos)} (h : sh (k :: l) W = true) : ∃ c p W', W = (c, p) :: W' ∧ ck c = k ∧ sh l W' = true := by
  cases W with
  | nil => exact absurd (of_decide_eq_true h) (by intro z; cases z)
  | cons x W =>
    obtain ⟨c, p⟩ := x
    exact ⟨c, p, W, rfl, sh_cons h⟩
theorem sh_nil {W : List (Code × Pos)} (h : sh [] W = true) : W = [] := by
  cases W with
  | nil => rfl
  | cons x W => exact absurd (of_decide_eq_true h) (by intro z; cases z)
theorem all_nil {α : Type} {P : α → Prop} : ∀ q ∈ ([] : List α), P q := fun _ h => nomatch h
theorem all_cons {α : Type} {P : α → Prop} {a : α} {l : List α} (h : P a) (t : ∀ q ∈ l, P q) : ∀ q ∈ a :: l, P q := List.forall_mem_cons.mpr ⟨h, t⟩
theorem f2_nil {fin : List (Nat × Obj)} : ∀ q ∈ ([] : List (Nat × Nat × Obj)), (q.2.1, q.2.2) ∈ fin := fun _ h => nomatch h
theorem f2_cons {fin : List (Nat × Obj)} {i a : Nat} {o : Obj} {l : List (Nat × Nat × Obj)} (h : (a, o) ∈ fin) (t : ∀ q ∈ l, (q.2.1, q.2.2) ∈ fin) : ∀ q ∈ (i, a, o) :: l, (q.2.1, q.2.2) ∈ fin := List.forall_mem_cons.mpr ⟨h, t⟩
theorem m0 {α : Type} {a : α} {l : List α} : a ∈ a :: l := List.mem_cons_self
theorem mt {α : Type} {a b : α} {l : List α} (h : a ∈ l) : a ∈ b :: l := List.mem_cons_of_mem _ h
end Mine
namespace Mine
open PySem PySem.W
variable {w : World}
end Mine
set_option linter.all false
namespace Mine
open PySem PySem.W
theorem esFind_not {es : List E} {x : Int} (h : esFind es x = none) : x ∉ es.map (·.k) := by
  induction es with
  | nil => exact List.not_mem_nil
  | cons y r ih =>
    unfold esFind at h
    by_cases q : y.k = x
    · rw [if_pos q] at h; cases h
    · rw [if_neg q] at h
      rw [List.map_cons, List.mem_cons, not_or]
      exact ⟨fun z => q z.symm, ih h⟩

theorem pigeon : ∀ (n : Nat) (l : List Int), l.Nodup → (∀ k ∈ l, 0 ≤ k ∧ k < (n : Int)) → l.length ≤ n
  | 0, l, _, h => by
    cases l with
    | nil => exact Nat.le_refl _
    | cons k r =>
      have := h k List.mem_cons_self
      omega
  | n + 1, l, nd, h => by
    have h1 := pigeon n (l.erase (n : Int)) (nd.erase _) fun k hk => by
      obtain ⟨hne, hm⟩ := (nd.mem_erase_iff).mp hk
      have := h k hm
      omega
    have h2 : l.length - 1 ≤ (l.erase (n : Int)).length := by
      rw [List.length_erase]
      split <;> omega
    omega
theorem nd0 {α : Type} : ([] : List α).Nodup := List.nodup_nil
theorem nd1 : ([0] : List Nat).Nodup := by decide
theorem nd01 : ([0, 1] : List Nat).Nodup := by decide
theorem wq2 {W : List (Code × Pos)} (h : sh [2] W = true) : ∃ a0 p0, W = [(.builtin "claim.caller" a0, p0)] := by
  obtain ⟨c, p, W, rfl, hc, g⟩ := sh_ne h
  obtain ⟨x0, rfl⟩ := ck_caller hc
  obtain rfl := sh_nil g
  exact ⟨_, _, rfl⟩
theorem wq02 {W : List (Code × Pos)} (h : sh [0, 2] W = true) : ∃ b0 e0 p0 a1 p1, W = [(.func b0 e0, p0), (.builtin "claim.caller" a1, p1)] := by
  obtain ⟨c, p, W, rfl, hc, g⟩ := sh_ne h
  obtain ⟨x0, x1, rfl⟩ := ck_func hc
  obtain ⟨_, _, rfl⟩ := wq2 g
  exact ⟨_, _, _, _, _, rfl⟩
end Mine
set_option linter.all false
namespace Mine
open PySem PySem.W
/-- what a turn's run shows at its end, the new objects too -/
noncomputable def turnsZ (n : Nat) (newi : List Nat) (o : Out) := (o.cur, o.code, o.st, o.sz, o.toks, o.gens, (List.range n).map o.T.get, newi.map o.T.get)
/-- one turn of a loop that leaves new objects behind, and then the rest of it -/
theorem Summ.ofTurnZ {p : Program} {w : World} {K : Nat → Option Obj} {S : Summ} {sz tok : Nat} (pre' : List (Nat × Nat × Obj)) (dsz' : Option Nat) (dl' dtok' : Nat) (newi : List Nat) (newa F' : List (Nat × Obj)) (sz1 tok1 : Nat) (ini : List (Nat × Obj)) (n : Nat) (ops : List Op) (N : Nat)
    (hnew : S.new = []) (hfacts : S.facts = [newa ++ F']) (hge : ∀ q ∈ newa, sz ≤ q.1) (hle : sz ≤ sz1) (hg : S.newg = []) (hini : S.pre.map (·.2) = ini) (hN : ini.length = N) (hfin : pre'.map (·.2.1) = ini.map (·.1))
    (hsame : ∀ q ∈ pre', q.2 ∈ ini ∨ ∃ r ∈ S.post, r.2.1 = q.2.1) (nd : (ini.map (·.1)).Nodup) (hK' : ∀ q ∈ ini, K q.1 = none) (hi : iniOk ini .nil 0 = true)
    (hne : S.needs = [])
    (hsz : S.dsz.getD 0 + sz + S.dl = dsz'.getD 0 + sz1 + dl') (htok : tok + S.dtok = tok1 + dtok')
    (ok : OpsOk (mdl p w) K ops)
    (e : ∀ (k : Result → Sem Fin) (g : Bool) (l : List Value) (code : Code) (pos pos' : Pos) (kp : List Value) (W : List (Code × Pos)) (gens : List GenState), S.shape ((code, pos) :: W) = true →
      chk (tR p w K W n ops (mkT ini) N sz gens tok [] (tD S.code) S.code pos' [.ret k none g l code pos kp] [] []) (turnsZ N newi) =
      chk' (tR p w K W n ops (mkT ini) N sz gens tok [] (tD S.code) S.code pos' [.ret k none g l code pos kp] [] [])
        (tD S.code, S.code, [.ret k none g l code pos kp], sz1, tok1, appG gens [], (pre'.map (·.2)).map some, newa.map some))
    (next : Summ.Valid (mdl p w) K { S with pre := pre', dsz := dsz', dl := dl', dtok := dtok', facts := [F'], newg := [] } sz1 tok1) : S.Valid (mdl p w) K sz tok := by
  intro s k g l code pos pos' kp st hK hpre hpo hne1 hne' hs ht hb hsh
  obtain ⟨h, ⟨gens⟩, d, toks, os⟩ := s
  replace ht : toks = tok := ht
  subst ht hini hN
  obtain ⟨out, h1, e1, C, c1, c2, c3, c4⟩ := go (d := d) (os := os) (bot := st) rfl hb hK hK' (fun q hq => by
      obtain ⟨x, hx, rfl⟩ := List.mem_map.mp hq
      exact hpre x hx) nd (fun x hx => absurd hx (List.not_mem_nil)) hs rfl hi ok (e k g l code pos pos' kp (st.map Frame.where_) gens hsh)
  simp only [turnsZ, Prod.mk.injEq, appG_eq, List.append_nil] at e1
  obtain ⟨e1, e2, e3, e4, e5, e6, e7, e8⟩ := e1
  rw [tD_eq] at C e1
  rw [e1, e2, e3, e5, e6] at C
  have hfinget : ∀ q ∈ pre', h1.get? q.2.1 = some q.2.2 := fun q hq => by
    have : some q.2 ∈ (pre'.map (·.2)).map some := List.mem_map.mpr ⟨q.2, List.mem_map.mpr ⟨q, hq, rfl⟩, rfl⟩
    rw [← e7] at this
    obtain ⟨i, _, hi⟩ := List.mem_map.mp this
    exact c2 i q.2.1 q.2.2 hi
  have hin : ∀ b, b ∈ (S.pre.map (·.2)).map (·.1) → ∃ q ∈ pre', q.2.1 = b := fun b hm => by
    rw [← hfin] at hm
    obtain ⟨q, hq, rfl⟩ := List.mem_map.mp hm
    exact ⟨q, hq, rfl⟩
  have keep : ∀ b o, h.get? b = some o → (∀ q ∈ S.post, q.2.1 ≠ b) → h1.get? b = some o := fun b o hb' hn => by
    by_cases hm : b ∈ (S.pre.map (·.2)).map (·.1)
    · obtain ⟨q, hq, rfl⟩ := hin b hm
      rcases hsame q hq with z | ⟨r, hr, z⟩
      · obtain ⟨x, hx, z⟩ := List.mem_map.mp z
        have := hpre x hx
        rw [show (Shared.heap ⟨h, ⟨gens⟩, d, toks, os⟩).get? x.2.1 = h.get? x.2.1 from rfl, z, hb'] at this
        rw [hfinget q hq, this]
      · exact absurd z (hn r hr)
    · exact c4 b o hb' hm
  obtain ⟨h', C2, w1, w2, w3, w4, w5⟩ := next ⟨h1, ⟨gens⟩, d, tok1, os⟩ k g l code pos out.pos kp st (fun a o q => by
      by_cases hm : a ∈ (S.pre.map (·.2)).map (·.1)
      · obtain ⟨x, hx, rfl⟩ := List.mem_map.mp hm
        rw [hK' x hx] at q; cases q
      · exact c4 a o (hK a o q) hm) hfinget (fun q hq => by
      obtain ⟨o, ho⟩ := hpo q hq
      by_cases hm : q.2.1 ∈ (S.pre.map (·.2)).map (·.1)
      · obtain ⟨x, hx, z⟩ := hin _ hm
        exact ⟨x.2.2, z ▸ hfinget x hx⟩
      · exact ⟨o, c4 _ o ho hm⟩) (fun n hn => by rw [hne] at hn; cases hn) (fun n hn => by rw [hne] at hn; cases hn) (c1.trans e4) rfl hb hsh
  have hnw : ∀ q ∈ newa, h1.get? q.1 = some q.2 := fun q hq => by
    have : some q ∈ newa.map some := List.mem_map.mpr ⟨q, hq, rfl⟩
    rw [← e8] at this
    obtain ⟨i, _, hi⟩ := List.mem_map.mp this
    exact c2 i q.1 q.2 hi
  refine ⟨h', ?_, w1.trans hsz.symm, w2, (by rw [hnew]; exact fun _ z => nomatch z), ?_, fun b o hb' hn => w5 b o (keep b o hb' hn) hn⟩
  · have C3 := C.trans C2
    rw [htok, hg]
    exact C3
  · rw [hfacts, hnew]
    intro l hl q hq
    rw [List.mem_singleton.mp hl] at hq
    refine ⟨?_, ?_, fun _ z => nomatch z⟩
    · rcases List.mem_append.mp hq with hq | hq
      · refine w5 q.1 q.2 (hnw q hq) fun r hr z => ?_
        obtain ⟨o, ho⟩ := hpo r hr
        have h3 : r.2.1 < sz := hs ▸ Heap.lt_size ho
        exact absurd (Nat.lt_of_lt_of_le h3 (hge q hq)) (by rw [z]; exact Nat.lt_irrefl _)
      · exact (w4 F' (List.mem_singleton.mpr rfl) q hq).1
    · rcases List.mem_append.mp hq with hq | hq
      · exact hge q hq
      · exact Nat.le_trans hle (w4 F' (List.mem_singleton.mpr rfl) q hq).2.1
/-- a loop: its state, what stands in its slots, what a turn does to the state, what it costs -/
structure LoopZ (σ ε : Type) where
  code : Code
  res : Result
  slots : Nat → σ → List (Nat × Nat × Obj)
  fin : Nat → σ → List (Nat × Obj)
  post : Nat → σ → List (Nat × Nat × Obj)
  edl : Nat
  edt : Nat
  step : ε → σ → Nat → Nat → σ
  fact : ε → σ → Nat → Nat → List (Nat × Obj)
  sdl : ε → σ → Nat → Nat
  sdt : ε → σ → Nat → Nat
  shape : List (Code × Pos) → Bool := fun _ => true

variable {σ ε : Type}
noncomputable def LoopZ.go (L : LoopZ σ ε) : List ε → σ → Nat → Nat → σ × Nat × Nat × List (Nat × Obj)
  | [], st, _, _ => (st, 0, L.edt, [])
  | e :: r, st, z, t => ((L.go r (L.step e st z t) (z + L.sdl e st t) (t + L.sdt e st t)).1, L.sdl e st t + (L.go r (L.step e st z t) (z + L.sdl e st t) (t + L.sdt e st t)).2.1,
      L.sdt e st t + (L.go r (L.step e st z t) (z + L.sdl e st t) (t + L.sdt e st t)).2.2.1, L.fact e st z t ++ (L.go r (L.step e st z t) (z + L.sdl e st t) (t + L.sdt e st t)).2.2.2)
noncomputable def LoopZ.S (L : LoopZ σ ε) (n : Nat) (rem : List ε) (st : σ) (z t : Nat) : Summ :=
  { code := L.code, res := L.res, pre := L.slots n st, post := L.post (n + rem.length) (L.go rem st z t).1, dsz := some (L.go rem st z t).2.1, dl := L.edl, dtok := (L.go rem st z t).2.2.1, shape := L.shape, facts := [(L.go rem st z t).2.2.2] }
theorem Summ.Valid.fact0 {M : Model} {K : Nat → Option Obj} {S : Summ} {sz tok : Nat} (h : Summ.Valid M K { S with facts := [] } sz tok) (hf : S.facts = [[]]) : S.Valid M K sz tok := by
  intro s k g l code pos pos' kp st hK hpre hpo hne hne' hs ht hb hsh
  obtain ⟨h', C, c1, c2, c3, c4, c5⟩ := h s k g l code pos pos' kp st hK hpre hpo hne hne' hs ht hb hsh
  refine ⟨h', C, c1, c2, c3, ?_, c5⟩
  rw [hf]
  intro l hl q hq
  rw [List.mem_singleton.mp hl] at hq
  cases hq

theorem LoopZ.valid {p : Program} {w : World} {K : Nat → Option Obj} (L : LoopZ σ ε) (addrs paddrs : List Nat) (len : Nat) (I : Nat → σ → Prop) (el : Nat → ε → Prop) (last : Nat → Prop) (lo : Nat)
    (h1 : ∀ n st, (L.slots n st).map (·.2.1) = addrs) (hl : addrs.length = len) (hi : ∀ n st, iniOk ((L.slots n st).map (·.2)) .nil 0 = true) (nd : addrs.Nodup) (hK : ∀ a ∈ addrs, K a = none)
    (hp : ∀ n st, (L.post n st).map (·.2.1) = paddrs) (hsame : ∀ n st n' st', ∀ q ∈ L.slots n' st', q.2 ∈ (L.slots n st).map (·.2) ∨ q.2.1 ∈ paddrs)
    (turn : ∀ n st e sz tok, lo ≤ sz → I n st → el n e → I (n + 1) (L.step e st sz tok) ∧ (∀ q ∈ L.fact e st sz tok, sz ≤ q.1) ∧ ∃ N ops newi, OpsOk (mdl p w) K ops ∧
      ∀ (k : Result → Sem Fin) (g : Bool) (l : List Value) (code : Code) (pos pos' : Pos) (kp : List Value) (W : List (Code × Pos)) (gens : List GenState), L.shape ((code, pos) :: W) = true →
        chk (tR p w K W N ops (mkT ((L.slots n st).map (·.2))) len sz gens tok [] (tD L.code) L.code pos' [.ret k none g l code pos kp] [] []) (turnsZ len newi) =
        chk' (tR p w K W N ops (mkT ((L.slots n st).map (·.2))) len sz gens tok [] (tD L.code) L.code pos' [.ret k none g l code pos kp] [] [])
          (tD L.code, L.code, [.ret k none g l code pos kp], sz + L.sdl e st tok, tok + L.sdt e st tok, appG gens [], ((L.slots (n + 1) (L.step e st sz tok)).map (·.2)).map some, (L.fact e st sz tok).map some))
    (fin : ∀ n st sz tok, lo ≤ sz → I n st → last n → ∃ N ops, OpsOk (mdl p w) K ops ∧
      ∀ (k : Result → Sem Fin) (g : Bool) (l : List Value) (code : Code) (pos pos' : Pos) (kp : List Value) (W : List (Code × Pos)) (gens : List GenState), L.shape ((code, pos) :: W) = true →
        chk (tR p w K W N ops (mkT ((L.slots n st).map (·.2))) len sz gens tok [] (tD L.code) L.code pos' [.ret k none g l code pos kp] [] []) (ends len []) =
        chk' (tR p w K W N ops (mkT ((L.slots n st).map (·.2))) len sz gens tok [] (tD L.code) L.code pos' [.ret k none g l code pos kp] [] [])
          (k L.res, code, pos, [], sz + L.edl, tok + L.edt, appG gens [], [], (L.fin n st).map some, []))
    (hf1 : ∀ n st, (L.fin n st).map (·.1) = addrs) (hf2 : ∀ n st, ∀ q ∈ L.post n st, (q.2.1, q.2.2) ∈ L.fin n st) (hf3 : ∀ n st, ∀ q ∈ L.fin n st, q ∈ (L.slots n st).map (·.2) ∨ q.1 ∈ paddrs) :
    ∀ (rem : List ε) (n : Nat) (st : σ) (sz tok : Nat), lo ≤ sz → (∀ i e, rem[i]? = some e → el (n + i) e) → last (n + rem.length) → I n st → (L.S n rem st sz tok).Valid (mdl p w) K sz tok
  | [], n, st, sz, tok, hlo, he, hla, hI => by
    obtain ⟨N, ops, ok, run⟩ := fin n st sz tok hlo hI hla
    have hm : ∀ n st, ((L.slots n st).map (·.2)).map (·.1) = addrs := fun n st => by rw [List.map_map]; exact h1 n st
    refine Summ.Valid.fact0 ?_ rfl
    refine Summ.Valid.none_dsz (S := { L.S n [] st sz tok with facts := [] }) ?_
    refine Summ.ofRun ((L.slots n st).map (·.2)) (L.fin n st) [] N ops len [] rfl rfl (by rw [← hl, ← h1 n st]; simp) ((hf1 n st).trans (hm n st).symm) (hf2 n st) (fun q hq => ?_) (by rw [hm]; exact nd) (fun q hq => hK _ (by rw [← hm n st]; exact List.mem_map.mpr ⟨q, hq, rfl⟩)) (hi n st) (fun l hl => nomatch hl) (fun l hl => nomatch hl) ok run
    rcases hf3 n st q hq with z | z
    · exact .inl z
    · rw [← hp n st] at z
      obtain ⟨r, hr, z⟩ := List.mem_map.mp z
      exact .inr ⟨r, hr, z⟩
  | e :: rem, n, st, sz, tok, hlo, he, hla, hI => by
    obtain ⟨hI', hfg, N, ops, newi, ok, run⟩ := turn n st e sz tok hlo hI (he 0 e rfl)
    have hm : ∀ n st, ((L.slots n st).map (·.2)).map (·.1) = addrs := fun n st => by rw [List.map_map]; exact h1 n st
    have next := L.valid addrs paddrs len I el last lo h1 hl hi nd hK hp hsame turn fin hf1 hf2 hf3 rem (n + 1) (L.step e st sz tok) (sz + L.sdl e st tok) (tok + L.sdt e st tok) (Nat.le_trans hlo (Nat.le_add_right _ _)) (fun i x hx => by
      have := he (i + 1) x (by simpa using hx)
      rw [show n + (i + 1) = n + 1 + i by omega] at this
      exact this) (by rw [show n + 1 + rem.length = n + (e :: rem).length by simp; omega]; exact hla) hI'
    refine Summ.ofTurnZ (S := L.S n (e :: rem) st sz tok) (L.slots (n + 1) (L.step e st sz tok)) (some (L.go rem (L.step e st sz tok) (sz + L.sdl e st tok) (tok + L.sdt e st tok)).2.1) L.edl (L.go rem (L.step e st sz tok) (sz + L.sdl e st tok) (tok + L.sdt e st tok)).2.2.1 newi (L.fact e st sz tok) (L.go rem (L.step e st sz tok) (sz + L.sdl e st tok) (tok + L.sdt e st tok)).2.2.2 (sz + L.sdl e st tok) (tok + L.sdt e st tok) (List.map (fun q : Nat × Nat × Obj => q.2) (L.slots n st)) N ops len
      rfl rfl hfg (Nat.le_add_right _ _) rfl rfl (by rw [← hl, ← h1 n st]; simp) ((h1 _ _).trans (hm n st).symm) (fun q hq => ?_) (by rw [hm]; exact nd) (fun q hq => hK _ (by rw [← hm n st]; exact List.mem_map.mpr ⟨q, hq, rfl⟩)) (hi n st) rfl ?_ ?_ ok run ?_
    · rcases hsame n st _ _ q hq with z | z
      · exact .inl z
      · rw [← hp (n + (e :: rem).length) (L.go (e :: rem) st sz tok).1] at z
        obtain ⟨r, hr, z⟩ := List.mem_map.mp z
        exact .inr ⟨r, hr, z⟩
    · show L.sdl e st tok + _ + sz + L.edl = _ + (sz + L.sdl e st tok) + L.edl
      simp only [Option.getD_some]
      omega
    · show tok + (L.sdt e st tok + _) = tok + L.sdt e st tok + _
      omega
    · have hx : n + 1 + rem.length = n + (e :: rem).length := by simp; omega
      unfold LoopZ.S at next
      rw [hx] at next
      exact next

/-- the same summary, its end said by names -/
noncomputable def LoopZ.T (L : LoopZ σ ε) (n m : Nat) (st st' : σ) (dz dt : Nat) (F : List (Nat × Obj)) : Summ :=
  { code := L.code, res := L.res, pre := L.slots n st, post := L.post m st', dsz := some dz, dl := L.edl, dtok := dt, shape := L.shape, facts := [F] }
theorem LoopZ.T_ok {M : Model} {K : Nat → Option Obj} {L : LoopZ σ ε} {n m : Nat} {st st' : σ} {dz dt sz tok : Nat} {F : List (Nat × Obj)} {rem : List ε} (h : (L.S n rem st sz tok).Valid M K sz tok) (hm : m = n + rem.length) (hg : L.go rem st sz tok = (st', dz, dt, F)) : (L.T n m st st' dz dt F).Valid M K sz tok := by
  subst hm
  unfold LoopZ.S at h
  rw [hg] at h
  exact h
end Mine
set_option linter.all false
namespace Mine
open PySem PySem.W
/-- one turn of a loop, and then the rest of it; the element's own objects are known and stay, new objects stay behind as facts -/
theorem Summ.ofTurnW {p : Program} {w : World} {K : Nat → Option Obj} {S : Summ} {sz tok : Nat} (pre' : List (Nat × Nat × Obj)) (ex : List (Nat × Obj)) (j : Nat) (FF : List (Nat × Obj)) (dsz' : Option Nat) (dl' dtok' : Nat) (newi : List Nat) (newa F' : List (Nat × Obj)) (sz1 tok1 : Nat) (ini : List (Nat × Obj)) (n : Nat) (ops : List Op) (N : Nat)
    (hnew : S.new = []) (hfacts : S.facts = [newa ++ F']) (hge : ∀ q ∈ newa, sz ≤ q.1) (hle : sz ≤ sz1) (hg : S.newg = []) (hini : S.pre.map (·.2) ++ ex = ini) (hN : ini.length = N) (hfin : pre'.map (·.2.1) = (S.pre.map (·.2)).map (·.1))
    (hsame : ∀ q ∈ pre', q.2 ∈ S.pre.map (·.2) ∨ ∃ r ∈ S.post, r.2.1 = q.2.1) (nd : (ini.map (·.1)).Nodup) (hK' : ∀ q ∈ ini, K q.1 = none) (hi : iniOk ini .nil 0 = true)
    (hne : S.needs = [(j, FF)]) (hex : ∀ q ∈ ex, q ∈ FF)
    (hsz : S.dsz.getD 0 + sz + S.dl = dsz'.getD 0 + sz1 + dl') (htok : tok + S.dtok = tok1 + dtok')
    (ok : OpsOk (mdl p w) K ops)
    (e : ∀ (k : Result → Sem Fin) (g : Bool) (l : List Value) (code : Code) (pos pos' : Pos) (kp : List Value) (W : List (Code × Pos)) (gens : List GenState), S.shape ((code, pos) :: W) = true →
      chk (tR p w K W n ops (mkT ini) N sz gens tok [] (tD S.code) S.code pos' [.ret k none g l code pos kp] [] []) (turnsZ N newi) =
      chk' (tR p w K W n ops (mkT ini) N sz gens tok [] (tD S.code) S.code pos' [.ret k none g l code pos kp] [] [])
        (tD S.code, S.code, [.ret k none g l code pos kp], sz1, tok1, appG gens [], (pre'.map (·.2) ++ ex).map some, newa.map some))
    (next : Summ.Valid (mdl p w) K { S with pre := pre', dsz := dsz', dl := dl', dtok := dtok', facts := [F'], newg := [] } sz1 tok1) : S.Valid (mdl p w) K sz tok := by
  intro s k g l code pos pos' kp st hK hpre hpo hne1 hne' hs ht hb hsh
  obtain ⟨h, ⟨gens⟩, d, toks, os⟩ := s
  replace ht : toks = tok := ht
  subst ht hini hN
  have hFF : ∀ q ∈ FF, h.get? q.1 = some q.2 := fun q hq => hne1 (j, FF) (by rw [hne]; exact List.mem_singleton.mpr rfl) q hq
  have hFn : ∀ q ∈ FF, ∀ r ∈ S.post, q.1 ≠ r.2.1 := fun q hq => hne' (j, FF) (by rw [hne]; exact List.mem_singleton.mpr rfl) q hq
  obtain ⟨out, h1, e1, C, c1, c2, c3, c4⟩ := go (d := d) (os := os) (bot := st) rfl hb hK hK' (fun q hq => by
      rcases List.mem_append.mp hq with hq | hq
      · obtain ⟨x, hx, rfl⟩ := List.mem_map.mp hq
        exact hpre x hx
      · exact hFF q (hex q hq)) nd (fun x hx => absurd hx (List.not_mem_nil)) hs rfl hi ok (e k g l code pos pos' kp (st.map Frame.where_) gens hsh)
  simp only [turnsZ, Prod.mk.injEq, appG_eq, List.append_nil] at e1
  obtain ⟨e1, e2, e3, e4, e5, e6, e7, e8⟩ := e1
  rw [tD_eq] at C e1
  rw [e1, e2, e3, e5, e6] at C
  have hall : ∀ q ∈ pre'.map (·.2) ++ ex, h1.get? q.1 = some q.2 := fun q hq => by
    have : some q ∈ (pre'.map (·.2) ++ ex).map some := List.mem_map.mpr ⟨q, hq, rfl⟩
    rw [← e7] at this
    obtain ⟨i, _, hi⟩ := List.mem_map.mp this
    exact c2 i q.1 q.2 hi
  have hfinget : ∀ q ∈ pre', h1.get? q.2.1 = some q.2.2 := fun q hq => hall q.2 (List.mem_append_left _ (List.mem_map.mpr ⟨q, hq, rfl⟩))
  have hin : ∀ b, b ∈ (S.pre.map (·.2)).map (·.1) → ∃ q ∈ pre', q.2.1 = b := fun b hm => by
    rw [← hfin] at hm
    obtain ⟨q, hq, rfl⟩ := List.mem_map.mp hm
    exact ⟨q, hq, rfl⟩
  have keep : ∀ b o, h.get? b = some o → (∀ q ∈ S.post, q.2.1 ≠ b) → h1.get? b = some o := fun b o hb' hn => by
    by_cases hm : b ∈ (S.pre.map (·.2)).map (·.1)
    · obtain ⟨q, hq, rfl⟩ := hin b hm
      rcases hsame q hq with z | ⟨r, hr, z⟩
      · obtain ⟨x, hx, z⟩ := List.mem_map.mp z
        have := hpre x hx
        rw [show (Shared.heap ⟨h, ⟨gens⟩, d, toks, os⟩).get? x.2.1 = h.get? x.2.1 from rfl, z, hb'] at this
        rw [hfinget q hq, this]
      · exact absurd z (hn r hr)
    · by_cases hx : b ∈ ex.map (·.1)
      · obtain ⟨q, hq, rfl⟩ := List.mem_map.mp hx
        have := hFF q (hex q hq)
        rw [hb'] at this
        rw [hall q (List.mem_append_right _ hq), ← this]
      · exact c4 b o hb' (by rw [List.map_append, List.mem_append]; exact fun z => z.elim hm hx)
  obtain ⟨h', C2, w1, w2, w3, w4, w5⟩ := next ⟨h1, ⟨gens⟩, d, tok1, os⟩ k g l code pos out.pos kp st (fun a o q => by
      by_cases hm : a ∈ (S.pre.map (·.2) ++ ex).map (·.1)
      · obtain ⟨x, hx, rfl⟩ := List.mem_map.mp hm
        rw [hK' x hx] at q; cases q
      · exact c4 a o (hK a o q) hm) hfinget (fun q hq => by
      obtain ⟨o, ho⟩ := hpo q hq
      by_cases hm : q.2.1 ∈ (S.pre.map (·.2)).map (·.1)
      · obtain ⟨x, hx, z⟩ := hin _ hm
        exact ⟨x.2.2, z ▸ hfinget x hx⟩
      · by_cases hx : q.2.1 ∈ ex.map (·.1)
        · obtain ⟨x, hx, z⟩ := List.mem_map.mp hx
          exact ⟨x.2, z ▸ hall x (List.mem_append_right _ hx)⟩
        · exact ⟨o, c4 _ o ho (by rw [List.map_append, List.mem_append]; exact fun z => z.elim hm hx)⟩)
      (fun n hn q hq => by
        replace hn : n ∈ S.needs := hn
        rw [hne] at hn
        rw [List.mem_singleton.mp hn] at hq
        exact keep q.1 q.2 (hFF q hq) (fun r hr z => hFn q hq r hr z.symm))
      (fun n hn q hq r hr => by
        replace hn : n ∈ S.needs := hn
        rw [hne] at hn
        rw [List.mem_singleton.mp hn] at hq
        exact hFn q hq r hr) (c1.trans e4) rfl hb hsh
  have hnw : ∀ q ∈ newa, h1.get? q.1 = some q.2 := fun q hq => by
    have : some q ∈ newa.map some := List.mem_map.mpr ⟨q, hq, rfl⟩
    rw [← e8] at this
    obtain ⟨i, _, hi⟩ := List.mem_map.mp this
    exact c2 i q.1 q.2 hi
  refine ⟨h', ?_, w1.trans hsz.symm, w2, (by rw [hnew]; exact fun _ z => nomatch z), ?_, fun b o hb' hn => w5 b o (keep b o hb' hn) hn⟩
  · have C3 := C.trans C2
    rw [htok, hg]
    exact C3
  · rw [hfacts, hnew]
    intro l hl q hq
    rw [List.mem_singleton.mp hl] at hq
    refine ⟨?_, ?_, fun _ z => nomatch z⟩
    · rcases List.mem_append.mp hq with hq | hq
      · refine w5 q.1 q.2 (hnw q hq) fun r hr z => ?_
        obtain ⟨o, ho⟩ := hpo r hr
        have h3 : r.2.1 < sz := hs ▸ Heap.lt_size ho
        exact absurd (Nat.lt_of_lt_of_le h3 (hge q hq)) (by rw [z]; exact Nat.lt_irrefl _)
      · exact (w4 F' (List.mem_singleton.mpr rfl) q hq).1
    · rcases List.mem_append.mp hq with hq | hq
      · exact hge q hq
      · exact Nat.le_trans hle (w4 F' (List.mem_singleton.mpr rfl) q hq).2.1
/-- a loop: its state, what stands in its slots, what a turn does to the state, what it costs -/
structure LoopW (σ ε : Type) where
  code : Code
  res : Result
  slots : Nat → σ → List (Nat × Nat × Obj)
  fin : Nat → σ → List (Nat × Obj)
  post : Nat → σ → List (Nat × Nat × Obj)
  edl : Nat
  edt : Nat
  step : ε → σ → Nat → Nat → σ
  fact : ε → σ → Nat → Nat → List (Nat × Obj)
  sdl : ε → σ → Nat → Nat
  sdt : ε → σ → Nat → Nat
  ex : ε → List (Nat × Obj)
  need : List (Nat × Obj)
  nj : Nat
  shape : List (Code × Pos) → Bool := fun _ => true

variable {σ ε : Type}
noncomputable def LoopW.go (L : LoopW σ ε) : List ε → σ → Nat → Nat → σ × Nat × Nat × List (Nat × Obj)
  | [], st, _, _ => (st, 0, L.edt, [])
  | e :: r, st, z, t => ((L.go r (L.step e st z t) (z + L.sdl e st t) (t + L.sdt e st t)).1, L.sdl e st t + (L.go r (L.step e st z t) (z + L.sdl e st t) (t + L.sdt e st t)).2.1,
      L.sdt e st t + (L.go r (L.step e st z t) (z + L.sdl e st t) (t + L.sdt e st t)).2.2.1, L.fact e st z t ++ (L.go r (L.step e st z t) (z + L.sdl e st t) (t + L.sdt e st t)).2.2.2)
noncomputable def LoopW.S (L : LoopW σ ε) (n : Nat) (rem : List ε) (st : σ) (z t : Nat) : Summ :=
  { code := L.code, res := L.res, pre := L.slots n st, post := L.post (n + rem.length) (L.go rem st z t).1, dsz := some (L.go rem st z t).2.1, dl := L.edl, dtok := (L.go rem st z t).2.2.1, shape := L.shape, facts := [(L.go rem st z t).2.2.2], needs := [(L.nj, L.need)] }
theorem LoopW.valid {p : Program} {w : World} {K : Nat → Option Obj} (L : LoopW σ ε) (addrs paddrs : List Nat) (len xl : Nat) (I : Nat → σ → Prop) (el : Nat → ε → Prop) (last : Nat → Prop) (lo : Nat)
    (h1 : ∀ n st, (L.slots n st).map (·.2.1) = addrs) (hl : addrs.length = len) (hi : ∀ n st, iniOk ((L.slots n st).map (·.2)) .nil 0 = true) (nd : addrs.Nodup) (hK : ∀ a ∈ addrs, K a = none) (hex : ∀ n e, el n e → (∀ q ∈ L.ex e, q ∈ L.need) ∧ ((L.ex e).map (·.1)).Nodup ∧ (L.ex e).length = xl ∧ ∀ n st, iniOk ((L.slots n st).map (·.2) ++ L.ex e) .nil 0 = true) (hneed : ∀ q ∈ L.need, q.1 ∉ addrs ∧ K q.1 = none)
    (hp : ∀ n st, (L.post n st).map (·.2.1) = paddrs) (hsame : ∀ n st n' st', ∀ q ∈ L.slots n' st', q.2 ∈ (L.slots n st).map (·.2) ∨ q.2.1 ∈ paddrs)
    (turn : ∀ n st e sz tok, lo ≤ sz → I n st → el n e → I (n + 1) (L.step e st sz tok) ∧ (∀ q ∈ L.fact e st sz tok, sz ≤ q.1) ∧ ∃ N ops newi, OpsOk (mdl p w) K ops ∧
      ∀ (k : Result → Sem Fin) (g : Bool) (l : List Value) (code : Code) (pos pos' : Pos) (kp : List Value) (W : List (Code × Pos)) (gens : List GenState), L.shape ((code, pos) :: W) = true →
        chk (tR p w K W N ops (mkT ((L.slots n st).map (·.2) ++ L.ex e)) (len + xl) sz gens tok [] (tD L.code) L.code pos' [.ret k none g l code pos kp] [] []) (turnsZ (len + xl) newi) =
        chk' (tR p w K W N ops (mkT ((L.slots n st).map (·.2) ++ L.ex e)) (len + xl) sz gens tok [] (tD L.code) L.code pos' [.ret k none g l code pos kp] [] [])
          (tD L.code, L.code, [.ret k none g l code pos kp], sz + L.sdl e st tok, tok + L.sdt e st tok, appG gens [], ((L.slots (n + 1) (L.step e st sz tok)).map (·.2) ++ L.ex e).map some, (L.fact e st sz tok).map some))
    (fin : ∀ n st sz tok, lo ≤ sz → I n st → last n → ∃ N ops, OpsOk (mdl p w) K ops ∧
      ∀ (k : Result → Sem Fin) (g : Bool) (l : List Value) (code : Code) (pos pos' : Pos) (kp : List Value) (W : List (Code × Pos)) (gens : List GenState), L.shape ((code, pos) :: W) = true →
        chk (tR p w K W N ops (mkT ((L.slots n st).map (·.2))) len sz gens tok [L.need] (tD L.code) L.code pos' [.ret k none g l code pos kp] [] []) (ends len []) =
        chk' (tR p w K W N ops (mkT ((L.slots n st).map (·.2))) len sz gens tok [L.need] (tD L.code) L.code pos' [.ret k none g l code pos kp] [] [])
          (k L.res, code, pos, [], sz + L.edl, tok + L.edt, appG gens [], [L.need], (L.fin n st).map some, []))
    (hf1 : ∀ n st, (L.fin n st).map (·.1) = addrs) (hf2 : ∀ n st, ∀ q ∈ L.post n st, (q.2.1, q.2.2) ∈ L.fin n st) (hf3 : ∀ n st, ∀ q ∈ L.fin n st, q ∈ (L.slots n st).map (·.2) ∨ q.1 ∈ paddrs) :
    ∀ (rem : List ε) (n : Nat) (st : σ) (sz tok : Nat), lo ≤ sz → (∀ i e, rem[i]? = some e → el (n + i) e) → last (n + rem.length) → I n st → (L.S n rem st sz tok).Valid (mdl p w) K sz tok
  | [], n, st, sz, tok, hlo, he, hla, hI => by
    obtain ⟨N, ops, ok, run⟩ := fin n st sz tok hlo hI hla
    have hm : ∀ n st, ((L.slots n st).map (·.2)).map (·.1) = addrs := fun n st => by rw [List.map_map]; exact h1 n st
    refine Summ.Valid.fact0 ?_ rfl
    refine Summ.Valid.none_dsz (S := { L.S n [] st sz tok with facts := [] }) ?_
    refine Summ.ofRun ((L.slots n st).map (·.2)) (L.fin n st) [] N ops len [L.need] rfl rfl (by rw [← hl, ← h1 n st]; simp) ((hf1 n st).trans (hm n st).symm) (hf2 n st) (fun q hq => ?_) (by rw [hm]; exact nd) (fun q hq => hK _ (by rw [← hm n st]; exact List.mem_map.mpr ⟨q, hq, rfl⟩)) (hi n st) (fun l hl q hq hm' => absurd (by rw [hm] at hm'; exact hm') (hneed q (by rw [List.mem_singleton.mp hl] at hq; exact hq)).1) (fun l hl => nomatch hl) ok run
    rcases hf3 n st q hq with z | z
    · exact .inl z
    · rw [← hp n st] at z
      obtain ⟨r, hr, z⟩ := List.mem_map.mp z
      exact .inr ⟨r, hr, z⟩
  | e :: rem, n, st, sz, tok, hlo, he, hla, hI => by
    obtain ⟨hI', hfg, N, ops, newi, ok, run⟩ := turn n st e sz tok hlo hI (he 0 e rfl)
    obtain ⟨x1, x2, x3, x4⟩ := hex _ _ (he 0 e rfl)
    have hm : ∀ n st, ((L.slots n st).map (·.2)).map (·.1) = addrs := fun n st => by rw [List.map_map]; exact h1 n st
    have next := L.valid addrs paddrs len xl I el last lo h1 hl hi nd hK hex hneed hp hsame turn fin hf1 hf2 hf3 rem (n + 1) (L.step e st sz tok) (sz + L.sdl e st tok) (tok + L.sdt e st tok) (Nat.le_trans hlo (Nat.le_add_right _ _)) (fun i x hx => by
      have := he (i + 1) x (by simpa using hx)
      rw [show n + (i + 1) = n + 1 + i by omega] at this
      exact this) (by rw [show n + 1 + rem.length = n + (e :: rem).length by simp; omega]; exact hla) hI'
    refine Summ.ofTurnW (S := L.S n (e :: rem) st sz tok) (L.slots (n + 1) (L.step e st sz tok)) (L.ex e) L.nj L.need (some (L.go rem (L.step e st sz tok) (sz + L.sdl e st tok) (tok + L.sdt e st tok)).2.1) L.edl (L.go rem (L.step e st sz tok) (sz + L.sdl e st tok) (tok + L.sdt e st tok)).2.2.1 newi (L.fact e st sz tok) (L.go rem (L.step e st sz tok) (sz + L.sdl e st tok) (tok + L.sdt e st tok)).2.2.2 (sz + L.sdl e st tok) (tok + L.sdt e st tok) (List.map (fun q : Nat × Nat × Obj => q.2) (L.slots n st) ++ L.ex e) N ops (len + xl)
      rfl rfl hfg (Nat.le_add_right _ _) rfl rfl (by rw [List.length_append, x3, ← hl, ← h1 n st]; simp) ((h1 _ _).trans (hm n st).symm) (fun q hq => ?_) ?_ (fun q hq => ?_) (x4 n st) rfl x1 ?_ ?_ ok run ?_
    · rcases hsame n st _ _ q hq with z | z
      · exact .inl z
      · rw [← hp (n + (e :: rem).length) (L.go (e :: rem) st sz tok).1] at z
        obtain ⟨r, hr, z⟩ := List.mem_map.mp z
        exact .inr ⟨r, hr, z⟩
    · rw [List.map_append, hm, List.nodup_append]
      refine ⟨nd, x2, fun a ha b hb z => ?_⟩
      obtain ⟨q, hq, rfl⟩ := List.mem_map.mp hb
      exact (hneed q (x1 q hq)).1 (z ▸ ha)
    · rcases List.mem_append.mp hq with hq | hq
      · exact hK _ (by rw [← hm n st]; exact List.mem_map.mpr ⟨q, hq, rfl⟩)
      · exact (hneed q (x1 q hq)).2
    · show L.sdl e st tok + _ + sz + L.edl = _ + (sz + L.sdl e st tok) + L.edl
      simp only [Option.getD_some]
      omega
    · show tok + (L.sdt e st tok + _) = tok + L.sdt e st tok + _
      omega
    · have hx : n + 1 + rem.length = n + (e :: rem).length := by simp; omega
      unfold LoopW.S at next
      rw [hx] at next
      exact next

/-- the same summary, its end said by names -/
noncomputable def LoopW.T (L : LoopW σ ε) (n m : Nat) (st st' : σ) (dz dt : Nat) (F : List (Nat × Obj)) : Summ :=
  { code := L.code, res := L.res, pre := L.slots n st, post := L.post m st', dsz := some dz, dl := L.edl, dtok := dt, shape := L.shape, facts := [F], needs := [(L.nj, L.need)] }
theorem LoopW.T_ok {M : Model} {K : Nat → Option Obj} {L : LoopW σ ε} {n m : Nat} {st st' : σ} {dz dt sz tok : Nat} {F : List (Nat × Obj)} {rem : List ε} (h : (L.S n rem st sz tok).Valid M K sz tok) (hm : m = n + rem.length) (hg : L.go rem st sz tok = (st', dz, dt, F)) : (L.T n m st st' dz dt F).Valid M K sz tok := by
  subst hm
  unfold LoopW.S at h
  rw [hg] at h
  exact h
/-- the same, the place of the needed facts told -/
noncomputable def LoopW.Tj (L : LoopW σ ε) (j n m : Nat) (st st' : σ) (dz dt : Nat) (F : List (Nat × Obj)) : Summ := { L.T n m st st' dz dt F with needs := [(j, L.need)] }
theorem LoopW.Tj_ok {M : Model} {K : Nat → Option Obj} {L : LoopW σ ε} {j n m : Nat} {st st' : σ} {dz dt sz tok : Nat} {F : List (Nat × Obj)} {rem : List ε} (h : (L.S n rem st sz tok).Valid M K sz tok) (hm : m = n + rem.length) (hg : L.go rem st sz tok = (st', dz, dt, F)) : (L.Tj j n m st st' dz dt F).Valid M K sz tok := by
  have := LoopW.T_ok h hm hg
  intro s k g l code pos pos' kp st hK hpre hpo hne hne' hs ht hb hsh
  exact this s k g l code pos pos' kp st hK hpre hpo (fun n hn q hq => hne (j, L.need) (List.mem_singleton.mpr rfl) q (by rw [List.mem_singleton.mp hn] at hq; exact hq)) (fun n hn q hq => hne' (j, L.need) (List.mem_singleton.mpr rfl) q (by rw [List.mem_singleton.mp hn] at hq; exact hq)) hs ht hb hsh
end Mine
set_option linter.all false
namespace Mine
open PySem PySem.W
noncomputable def lawF : Stmt := tstm (sBody (fnS 48)) 1
noncomputable def envL : Env := ⟨sScope (fnS 48), 1114, 3, [(str "key", 1116), (str "script", 1115)], str "law.<locals>.", some 1112, .ref 1111, some 1114, 0⟩
noncomputable def cLaw : Code := sFor lawF (.ref 1133) envL
noncomputable def rfD (d : Nat × E) : Value := .ref d.1
noncomputable def tpD (d : Nat × E) : Nat × Obj := (d.1, tupObj (kv d.2))
noncomputable def asgV : Stmt → PySem.Expr
  | .Assign _ v .. => v
  | _ => exD
noncomputable def retV : Stmt → PySem.Expr
  | .Return (some e) _ => e
  | _ => exD
noncomputable def ifT : Stmt → PySem.Expr
  | .If t .. => t
  | _ => exD
noncomputable def cmpL : PySem.Expr → PySem.Expr
  | .Compare l .. => l
  | _ => exD
noncomputable def heE : PySem.Expr := asgV (tstm (fbody lawF) 1)
noncomputable def wiE : PySem.Expr := cmpL (ifT (tstm (sBody (fnS 46)) 0))
noncomputable def wjE : PySem.Expr := retV (tstm (sBody (fnS 46)) 1)
noncomputable def woE : PySem.Expr := retV (tstm (sBody (fnS 47)) 0)
noncomputable def envHe (M : Nat) : Env := ⟨scCell (compSc heE), M, 3, [(str "key", 1116)], str "law.<locals>.", none, .ref 1111, some 1114, 0⟩
noncomputable def cHs (it acc M : Nat) : Code := .compStart heE 0 (.ref it) (.ref acc) (envHe M)
noncomputable def cHe (it acc M : Nat) : Code := .compLoop heE 0 (.ref it) (.ref acc) ⟨scCell (compSc heE), M, 3, [(str "key", 1116)], str "law.<locals>.", none, .ref 1111, some 1114, 0⟩
noncomputable def cWi (it acc M L cl : Nat) : Code := .compLoop wiE 0 (.ref it) (.ref acc) ⟨scCell (compSc wiE), M, 3, [(str "key", cl)], str "_law_with.<locals>.", none, .ref 1101, some L, 0⟩
noncomputable def cWj (it acc M L ck cn : Nat) : Code := .compLoop wjE 0 (.ref it) (.ref acc) ⟨scCell (compSc wjE), M, 3, [(str "key", ck), (str "count", cn)], str "_law_with.<locals>.", none, .ref 1101, some L, 0⟩
noncomputable def cWo (it acc M L cl : Nat) : Code := .compLoop woE 0 (.ref it) (.ref acc) ⟨scCell (compSc woE), M, 3, [(str "key", cl)], str "_law_without.<locals>.", none, .ref 1106, some L, 0⟩
noncomputable def cm2 (P : Params) (a b : String) : Option (Nat × Value × Nat × Value) → Obj
  | none => ⟨.type "dict", none, .dict ⟨[]⟩ 0, #[]⟩
  | some (t, v, t', v') => ⟨.type "dict", none, .dict ⟨[de P (str a) t v, de P (str b) t' v']⟩ 2, #[]⟩
noncomputable def cm1 (P : Params) (a : String) : Option (Nat × Value) → Obj
  | none => ⟨.type "dict", none, .dict ⟨[]⟩ 0, #[]⟩
  | some (t, v) => ⟨.type "dict", none, .dict ⟨[de P (str a) t v]⟩ 1, #[]⟩
theorem sp102 {code : Code} {pos : Pos} {W : List (Code × Pos)} (h : sh [1, 0, 2] ((code, pos) :: W) = true) : ∃ lt0 li0 lb0 lo0 le0 fb1 fe1 ps1 ca2 ps2, code = (.forLoop lt0 li0 lb0 lo0 le0) ∧ W = [((.func fb1 fe1), ps1), ((.builtin "claim.caller" ca2), ps2)] := by
  obtain ⟨h0, g⟩ := sh_cons h
  obtain ⟨lt0, li0, lb0, lo0, le0, rfl⟩ := ck_for h0
  obtain ⟨_, _, _, _, _, rfl⟩ := wq02 g
  exact ⟨_, _, _, _, _, _, _, _, _, _, rfl, rfl⟩
theorem el102 {P : Code → List (Code × Pos) → Prop} (H : ∀ (lt0 : Expr) (li0 : Value) (lb0 : List Stmt) (lo0 : List Stmt) (le0 : Env) (fb1 : List Stmt) (fe1 : Env) (ps1 : Pos) (ca2 : Args) (ps2 : Pos), P (.forLoop lt0 li0 lb0 lo0 le0) [((.func fb1 fe1), ps1), ((.builtin "claim.caller" ca2), ps2)]) {code : Code} {pos : Pos} {W : List (Code × Pos)} (h : sh [1, 0, 2] ((code, pos) :: W) = true) : P code W := by
  obtain ⟨lt0, li0, lb0, lo0, le0, fb1, fe1, ps1, ca2, ps2, rfl, rfl⟩ := sp102 h
  exact H lt0 li0 lb0 lo0 le0 fb1 fe1 ps1 ca2 ps2
end Mine
set_option linter.all false
namespace Mine
open PySem PySem.W
variable {b c : Bool} {w : World}
structure heSt where
  o : Option (Nat × Value × Nat × Value)
  av : List Value
  aep : Nat
noncomputable def heL (P : Params) (i0 i1 i2 i3 i4 : Nat) (it ls M acc lep kt : Nat) (key : Int) (ps : List (Nat × E)) : LoopW heSt (Nat × E) where
  code := cHe it acc M
  res := .ok .next
  slots n st := [(i0, it, liObj ls n), (i1, ls, lsObj (ps.map rfD) lep), (i2, M, cm2 P "name" "count" st.o), (i3, 1116, ceObj (some (.int key kt))), (i4, acc, lsObj st.av st.aep)]
  fin n st := [(it, liEnd (liObj ls n)), (ls, lsObj (ps.map rfD) lep), (M, cm2 P "name" "count" st.o), (1116, ceObj (some (.int key kt))), (acc, lsObj st.av st.aep)]
  post n st := [(i0, it, liEnd (liObj ls n)), (i2, M, cm2 P "name" "count" st.o), (i4, acc, lsObj st.av st.aep)]
  edl := 2
  edt := 0
  step e st z t := match e.2.k == key with
    | true => ⟨loc2Set t (.int e.2.k e.2.t) (t + 1) (.int e.2.v e.2.u) st.o, st.av ++ [.int e.2.v e.2.u], st.aep + 1⟩
    | false => ⟨loc2Set t (.int e.2.k e.2.t) (t + 1) (.int e.2.v e.2.u) st.o, st.av, st.aep⟩
  sdl e st t := match e.2.k == key with
    | true => 3
    | false => 3
  sdt e st t := match e.2.k == key with
    | true => 2
    | false => 2
  fact e st z t := match e.2.k == key with
    | true => []
    | false => []
  ex e := [(e.1, tupObj (kv e.2))]
  need := (ps.map tpD)
  nj := 0
noncomputable def slhe (P : Params) (it ls M acc lep kt : Nat) (key : Int) (ps : List (Nat × E)) (n : Nat) (o : Option (Nat × Value × Nat × Value)) (av : List Value) (aep : Nat) : List (Nat × Obj) := [(it, liObj ls n), (ls, lsObj (ps.map rfD) lep), (M, cm2 P "name" "count" o), (1116, ceObj (some (.int key kt))), (acc, lsObj av aep)]
noncomputable def ohe0 (it ls M acc lep kt : Nat) (key : Int) (ps : List (Nat × E)) (n : Nat) (o : Option (Nat × Value × Nat × Value)) (av : List Value) (aep : Nat) (e : (Nat × E))  (zz tt : Nat) : List Op := [.s 0, .k 0, .s 0, .a (fun _ _ _ => sLiNext 0 1 it ls n (ps.map rfD) lep (.ref e.1)), .s 0, .s 5, .s 5, .s 5, .k 0, .s 5, .s 6, .s 6, .k 0, .s 6, .s 6, .s 6, .s 5, .s 6, .s 6, .s 6, .k 0, .s 6, .s 6, .s 6, .s 5, .s 6, .s 6, .s 6, .k 0, .s 6, .s 6, .s 6, .s 5, .s 6, .s 6, .s 8, .s 2, .s 2, .s 2, .s 2, .s 2, .s 3, .k 0, .a (fun cc _ _ => sCmp "int.__eq__" e.2.k key true cc), .s 2, .k 0, .s 4, .a (fun _ _ _ => sApp 4 acc av (.int e.2.v e.2.u) aep)]
noncomputable def qhe0 (b c : Bool) (w : World) (it ls M acc lep kt : Nat) (key : Int) (ps : List (Nat × E)) (n : Nat) (o : Option (Nat × Value × Nat × Value)) (av : List Value) (aep : Nat) (e : (Nat × E))  (sz tok : Nat) (k : Result → Sem PySem.Fin) (g : Bool) (l : List Value) (code : Code) (pos pos' : Pos) (kp : List Value) (W : List (Code × Pos)) (gens : List GenState) : Prop :=
    chk (tR tP (tW b c w) (KK (tW b c w)) W 80 (ohe0 it ls M acc lep kt key ps n o av aep e  (sz + 1113) tok) (mkT ((slhe (tW b c w).params it ls M acc lep kt key ps n o av aep) ++ [(e.1, tupObj (kv e.2))])) 6 (sz + 1113) gens tok [] (tD (cHe it acc M)) (cHe it acc M) pos' [.ret k none g l code pos kp] [] []) (turnsZ 6 []) =
    chk' (tR tP (tW b c w) (KK (tW b c w)) W 80 (ohe0 it ls M acc lep kt key ps n o av aep e  (sz + 1113) tok) (mkT ((slhe (tW b c w).params it ls M acc lep kt key ps n o av aep) ++ [(e.1, tupObj (kv e.2))])) 6 (sz + 1113) gens tok [] (tD (cHe it acc M)) (cHe it acc M) pos' [.ret k none g l code pos kp] [] [])
      (tD (cHe it acc M), cHe it acc M, [.ret k none g l code pos kp], sz + 1113 + 3, tok + 2, appG gens [], ((slhe (tW b c w).params it ls M acc lep kt key ps (n + 1) (loc2Set tok (.int e.2.k e.2.t) (tok + 1) (.int e.2.v e.2.u) o) (av ++ [.int e.2.v e.2.u]) (aep + 1)) ++ [(e.1, tupObj (kv e.2))]).map some, [].map some)
theorem the0 (it ls M acc lep kt : Nat) (key : Int) (ps : List (Nat × E)) (n : Nat) (o : Option (Nat × Value × Nat × Value)) (av : List Value) (aep : Nat) (e : (Nat × E))  (sz tok : Nat) (k : Result → Sem PySem.Fin) (g : Bool) (l : List Value) (code : Code) (pos pos' : Pos) (kp : List Value) (W : List (Code × Pos)) (gens : List GenState) : qhe0 b c w it ls M acc lep kt key ps n o av aep e  sz tok k g l code pos pos' kp W gens := by
  show chk _ _ = chk' _ _
  cases o <;> cases b <;> kernel_rfl
noncomputable def ohe1 (it ls M acc lep kt : Nat) (key : Int) (ps : List (Nat × E)) (n : Nat) (o : Option (Nat × Value × Nat × Value)) (av : List Value) (aep : Nat) (e : (Nat × E))  (zz tt : Nat) : List Op := [.s 0, .k 0, .s 0, .a (fun _ _ _ => sLiNext 0 1 it ls n (ps.map rfD) lep (.ref e.1)), .s 0, .s 5, .s 5, .s 5, .k 0, .s 5, .s 6, .s 6, .k 0, .s 6, .s 6, .s 6, .s 5, .s 6, .s 6, .s 6, .k 0, .s 6, .s 6, .s 6, .s 5, .s 6, .s 6, .s 6, .k 0, .s 6, .s 6, .s 6, .s 5, .s 6, .s 6, .s 8, .s 2, .s 2, .s 2, .s 2, .s 2, .s 3, .k 0, .a (fun cc _ _ => sCmp "int.__eq__" e.2.k key false cc)]
noncomputable def qhe1 (b c : Bool) (w : World) (it ls M acc lep kt : Nat) (key : Int) (ps : List (Nat × E)) (n : Nat) (o : Option (Nat × Value × Nat × Value)) (av : List Value) (aep : Nat) (e : (Nat × E))  (sz tok : Nat) (k : Result → Sem PySem.Fin) (g : Bool) (l : List Value) (code : Code) (pos pos' : Pos) (kp : List Value) (W : List (Code × Pos)) (gens : List GenState) : Prop :=
    chk (tR tP (tW b c w) (KK (tW b c w)) W 75 (ohe1 it ls M acc lep kt key ps n o av aep e  (sz + 1113) tok) (mkT ((slhe (tW b c w).params it ls M acc lep kt key ps n o av aep) ++ [(e.1, tupObj (kv e.2))])) 6 (sz + 1113) gens tok [] (tD (cHe it acc M)) (cHe it acc M) pos' [.ret k none g l code pos kp] [] []) (turnsZ 6 []) =
    chk' (tR tP (tW b c w) (KK (tW b c w)) W 75 (ohe1 it ls M acc lep kt key ps n o av aep e  (sz + 1113) tok) (mkT ((slhe (tW b c w).params it ls M acc lep kt key ps n o av aep) ++ [(e.1, tupObj (kv e.2))])) 6 (sz + 1113) gens tok [] (tD (cHe it acc M)) (cHe it acc M) pos' [.ret k none g l code pos kp] [] [])
      (tD (cHe it acc M), cHe it acc M, [.ret k none g l code pos kp], sz + 1113 + 3, tok + 2, appG gens [], ((slhe (tW b c w).params it ls M acc lep kt key ps (n + 1) (loc2Set tok (.int e.2.k e.2.t) (tok + 1) (.int e.2.v e.2.u) o) (av) (aep)) ++ [(e.1, tupObj (kv e.2))]).map some, [].map some)
theorem the1 (it ls M acc lep kt : Nat) (key : Int) (ps : List (Nat × E)) (n : Nat) (o : Option (Nat × Value × Nat × Value)) (av : List Value) (aep : Nat) (e : (Nat × E))  (sz tok : Nat) (k : Result → Sem PySem.Fin) (g : Bool) (l : List Value) (code : Code) (pos pos' : Pos) (kp : List Value) (W : List (Code × Pos)) (gens : List GenState) : qhe1 b c w it ls M acc lep kt key ps n o av aep e  sz tok k g l code pos pos' kp W gens := by
  show chk _ _ = chk' _ _
  cases o <;> cases b <;> kernel_rfl
noncomputable def oheE (it ls M acc lep kt : Nat) (key : Int) (ps : List (Nat × E)) (n : Nat) (o : Option (Nat × Value × Nat × Value)) (av : List Value) (aep : Nat) : List Op := [.s 0, .k 0, .s 0, .a (fun _ sz _ => sLiEnd 0 1 it ls n (ps.map rfD) lep sz), .s 6]
noncomputable def qheE (b c : Bool) (w : World) (it ls M acc lep kt : Nat) (key : Int) (ps : List (Nat × E)) (n : Nat) (o : Option (Nat × Value × Nat × Value)) (av : List Value) (aep : Nat) (sz tok : Nat) (k : Result → Sem PySem.Fin) (g : Bool) (l : List Value) (code : Code) (pos pos' : Pos) (kp : List Value) (W : List (Code × Pos)) (gens : List GenState) : Prop :=
    chk (tR tP (tW b c w) (KK (tW b c w)) W 7 (oheE it ls M acc lep kt key ps n o av aep) (mkT (slhe (tW b c w).params it ls M acc lep kt key ps n o av aep)) 5 (sz + 1113) gens tok [(ps.map tpD)] (tD (cHe it acc M)) (cHe it acc M) pos' [.ret k none g l code pos kp] [] []) (ends 5 []) =
    chk' (tR tP (tW b c w) (KK (tW b c w)) W 7 (oheE it ls M acc lep kt key ps n o av aep) (mkT (slhe (tW b c w).params it ls M acc lep kt key ps n o av aep)) 5 (sz + 1113) gens tok [(ps.map tpD)] (tD (cHe it acc M)) (cHe it acc M) pos' [.ret k none g l code pos kp] [] [])
      (k (.ok .next), code, pos, [], sz + 1113 + 2, tok + 0, appG gens [], [(ps.map tpD)], [(it, liEnd (liObj ls n)), (ls, lsObj (ps.map rfD) lep), (M, cm2 (tW b c w).params "name" "count" o), (1116, ceObj (some (.int key kt))), (acc, lsObj av aep)].map some, [])
theorem ehe (it ls M acc lep kt : Nat) (key : Int) (ps : List (Nat × E)) (n : Nat) (o : Option (Nat × Value × Nat × Value)) (av : List Value) (aep : Nat) (sz tok : Nat) (k : Result → Sem PySem.Fin) (g : Bool) (l : List Value) (code : Code) (pos pos' : Pos) (kp : List Value) (W : List (Code × Pos)) (gens : List GenState) : qheE b c w it ls M acc lep kt key ps n o av aep sz tok k g l code pos pos' kp W gens := by
  show chk _ _ = chk' _ _
  cases o <;> cases b <;> kernel_rfl
theorem heL_ok {i0 i1 i2 i3 i4 : Nat} {it ls M acc lep kt : Nat} {key : Int} {ps : List (Nat × E)} (els : List (Nat × E)) (h8 : ps.length ≤ 8) (hels : ps.length = els.length) (nd : [it, ls, M, 1116, acc].Nodup) (hge : ∀ x ∈ [it, ls, M, 1116, acc], 1113 ≤ x) (hneed : ∀ q ∈ (ps.map tpD), q.1 ∉ [it, ls, M, 1116, acc] ∧ 1113 ≤ q.1) (hel : ∀ (n : Nat) (e : (Nat × E)), els[n]? = some e → ps[n]? = some e) (st : heSt) (hst : st.av.length ≤ 0) (sz tok : Nat) (hsz : 1113 ≤ sz) :
    ((heL (tW b c w).params i0 i1 i2 i3 i4 it ls M acc lep kt key ps).S 0 els st sz tok).Valid (mdl tP (tW b c w)) (KK (tW b c w)) sz tok := by
  refine LoopW.valid _ [it, ls, M, 1116, acc] [it, M, acc] 5 1 (fun n st => st.av.length ≤ n) (fun n e => ps[n]? = some e) (fun n => n = els.length) 1113 (fun _ _ => rfl) rfl (fun _ _ => rfl) nd (fun x hx => KK_none (hge x hx)) (fun n e he => by exact ⟨all_cons (List.mem_map.mpr ⟨e, List.mem_of_getElem? he, rfl⟩) all_nil, List.nodup_cons.mpr ⟨List.not_mem_nil, List.nodup_nil⟩, rfl, fun _ _ => rfl⟩) (fun q hq => ⟨(hneed q hq).1, KK_none (hneed q hq).2⟩) (fun _ _ => rfl) (fun n st n' st' => (all_cons (.inr m0) (all_cons (.inl (mt m0)) (all_cons (.inr (mt m0)) (all_cons (.inl (mt (mt (mt m0)))) (all_cons (.inr (mt (mt m0))) all_nil))))))
    (fun n st e sz tok hs hI he => ?_) (fun n st sz tok hs hI hl => ?_) (fun _ _ => rfl) (fun n st => (f2_cons m0 (f2_cons (mt (mt m0)) (f2_cons (mt (mt (mt (mt m0)))) f2_nil)))) (fun n st => (all_cons (.inr m0) (all_cons (.inl (mt m0)) (all_cons (.inr (mt m0)) (all_cons (.inl (mt (mt (mt m0)))) (all_cons (.inr (mt (mt m0))) all_nil)))))) els 0 st sz tok hsz (fun i e h => by rw [Nat.zero_add]; exact hel i e h) (by rw [Nat.zero_add]) hst
  · obtain ⟨sz, rfl⟩ : ∃ s', sz = s' + 1113 := ⟨sz - 1113, by omega⟩
    have hn : n < ps.length := (List.getElem?_eq_some_iff.mp he).1
    cases h0 : e.2.k == key with
    | true =>
      have hs : (heL (tW b c w).params i0 i1 i2 i3 i4 it ls M acc lep kt key ps).step e st (sz + 1113) tok = ⟨loc2Set tok (.int e.2.k e.2.t) (tok + 1) (.int e.2.v e.2.u) st.o, st.av ++ [.int e.2.v e.2.u], st.aep + 1⟩ := by simp only [heL, h0]
      have hF : (heL (tW b c w).params i0 i1 i2 i3 i4 it ls M acc lep kt key ps).fact e st (sz + 1113) tok = [] := by simp only [heL, h0]
      have hd : (heL (tW b c w).params i0 i1 i2 i3 i4 it ls M acc lep kt key ps).sdl e st tok = 3 := by simp only [heL, h0]
      have ht : (heL (tW b c w).params i0 i1 i2 i3 i4 it ls M acc lep kt key ps).sdt e st tok = 2 := by simp only [heL, h0]
      rw [hs, hd, ht, hF]
      refine ⟨by have := hI; simp only [List.length_append, List.length_singleton]; omega, (fun _ h => nomatch h), 80, ohe0 it ls M acc lep kt key ps n st.o st.av st.aep e  (sz + 1113) tok, [], ⟨fun cc sz tok _ _ => ⟨sLiNext_ok (by simp [he, rfD]) sz tok, nd0⟩, fun cc sz tok _ _ => ⟨sEq_ok h0 cc sz tok, nd0⟩, fun cc sz tok _ _ => ⟨sApp_ok (by have := hI; omega) sz tok, nd0⟩, trivial⟩, fun k g l code pos pos' kp W gens hsh => ?_⟩
      exact the0 it ls M acc lep kt key ps n st.o st.av st.aep e  sz tok k g l code pos pos' kp W gens
    | false =>
      have hs : (heL (tW b c w).params i0 i1 i2 i3 i4 it ls M acc lep kt key ps).step e st (sz + 1113) tok = ⟨loc2Set tok (.int e.2.k e.2.t) (tok + 1) (.int e.2.v e.2.u) st.o, st.av, st.aep⟩ := by simp only [heL, h0]
      have hF : (heL (tW b c w).params i0 i1 i2 i3 i4 it ls M acc lep kt key ps).fact e st (sz + 1113) tok = [] := by simp only [heL, h0]
      have hd : (heL (tW b c w).params i0 i1 i2 i3 i4 it ls M acc lep kt key ps).sdl e st tok = 3 := by simp only [heL, h0]
      have ht : (heL (tW b c w).params i0 i1 i2 i3 i4 it ls M acc lep kt key ps).sdt e st tok = 2 := by simp only [heL, h0]
      rw [hs, hd, ht, hF]
      refine ⟨Nat.le_succ_of_le hI, (fun _ h => nomatch h), 75, ohe1 it ls M acc lep kt key ps n st.o st.av st.aep e  (sz + 1113) tok, [], ⟨fun cc sz tok _ _ => ⟨sLiNext_ok (by simp [he, rfD]) sz tok, nd0⟩, fun cc sz tok _ _ => ⟨sEq_ok h0 cc sz tok, nd0⟩, trivial⟩, fun k g l code pos pos' kp W gens hsh => ?_⟩
      exact the1 it ls M acc lep kt key ps n st.o st.av st.aep e  sz tok k g l code pos pos' kp W gens
  · subst hl
    obtain ⟨sz, rfl⟩ : ∃ s', sz = s' + 1113 := ⟨sz - 1113, by omega⟩
    refine ⟨7, oheE it ls M acc lep kt key ps els.length st.o st.av st.aep, ⟨fun cc sz tok _ _ => ⟨sLiEnd_ok (by rw [← hels]; simp) sz tok, nd01⟩, trivial⟩, fun k g l code pos pos' kp W gens hsh => ?_⟩
    exact ehe it ls M acc lep kt key ps els.length st.o st.av st.aep sz tok k g l code pos pos' kp W gens
end Mine
set_option linter.all false
namespace Mine
open PySem PySem.W
/-- a summary from one run, its end said in the run's own form -/
theorem Summ.ofRunZ {p : Program} {w : World} {K : Nat → Option Obj} {S : Summ} {sz tok : Nat} (ini fin : List (Nat × Obj)) (newi : List Nat) (newa : List (Nat × Obj)) (n : Nat) (ops : List Op) (N : Nat) (F : List (List (Nat × Obj))) (szE tokE : Nat)
    (hini : S.pre.map (·.2) = ini) (hF : S.needs.map (·.2) = F) (hN : ini.length = N) (hfin : fin.map (·.1) = ini.map (·.1))
    (hpost : ∀ q ∈ S.post, (q.2.1, q.2.2) ∈ fin) (hsame : ∀ q ∈ fin, q ∈ ini ∨ ∃ r ∈ S.post, r.2.1 = q.1) (nd : (ini.map (·.1)).Nodup) (hK' : ∀ q ∈ ini, K q.1 = none) (hi : iniOk ini .nil 0 = true)
    (hFi : ∀ l ∈ F, ∀ q ∈ l, q.1 ∈ ini.map (·.1) → ∃ r ∈ S.post, r.2.1 = q.1)
    (hfa : ∀ l ∈ S.facts, ∀ q ∈ l, sz ≤ q.1 ∧ ∀ r ∈ S.new, q.1 ≠ sz + r.1)
    (hsz : addZ S.dsz sz + S.dl = szE) (htok : tok + S.dtok = tokE) (hnew : S.new.map (fun q => (sz + q.1, q.2)) = newa)
    (ok : OpsOk (mdl p w) K ops)
    (e : ∀ (k : Result → Sem Fin) (g : Bool) (l : List Value) (code : Code) (pos pos' : Pos) (kp : List Value) (W : List (Code × Pos)) (gens : List GenState), S.shape ((code, pos) :: W) = true →
      chk (tR p w K W n ops (mkT ini) N sz gens tok F (tD S.code) S.code pos' [.ret k none g l code pos kp] [] []) (ends N newi) =
      chk' (tR p w K W n ops (mkT ini) N sz gens tok F (tD S.code) S.code pos' [.ret k none g l code pos kp] [] [])
        (k S.res, code, pos, [], szE, tokE, appG gens S.newg, S.facts ++ F, fin.map some, newa.map some)) : S.Valid (mdl p w) K sz tok := by
  subst hsz htok hnew
  refine Summ.ofRun ini fin newi n ops N F hini hF hN hfin hpost hsame nd hK' hi hFi hfa ok fun k g l code pos pos' kp W gens hsh => ?_
  have := e k g l code pos pos' kp W gens hsh
  rw [List.map_map] at this
  exact this
end Mine
set_option linter.all false
namespace Mine
open PySem PySem.W
variable {b c : Bool} {w : World}
noncomputable def sHs (P : Params) (i0 i1 i2 i3 i4 : Nat) (it ls M acc lep kt j0 : Nat) (key : Int) (ps : List (Nat × E)) (o : Option (Nat × Value × Nat × Value)) (av : List Value) (aep dz dt : Nat) (sz : Nat) : Summ :=
  { code := cHs it acc M, res := .ok .next, pre := [(i0, it, liObj ls 0), (i1, ls, lsObj (ps.map rfD) lep), (i2, M, cm2 P "name" "count" none), (i3, 1116, ceObj (some (.int key kt))), (i4, acc, lsObj [] 0)], post := [(i0, it, liEnd (liObj ls ps.length)), (i2, M, cm2 P "name" "count" o), (i4, acc, lsObj av aep)], new := [], dsz := some (dz), dl := 2, dtok := dt + 0, needs := [(j0, (ps.map tpD))], facts := [([] : List (Nat × Obj))] }
noncomputable def oHs (c : Bool) (P : Params) (it ls M acc lep kt j0 : Nat) (key : Int) (ps : List (Nat × E)) (o : Option (Nat × Value × Nat × Value)) (av : List Value) (aep dz dt : Nat) (s0 t : Nat) : List Op := match c with
  | true => [.a (fun _ sz tok => ((heL P 0 1 2 3 4 (it + 1113) (ls + 1113) (M + 1113) (acc + 1113) lep kt key ps).Tj 0 0 ps.length ⟨none, [], 0⟩ ⟨o, av, aep⟩ dz dt []).at (s0 + 1113) (t))]
  | false => [.s 0, .s 0, .k 0, .s 0, .s 0, .a (fun _ sz tok => ((heL P 0 1 2 3 4 (it + 1113) (ls + 1113) (M + 1113) (acc + 1113) lep kt key ps).Tj 0 0 ps.length ⟨none, [], 0⟩ ⟨o, av, aep⟩ dz dt []).at (s0 + 1113) (t))]
noncomputable def nHs (c : Bool) (P : Params) (it ls M acc lep kt j0 : Nat) (key : Int) (ps : List (Nat × E)) (o : Option (Nat × Value × Nat × Value)) (av : List Value) (aep dz dt : Nat) (s0 t : Nat) : Nat := match c with
  | true => 2
  | false => 12
noncomputable def qHs (b c : Bool) (w : World) (it ls M acc lep kt j0 : Nat) (key : Int) (ps : List (Nat × E)) (o : Option (Nat × Value × Nat × Value)) (av : List Value) (aep dz dt : Nat) (s0 t : Nat) (k : Result → Sem PySem.Fin) (g : Bool) (l : List Value) (code : Code) (pos pos' : Pos) (kp : List Value) (W : List (Code × Pos)) (gens : List GenState) : Prop :=
    chk (tR tP (tW b c w) (KK (tW b c w)) W (nHs c (tW b c w).params it ls M acc lep kt j0 key ps o av aep dz dt s0 t) (oHs c (tW b c w).params it ls M acc lep kt j0 key ps o av aep dz dt s0 t) (mkT [((it + 1113), liObj (ls + 1113) 0), ((ls + 1113), lsObj (ps.map rfD) lep), ((M + 1113), cm2 (tW b c w).params "name" "count" none), (1116, ceObj (some (.int key kt))), ((acc + 1113), lsObj [] 0)]) 5 (s0 + 1113) gens t [(ps.map tpD)] (tD (cHs (it + 1113) (acc + 1113) (M + 1113))) (cHs (it + 1113) (acc + 1113) (M + 1113)) pos' [.ret k none g l code pos kp] [] []) (ends 5 []) =
    chk' (tR tP (tW b c w) (KK (tW b c w)) W (nHs c (tW b c w).params it ls M acc lep kt j0 key ps o av aep dz dt s0 t) (oHs c (tW b c w).params it ls M acc lep kt j0 key ps o av aep dz dt s0 t) (mkT [((it + 1113), liObj (ls + 1113) 0), ((ls + 1113), lsObj (ps.map rfD) lep), ((M + 1113), cm2 (tW b c w).params "name" "count" none), (1116, ceObj (some (.int key kt))), ((acc + 1113), lsObj [] 0)]) 5 (s0 + 1113) gens t [(ps.map tpD)] (tD (cHs (it + 1113) (acc + 1113) (M + 1113))) (cHs (it + 1113) (acc + 1113) (M + 1113)) pos' [.ret k none g l code pos kp] [] [])
      (k (.ok .next), code, pos, [], (dz + (s0 + 1115)), (t + dt), appG gens [], [([] : List (Nat × Obj))] ++ [(ps.map tpD)], [((it + 1113), liEnd (liObj (ls + 1113) ps.length)), ((ls + 1113), lsObj (ps.map rfD) lep), ((M + 1113), cm2 (tW b c w).params "name" "count" o), (1116, ceObj (some (.int key kt))), ((acc + 1113), lsObj av aep)].map some, [].map some)
theorem rHs (it ls M acc lep kt j0 : Nat) (key : Int) (ps : List (Nat × E)) (o : Option (Nat × Value × Nat × Value)) (av : List Value) (aep dz dt : Nat) (s0 t : Nat) (k : Result → Sem PySem.Fin) (g : Bool) (l : List Value) (code : Code) (pos pos' : Pos) (kp : List Value) (W : List (Code × Pos)) (gens : List GenState) : qHs b c w it ls M acc lep kt j0 key ps o av aep dz dt s0 t k g l code pos pos' kp W gens := by
  show chk _ _ = chk' _ _
  cases b <;> cases c <;> kernel_rfl
theorem sHs_ok {i0 i1 i2 i3 i4 : Nat} {it ls M acc lep kt j0 : Nat} {key : Int} {ps : List (Nat × E)} {o : Option (Nat × Value × Nat × Value)} {av : List Value} {aep dz dt : Nat} (h8 : ps.length ≤ 8) (nd : [it, ls, M, 1116, acc].Nodup) (hge : ∀ x ∈ [it, ls, M, 1116, acc], 1113 ≤ x) (sz tok : Nat) (hs : 1113 ≤ sz) (hlt : ∀ x ∈ [it, ls, M, 1116, acc], x < sz) (hn : ∀ q ∈ ps.map tpD, 1113 ≤ q.1 ∧ q.1 < sz ∧ q.1 ∉ [it, ls, M, 1116, acc]) (hg : ∀ P i0 i1 i2 i3 i4 it M acc z, (heL P i0 i1 i2 i3 i4 it ls M acc lep kt key ps).go ps ⟨none, [], 0⟩ z tok = (⟨o, av, aep⟩, dz, dt, [])) : (sHs (tW b c w).params i0 i1 i2 i3 i4 it ls M acc lep kt j0 key ps o av aep dz dt sz).Valid (mdl tP (tW b c w)) (KK (tW b c w)) sz tok := by
  obtain ⟨it, rfl⟩ : ∃ x, it = x + 1113 := ⟨it - 1113, by have := hge it (by simp); omega⟩
  obtain ⟨ls, rfl⟩ : ∃ x, ls = x + 1113 := ⟨ls - 1113, by have := hge ls (by simp); omega⟩
  obtain ⟨M, rfl⟩ : ∃ x, M = x + 1113 := ⟨M - 1113, by have := hge M (by simp); omega⟩
  obtain ⟨acc, rfl⟩ : ∃ x, acc = x + 1113 := ⟨acc - 1113, by have := hge acc (by simp); omega⟩
  obtain ⟨s0, rfl⟩ : ∃ x, sz = x + 1113 := ⟨sz - 1113, by omega⟩
  refine Summ.ofRunZ [((it + 1113), liObj (ls + 1113) 0), ((ls + 1113), lsObj (ps.map rfD) lep), ((M + 1113), cm2 (tW b c w).params "name" "count" none), (1116, ceObj (some (.int key kt))), ((acc + 1113), lsObj [] 0)] [((it + 1113), liEnd (liObj (ls + 1113) ps.length)), ((ls + 1113), lsObj (ps.map rfD) lep), ((M + 1113), cm2 (tW b c w).params "name" "count" o), (1116, ceObj (some (.int key kt))), ((acc + 1113), lsObj av aep)] [] [] (nHs c (tW b c w).params it ls M acc lep kt j0 key ps o av aep dz dt s0 tok) (oHs c (tW b c w).params it ls M acc lep kt j0 key ps o av aep dz dt s0 tok) 5 [(ps.map tpD)] (dz + (s0 + 1115)) (tok + dt) rfl rfl rfl rfl (f2_cons m0 (f2_cons (mt (mt m0)) (f2_cons (mt (mt (mt (mt m0)))) f2_nil))) ((all_cons (.inr ⟨_, m0, rfl⟩) (all_cons (.inl (mt m0)) (all_cons (.inr ⟨_, (mt m0), rfl⟩) (all_cons (.inl (mt (mt (mt m0)))) (all_cons (.inr ⟨_, (mt (mt m0)), rfl⟩) all_nil)))))) nd (all_cons (KK_none (hge _ m0)) (all_cons (KK_none (hge _ (mt m0))) (all_cons (KK_none (hge _ (mt (mt m0)))) (all_cons (KK_none (hge _ (mt (mt (mt m0))))) (all_cons (KK_none (hge _ (mt (mt (mt (mt m0)))))) all_nil))))) rfl (fun l hl q hq hm => by rw [List.mem_singleton.mp hl] at hq; exact absurd hm (hn q hq).2.2) (fun l hl q hq => by rw [List.mem_singleton.mp hl] at hq; cases hq) (by show (dz) + (s0 + 1113) + 2 = _; omega) (by show tok + (dt + 0) = _; omega) rfl (by all_goals (cases c); all_goals (exact ⟨fun cc sz tok h1 h2 => ⟨Summ.at_ok (LoopW.Tj_ok (heL_ok ps h8 rfl nd hge (fun q hq => ⟨(hn q hq).2.2, (hn q hq).1⟩) (fun n e h => h) ⟨none, [], 0⟩ (Nat.le_refl _) _ _ (by omega)) (Nat.zero_add _).symm (hg ..)) _ _ h1 h2, nd0⟩, trivial⟩)) (fun k g l code pos pos' kp W gens hsh => ?_)
  exact rHs it ls M acc lep kt j0 key ps o av aep dz dt s0 tok k g l code pos pos' kp W gens
end Mine
set_option linter.all false
namespace Mine
open PySem PySem.W
variable {b c : Bool} {w : World}
noncomputable def esv (es : List E) (x : Int) : Int := match esFind es x with
  | some e => e.v
  | none => 0
noncomputable def esu (es : List E) (x : Int) (tok : Nat) : Nat := match esFind es x with
  | some e => e.u
  | none => tok + 3
noncomputable def esz (es : List E) (x : Int) : Nat := match esFind es x with
  | some _ => 0
  | none => 1
noncomputable def est (es : List E) (x : Int) : Nat := match esFind es x with
  | some _ => 1
  | none => 4
/-- dict.__getitem__ of a Counter, the key there or not -/
noncomputable def sGI (dd i d : Nat) (es : List E) (ep : Nat) (x : Int) (t tok : Nat) : Summ :=
  { code := .builtin "dict.__getitem__" ⟨[.ref d, .int x t], []⟩, res := .ok (.ret (.int (esv es x) (esu es x tok))), pre := [(i, d, dObj clsC (some dd) es ep)], dsz := some (esz es x), dtok := est es x, shape := sh [1, 0, 2] }
noncomputable def qGI (b c : Bool) (w : World) (d dd : Nat) (x : Int) (es : List E) (ep tx sz tok : Nat) (k : Result → Sem PySem.Fin) (g : Bool) (l : List Value) (pos' : Pos) (kp : List Value) (gens : List GenState) (code : Code) (pos : Pos) (W : List (Code × Pos)) : Prop :=
    chk (tR tP (tW b c w) (KK (tW b c w)) W 27 [.s 0, .s 0, .k 6, .s 1, .s 1, .s 1, .s 1, .k 0] (mkT [(d + 1113, dObj clsC (some dd) es ep)]) 1 (sz + 1113) gens (tok + 1) [] (tGetRest (d + 1113) (.int x tx)) (.builtin "dict.__getitem__" ⟨[.ref (d + 1113), .int x tx], []⟩) pos' [.ret k none g l code pos kp] [] []) (ends 1 []) =
    chk' (tR tP (tW b c w) (KK (tW b c w)) W 27 [.s 0, .s 0, .k 6, .s 1, .s 1, .s 1, .s 1, .k 0] (mkT [(d + 1113, dObj clsC (some dd) es ep)]) 1 (sz + 1113) gens (tok + 1) [] (tGetRest (d + 1113) (.int x tx)) (.builtin "dict.__getitem__" ⟨[.ref (d + 1113), .int x tx], []⟩) pos' [.ret k none g l code pos kp] [] [])
      (k (.ok (.ret (.int 0 (tok + 3)))), code, pos, [], sz + 1113 + 1, tok + 4, appG gens [], [], [(d + 1113, dObj clsC (some dd) es ep)].map some, [])
theorem rGI (d dd : Nat) (x : Int) (es : List E) (ep tx sz tok : Nat) (k : Result → Sem PySem.Fin) (g : Bool) (l : List Value) (pos' : Pos) (kp : List Value) (gens : List GenState) (code : Code) (pos : Pos) (W : List (Code × Pos)) (h : sh [1, 0, 2] ((code, pos) :: W) = true) : qGI b c w d dd x es ep tx sz tok k g l pos' kp gens code pos W :=
  el102 (P := fun code W => qGI b c w d dd x es ep tx sz tok k g l pos' kp gens code pos W) (fun lt0 li0 lb0 lo0 le0 fb1 fe1 ps1 ca2 ps2 => by show chk _ _ = chk' _ _; cases b <;> kernel_rfl) h
theorem sGI_ok {dd i d : Nat} {es : List E} {ep : Nat} {x : Int} {t : Nat} (hd : 1113 ≤ d) (sz tok : Nat) (hs : 1113 ≤ sz) : (sGI dd i d es ep x t tok).Valid (mdl tP (tW b c w)) (KK (tW b c w)) sz tok := by
  obtain ⟨d, rfl⟩ : ∃ d', d = d' + 1113 := ⟨d - 1113, by omega⟩
  obtain ⟨sz, rfl⟩ : ∃ s', sz = s' + 1113 := ⟨sz - 1113, by omega⟩
  cases hf : esFind es x with
  | none =>
    refine Summ.ofMid (dictGet (d + 1113) (.int x t)) (getCont (d + 1113) (.int x t)) none 1 (tGetRest (d + 1113) (.int x t)) [(d + 1113, dObj clsC (some dd) es ep)] [(d + 1113, dObj clsC (some dd) es ep)] [] 27 [.s 0, .s 0, .k 6, .s 1, .s 1, .s 1, .s 1, .k 0] 1
      (getitem_code _ _ _) (by rw [tGetRest_eq]; rfl) (fun s hpre ht A hA => ?_) rfl rfl rfl rfl (fun q hq => nomatch hq) (fun q hq => .inl hq) (by simp) (fun q hq => by rw [List.mem_singleton.mp hq]; exact KK_none hd) rfl (fun l hl => nomatch hl) trivial ?_
    · have h1 : s.heap.get? (d + 1113) = some (dObj clsC (some dd) es ep) := hpre (i, d + 1113, _) (List.mem_singleton.mpr rfl)
      refine any_dictGet h1 ⟨by unfold esVal; rw [hf]; rfl, by subst ht; rfl⟩
    · intro k g l code pos pos' kp W gens hsh
      have := rGI (b := b) (c := c) (w := w) d dd x es ep t sz tok k g l pos' kp gens code pos W hsh
      unfold qGI at this
      refine this.trans ?_
      have e1 : esv es x = 0 := by unfold esv; rw [hf]
      have e2 : esu es x tok = tok + 3 := by unfold esu; rw [hf]
      have e3 : esz es x = 1 := by unfold esz; rw [hf]
      have e4 : est es x = 4 := by unfold est; rw [hf]
      congr 1
      unfold sGI
      simp only [e1, e2, e3, e4, addZ_eq, Option.getD_some, Nat.add_zero, List.map_nil]
      rw [Nat.add_comm 1 (sz + 1113)]
  | some e =>
    have e1 : esv es x = e.v := by unfold esv; rw [hf]
    have e2 : esu es x tok = e.u := by unfold esu; rw [hf]
    have e3 : esz es x = 0 := by unfold esz; rw [hf]
    have e4 : est es x = 1 := by unfold est; rw [hf]
    unfold sGI
    rw [e1, e2, e3, e4]
    intro s k g l code pos pos' kp st hK hpre hpo hne1 hne' hs' ht hb hsh
    exact sHit_ok hf (sz + 1113) tok s k g l code pos pos' kp st hK hpre hpo hne1 hne' hs' ht hb rfl
end Mine
set_option linter.all false
namespace Mine
open PySem PySem.W
variable {b c : Bool} {w : World}
structure woSt where
  o : Option (Nat × Value)
  av : List Value
  aep : Nat
noncomputable def woL (P : Params) (i0 i1 i2 i3 i4 : Nat) (it ls M acc L cl lep kt : Nat) (key : Int) (ps : List (Nat × E)) : LoopW woSt (Nat × E) where
  code := cWo it acc M L cl
  res := .ok .next
  slots n st := [(i0, it, liObj ls n), (i1, ls, lsObj (ps.map rfD) lep), (i2, M, cm1 P "pair" st.o), (i3, cl, ceObj (some (.int key kt))), (i4, acc, lsObj st.av st.aep)]
  fin n st := [(it, liEnd (liObj ls n)), (ls, lsObj (ps.map rfD) lep), (M, cm1 P "pair" st.o), (cl, ceObj (some (.int key kt))), (acc, lsObj st.av st.aep)]
  post n st := [(i0, it, liEnd (liObj ls n)), (i2, M, cm1 P "pair" st.o), (i4, acc, lsObj st.av st.aep)]
  edl := 2
  edt := 0
  step e st z t := match e.2.k != key with
    | true => ⟨locSet t (.ref e.1) st.o, st.av ++ [.ref e.1], st.aep + 1⟩
    | false => ⟨locSet t (.ref e.1) st.o, st.av, st.aep⟩
  sdl e st t := match e.2.k != key with
    | true => 0
    | false => 0
  sdt e st t := match e.2.k != key with
    | true => 2
    | false => 2
  fact e st z t := match e.2.k != key with
    | true => []
    | false => []
  ex e := [(e.1, tupObj (kv e.2))]
  need := (ps.map tpD)
  nj := 0
noncomputable def slwo (P : Params) (it ls M acc L cl lep kt : Nat) (key : Int) (ps : List (Nat × E)) (n : Nat) (o : Option (Nat × Value)) (av : List Value) (aep : Nat) : List (Nat × Obj) := [(it, liObj ls n), (ls, lsObj (ps.map rfD) lep), (M, cm1 P "pair" o), (cl, ceObj (some (.int key kt))), (acc, lsObj av aep)]
noncomputable def owo0 (it ls M acc L cl lep kt : Nat) (key : Int) (ps : List (Nat × E)) (n : Nat) (o : Option (Nat × Value)) (av : List Value) (aep : Nat) (e : (Nat × E))  (zz tt : Nat) : List Op := [.s 0, .k 0, .s 0, .a (fun _ _ _ => sLiNext 0 1 it ls n (ps.map rfD) lep (.ref e.1)), .s 2, .s 2, .s 2, .s 5, .s 5, .s 5, .k 0, .s 5, .s 5, .s 3, .k 0, .a (fun cc _ _ => sCmp "int.__ne__" e.2.k key true cc), .s 2, .k 0, .s 4, .a (fun _ _ _ => sApp 4 acc av (.ref e.1) aep)]
noncomputable def qwo0 (b c : Bool) (w : World) (it ls M acc L cl lep kt : Nat) (key : Int) (ps : List (Nat × E)) (n : Nat) (o : Option (Nat × Value)) (av : List Value) (aep : Nat) (e : (Nat × E))  (sz tok : Nat) (k : Result → Sem PySem.Fin) (g : Bool) (l : List Value) (code : Code) (pos pos' : Pos) (kp : List Value) (W : List (Code × Pos)) (gens : List GenState) : Prop :=
    chk (tR tP (tW b c w) (KK (tW b c w)) W 36 (owo0 it ls M acc L cl lep kt key ps n o av aep e  (sz + 1113) tok) (mkT ((slwo (tW b c w).params it ls M acc L cl lep kt key ps n o av aep) ++ [(e.1, tupObj (kv e.2))])) 6 (sz + 1113) gens tok [] (tD (cWo it acc M L cl)) (cWo it acc M L cl) pos' [.ret k none g l code pos kp] [] []) (turnsZ 6 []) =
    chk' (tR tP (tW b c w) (KK (tW b c w)) W 36 (owo0 it ls M acc L cl lep kt key ps n o av aep e  (sz + 1113) tok) (mkT ((slwo (tW b c w).params it ls M acc L cl lep kt key ps n o av aep) ++ [(e.1, tupObj (kv e.2))])) 6 (sz + 1113) gens tok [] (tD (cWo it acc M L cl)) (cWo it acc M L cl) pos' [.ret k none g l code pos kp] [] [])
      (tD (cWo it acc M L cl), cWo it acc M L cl, [.ret k none g l code pos kp], sz + 1113 + 0, tok + 2, appG gens [], ((slwo (tW b c w).params it ls M acc L cl lep kt key ps (n + 1) (locSet tok (.ref e.1) o) (av ++ [.ref e.1]) (aep + 1)) ++ [(e.1, tupObj (kv e.2))]).map some, [].map some)
theorem two0 (it ls M acc L cl lep kt : Nat) (key : Int) (ps : List (Nat × E)) (n : Nat) (o : Option (Nat × Value)) (av : List Value) (aep : Nat) (e : (Nat × E))  (sz tok : Nat) (k : Result → Sem PySem.Fin) (g : Bool) (l : List Value) (code : Code) (pos pos' : Pos) (kp : List Value) (W : List (Code × Pos)) (gens : List GenState) : qwo0 b c w it ls M acc L cl lep kt key ps n o av aep e  sz tok k g l code pos pos' kp W gens := by
  show chk _ _ = chk' _ _
  cases o <;> cases b <;> kernel_rfl
noncomputable def owo1 (it ls M acc L cl lep kt : Nat) (key : Int) (ps : List (Nat × E)) (n : Nat) (o : Option (Nat × Value)) (av : List Value) (aep : Nat) (e : (Nat × E))  (zz tt : Nat) : List Op := [.s 0, .k 0, .s 0, .a (fun _ _ _ => sLiNext 0 1 it ls n (ps.map rfD) lep (.ref e.1)), .s 2, .s 2, .s 2, .s 5, .s 5, .s 5, .k 0, .s 5, .s 5, .s 3, .k 0, .a (fun cc _ _ => sCmp "int.__ne__" e.2.k key false cc)]
noncomputable def qwo1 (b c : Bool) (w : World) (it ls M acc L cl lep kt : Nat) (key : Int) (ps : List (Nat × E)) (n : Nat) (o : Option (Nat × Value)) (av : List Value) (aep : Nat) (e : (Nat × E))  (sz tok : Nat) (k : Result → Sem PySem.Fin) (g : Bool) (l : List Value) (code : Code) (pos pos' : Pos) (kp : List Value) (W : List (Code × Pos)) (gens : List GenState) : Prop :=
    chk (tR tP (tW b c w) (KK (tW b c w)) W 31 (owo1 it ls M acc L cl lep kt key ps n o av aep e  (sz + 1113) tok) (mkT ((slwo (tW b c w).params it ls M acc L cl lep kt key ps n o av aep) ++ [(e.1, tupObj (kv e.2))])) 6 (sz + 1113) gens tok [] (tD (cWo it acc M L cl)) (cWo it acc M L cl) pos' [.ret k none g l code pos kp] [] []) (turnsZ 6 []) =
    chk' (tR tP (tW b c w) (KK (tW b c w)) W 31 (owo1 it ls M acc L cl lep kt key ps n o av aep e  (sz + 1113) tok) (mkT ((slwo (tW b c w).params it ls M acc L cl lep kt key ps n o av aep) ++ [(e.1, tupObj (kv e.2))])) 6 (sz + 1113) gens tok [] (tD (cWo it acc M L cl)) (cWo it acc M L cl) pos' [.ret k none g l code pos kp] [] [])
      (tD (cWo it acc M L cl), cWo it acc M L cl, [.ret k none g l code pos kp], sz + 1113 + 0, tok + 2, appG gens [], ((slwo (tW b c w).params it ls M acc L cl lep kt key ps (n + 1) (locSet tok (.ref e.1) o) (av) (aep)) ++ [(e.1, tupObj (kv e.2))]).map some, [].map some)
theorem two1 (it ls M acc L cl lep kt : Nat) (key : Int) (ps : List (Nat × E)) (n : Nat) (o : Option (Nat × Value)) (av : List Value) (aep : Nat) (e : (Nat × E))  (sz tok : Nat) (k : Result → Sem PySem.Fin) (g : Bool) (l : List Value) (code : Code) (pos pos' : Pos) (kp : List Value) (W : List (Code × Pos)) (gens : List GenState) : qwo1 b c w it ls M acc L cl lep kt key ps n o av aep e  sz tok k g l code pos pos' kp W gens := by
  show chk _ _ = chk' _ _
  cases o <;> cases b <;> kernel_rfl
noncomputable def owoE (it ls M acc L cl lep kt : Nat) (key : Int) (ps : List (Nat × E)) (n : Nat) (o : Option (Nat × Value)) (av : List Value) (aep : Nat) : List Op := [.s 0, .k 0, .s 0, .a (fun _ sz _ => sLiEnd 0 1 it ls n (ps.map rfD) lep sz), .s 6]
noncomputable def qwoE (b c : Bool) (w : World) (it ls M acc L cl lep kt : Nat) (key : Int) (ps : List (Nat × E)) (n : Nat) (o : Option (Nat × Value)) (av : List Value) (aep : Nat) (sz tok : Nat) (k : Result → Sem PySem.Fin) (g : Bool) (l : List Value) (code : Code) (pos pos' : Pos) (kp : List Value) (W : List (Code × Pos)) (gens : List GenState) : Prop :=
    chk (tR tP (tW b c w) (KK (tW b c w)) W 7 (owoE it ls M acc L cl lep kt key ps n o av aep) (mkT (slwo (tW b c w).params it ls M acc L cl lep kt key ps n o av aep)) 5 (sz + 1113) gens tok [(ps.map tpD)] (tD (cWo it acc M L cl)) (cWo it acc M L cl) pos' [.ret k none g l code pos kp] [] []) (ends 5 []) =
    chk' (tR tP (tW b c w) (KK (tW b c w)) W 7 (owoE it ls M acc L cl lep kt key ps n o av aep) (mkT (slwo (tW b c w).params it ls M acc L cl lep kt key ps n o av aep)) 5 (sz + 1113) gens tok [(ps.map tpD)] (tD (cWo it acc M L cl)) (cWo it acc M L cl) pos' [.ret k none g l code pos kp] [] [])
      (k (.ok .next), code, pos, [], sz + 1113 + 2, tok + 0, appG gens [], [(ps.map tpD)], [(it, liEnd (liObj ls n)), (ls, lsObj (ps.map rfD) lep), (M, cm1 (tW b c w).params "pair" o), (cl, ceObj (some (.int key kt))), (acc, lsObj av aep)].map some, [])
theorem ewo (it ls M acc L cl lep kt : Nat) (key : Int) (ps : List (Nat × E)) (n : Nat) (o : Option (Nat × Value)) (av : List Value) (aep : Nat) (sz tok : Nat) (k : Result → Sem PySem.Fin) (g : Bool) (l : List Value) (code : Code) (pos pos' : Pos) (kp : List Value) (W : List (Code × Pos)) (gens : List GenState) : qwoE b c w it ls M acc L cl lep kt key ps n o av aep sz tok k g l code pos pos' kp W gens := by
  show chk _ _ = chk' _ _
  cases o <;> cases b <;> kernel_rfl
theorem woL_ok {i0 i1 i2 i3 i4 : Nat} {it ls M acc L cl lep kt : Nat} {key : Int} {ps : List (Nat × E)} (els : List (Nat × E)) (h8 : ps.length ≤ 8) (hels : ps.length = els.length) (nd : [it, ls, M, cl, acc].Nodup) (hge : ∀ x ∈ [it, ls, M, cl, acc], 1113 ≤ x) (hneed : ∀ q ∈ (ps.map tpD), q.1 ∉ [it, ls, M, cl, acc] ∧ 1113 ≤ q.1) (hel : ∀ (n : Nat) (e : (Nat × E)), els[n]? = some e → ps[n]? = some e) (st : woSt) (hst : st.av.length ≤ 0) (sz tok : Nat) (hsz : 1113 ≤ sz) :
    ((woL (tW b c w).params i0 i1 i2 i3 i4 it ls M acc L cl lep kt key ps).S 0 els st sz tok).Valid (mdl tP (tW b c w)) (KK (tW b c w)) sz tok := by
  refine LoopW.valid _ [it, ls, M, cl, acc] [it, M, acc] 5 1 (fun n st => st.av.length ≤ n) (fun n e => ps[n]? = some e) (fun n => n = els.length) 1113 (fun _ _ => rfl) rfl (fun _ _ => rfl) nd (fun x hx => KK_none (hge x hx)) (fun n e he => by exact ⟨all_cons (List.mem_map.mpr ⟨e, List.mem_of_getElem? he, rfl⟩) all_nil, List.nodup_cons.mpr ⟨List.not_mem_nil, List.nodup_nil⟩, rfl, fun _ _ => rfl⟩) (fun q hq => ⟨(hneed q hq).1, KK_none (hneed q hq).2⟩) (fun _ _ => rfl) (fun n st n' st' => (all_cons (.inr m0) (all_cons (.inl (mt m0)) (all_cons (.inr (mt m0)) (all_cons (.inl (mt (mt (mt m0)))) (all_cons (.inr (mt (mt m0))) all_nil))))))
    (fun n st e sz tok hs hI he => ?_) (fun n st sz tok hs hI hl => ?_) (fun _ _ => rfl) (fun n st => (f2_cons m0 (f2_cons (mt (mt m0)) (f2_cons (mt (mt (mt (mt m0)))) f2_nil)))) (fun n st => (all_cons (.inr m0) (all_cons (.inl (mt m0)) (all_cons (.inr (mt m0)) (all_cons (.inl (mt (mt (mt m0)))) (all_cons (.inr (mt (mt m0))) all_nil)))))) els 0 st sz tok hsz (fun i e h => by rw [Nat.zero_add]; exact hel i e h) (by rw [Nat.zero_add]) hst
  · obtain ⟨sz, rfl⟩ : ∃ s', sz = s' + 1113 := ⟨sz - 1113, by omega⟩
    have hn : n < ps.length := (List.getElem?_eq_some_iff.mp he).1
    cases h0 : e.2.k != key with
    | true =>
      have hs : (woL (tW b c w).params i0 i1 i2 i3 i4 it ls M acc L cl lep kt key ps).step e st (sz + 1113) tok = ⟨locSet tok (.ref e.1) st.o, st.av ++ [.ref e.1], st.aep + 1⟩ := by simp only [woL, h0]
      have hF : (woL (tW b c w).params i0 i1 i2 i3 i4 it ls M acc L cl lep kt key ps).fact e st (sz + 1113) tok = [] := by simp only [woL, h0]
      have hd : (woL (tW b c w).params i0 i1 i2 i3 i4 it ls M acc L cl lep kt key ps).sdl e st tok = 0 := by simp only [woL, h0]
      have ht : (woL (tW b c w).params i0 i1 i2 i3 i4 it ls M acc L cl lep kt key ps).sdt e st tok = 2 := by simp only [woL, h0]
      rw [hs, hd, ht, hF]
      refine ⟨by have := hI; simp only [List.length_append, List.length_singleton]; omega, (fun _ h => nomatch h), 36, owo0 it ls M acc L cl lep kt key ps n st.o st.av st.aep e  (sz + 1113) tok, [], ⟨fun cc sz tok _ _ => ⟨sLiNext_ok (by simp [he, rfD]) sz tok, nd0⟩, fun cc sz tok _ _ => ⟨sNe_ok h0 cc sz tok, nd0⟩, fun cc sz tok _ _ => ⟨sApp_ok (by have := hI; omega) sz tok, nd0⟩, trivial⟩, fun k g l code pos pos' kp W gens hsh => ?_⟩
      exact two0 it ls M acc L cl lep kt key ps n st.o st.av st.aep e  sz tok k g l code pos pos' kp W gens
    | false =>
      have hs : (woL (tW b c w).params i0 i1 i2 i3 i4 it ls M acc L cl lep kt key ps).step e st (sz + 1113) tok = ⟨locSet tok (.ref e.1) st.o, st.av, st.aep⟩ := by simp only [woL, h0]
      have hF : (woL (tW b c w).params i0 i1 i2 i3 i4 it ls M acc L cl lep kt key ps).fact e st (sz + 1113) tok = [] := by simp only [woL, h0]
      have hd : (woL (tW b c w).params i0 i1 i2 i3 i4 it ls M acc L cl lep kt key ps).sdl e st tok = 0 := by simp only [woL, h0]
      have ht : (woL (tW b c w).params i0 i1 i2 i3 i4 it ls M acc L cl lep kt key ps).sdt e st tok = 2 := by simp only [woL, h0]
      rw [hs, hd, ht, hF]
      refine ⟨Nat.le_succ_of_le hI, (fun _ h => nomatch h), 31, owo1 it ls M acc L cl lep kt key ps n st.o st.av st.aep e  (sz + 1113) tok, [], ⟨fun cc sz tok _ _ => ⟨sLiNext_ok (by simp [he, rfD]) sz tok, nd0⟩, fun cc sz tok _ _ => ⟨sNe_ok h0 cc sz tok, nd0⟩, trivial⟩, fun k g l code pos pos' kp W gens hsh => ?_⟩
      exact two1 it ls M acc L cl lep kt key ps n st.o st.av st.aep e  sz tok k g l code pos pos' kp W gens
  · subst hl
    obtain ⟨sz, rfl⟩ : ∃ s', sz = s' + 1113 := ⟨sz - 1113, by omega⟩
    refine ⟨7, owoE it ls M acc L cl lep kt key ps els.length st.o st.av st.aep, ⟨fun cc sz tok _ _ => ⟨sLiEnd_ok (by rw [← hels]; simp) sz tok, nd01⟩, trivial⟩, fun k g l code pos pos' kp W gens hsh => ?_⟩
    exact ewo it ls M acc L cl lep kt key ps els.length st.o st.av st.aep sz tok k g l code pos pos' kp W gens
end Mine
set_option linter.all false
namespace Mine
open PySem PySem.W
variable {b c : Bool} {w : World}
noncomputable def sWo (P : Params) (i0 : Nat) (ls lep kt j0 : Nat) (key : Int) (ps : List (Nat × E)) (o : Option (Nat × Value)) (av : List Value) (aep dz dt : Nat) (sz : Nat) : Summ :=
  { code := .call (.ref 1107) ⟨[.ref ls, .int key kt], []⟩, res := .ok (.ret (.ref (sz + 3))), pre := [(i0, ls, lsObj (ps.map rfD) lep)], post := [], new := [(3, lsObj av aep)], dsz := some (dz), dl := 7, dtok := dt + 1, shape := sh [1, 0, 2], needs := [(j0, (ps.map tpD))], facts := [([] : List (Nat × Obj))] }
noncomputable def oWo (c : Bool) (P : Params) (ls lep kt j0 : Nat) (key : Int) (ps : List (Nat × E)) (o : Option (Nat × Value)) (av : List Value) (aep dz dt : Nat) (s0 t : Nat) : List Op := match c, o with
  | true, none => [.k 1, .s 1, .s 1, .s 2, .s 2, .k 0, .s 1, .s 0, .s 0, .k 0, .s 0, .s 3, .k 0, .a (fun _ sz tok => ((woL P 3 0 5 2 4 (s0 + 1115) (ls + 1113) (s0 + 1117) (s0 + 1116) (s0 + 1113) (s0 + 1114) lep kt key ps).Tj 0 0 ps.length ⟨none, [], 0⟩ ⟨o, av, aep⟩ dz dt []).at (s0 + 1118) (t + 1)), .s 5]
  | true, some _ => [.k 1, .s 1, .s 1, .s 2, .s 2, .k 0, .s 1, .s 0, .s 0, .k 0, .s 0, .s 3, .k 0, .a (fun _ sz tok => ((woL P 3 0 5 2 4 (s0 + 1115) (ls + 1113) (s0 + 1117) (s0 + 1116) (s0 + 1113) (s0 + 1114) lep kt key ps).Tj 0 0 ps.length ⟨none, [], 0⟩ ⟨o, av, aep⟩ dz dt []).at (s0 + 1118) (t + 1)), .s 5, .s 5, .s 5]
  | false, none => [.k 1, .s 1, .s 1, .s 2, .s 2, .k 0, .s 1, .s 0, .s 0, .k 0, .s 0, .s 3, .k 0, .s 3, .s 3, .k 0, .s 3, .s 3, .a (fun _ sz tok => ((woL P 3 0 5 2 4 (s0 + 1115) (ls + 1113) (s0 + 1117) (s0 + 1116) (s0 + 1113) (s0 + 1114) lep kt key ps).Tj 0 0 ps.length ⟨none, [], 0⟩ ⟨o, av, aep⟩ dz dt []).at (s0 + 1118) (t + 1)), .s 5]
  | false, some _ => [.k 1, .s 1, .s 1, .s 2, .s 2, .k 0, .s 1, .s 0, .s 0, .k 0, .s 0, .s 3, .k 0, .s 3, .s 3, .k 0, .s 3, .s 3, .a (fun _ sz tok => ((woL P 3 0 5 2 4 (s0 + 1115) (ls + 1113) (s0 + 1117) (s0 + 1116) (s0 + 1113) (s0 + 1114) lep kt key ps).Tj 0 0 ps.length ⟨none, [], 0⟩ ⟨o, av, aep⟩ dz dt []).at (s0 + 1118) (t + 1)), .s 5, .s 5, .s 5]
noncomputable def nWo (c : Bool) (P : Params) (ls lep kt j0 : Nat) (key : Int) (ps : List (Nat × E)) (o : Option (Nat × Value)) (av : List Value) (aep dz dt : Nat) (s0 t : Nat) : Nat := match c, o with
  | true, none => 34
  | true, some _ => 38
  | false, none => 44
  | false, some _ => 48
noncomputable def qWo (b c : Bool) (w : World) (ls lep kt j0 : Nat) (key : Int) (ps : List (Nat × E)) (o : Option (Nat × Value)) (av : List Value) (aep dz dt : Nat) (s0 t : Nat) (k : Result → Sem PySem.Fin) (g : Bool) (l : List Value) (code : Code) (pos pos' : Pos) (kp : List Value) (W : List (Code × Pos)) (gens : List GenState) : Prop :=
    chk (tR tP (tW b c w) (KK (tW b c w)) W (nWo c (tW b c w).params ls lep kt j0 key ps o av aep dz dt s0 t) (oWo c (tW b c w).params ls lep kt j0 key ps o av aep dz dt s0 t) (mkT [((ls + 1113), lsObj (ps.map rfD) lep)]) 1 (s0 + 1113) gens t [(ps.map tpD)] (tD (.call (.ref 1107) ⟨[.ref (ls + 1113), .int key kt], []⟩)) (.call (.ref 1107) ⟨[.ref (ls + 1113), .int key kt], []⟩) pos' [.ret k none g l code pos kp] [] []) (ends 1 [4]) =
    chk' (tR tP (tW b c w) (KK (tW b c w)) W (nWo c (tW b c w).params ls lep kt j0 key ps o av aep dz dt s0 t) (oWo c (tW b c w).params ls lep kt j0 key ps o av aep dz dt s0 t) (mkT [((ls + 1113), lsObj (ps.map rfD) lep)]) 1 (s0 + 1113) gens t [(ps.map tpD)] (tD (.call (.ref 1107) ⟨[.ref (ls + 1113), .int key kt], []⟩)) (.call (.ref 1107) ⟨[.ref (ls + 1113), .int key kt], []⟩) pos' [.ret k none g l code pos kp] [] [])
      (k (.ok (.ret (.ref ((s0 + 1113) + 3)))), code, pos, [], (dz + (s0 + 1120)), (t + 1 + dt), appG gens [], [([] : List (Nat × Obj))] ++ [(ps.map tpD)], [((ls + 1113), lsObj (ps.map rfD) lep)].map some, [((s0 + 1113) + 3, lsObj av aep)].map some)
theorem rWo (ls lep kt j0 : Nat) (key : Int) (ps : List (Nat × E)) (o : Option (Nat × Value)) (av : List Value) (aep dz dt : Nat) (s0 t : Nat) (k : Result → Sem PySem.Fin) (g : Bool) (l : List Value) (lt0 : PySem.Expr) (li0 : Value) (lb0 : List Stmt) (lo0 : List Stmt) (le0 : Env) (pos pos' : Pos) (kp : List Value) (fb1 : List Stmt) (fe1 : Env) (ps1 : Pos) (ca2 : Args) (ps2 : Pos) (gens : List GenState) : qWo b c w ls lep kt j0 key ps o av aep dz dt s0 t k g l (.forLoop lt0 li0 lb0 lo0 le0) pos pos' kp [((.func fb1 fe1), ps1), ((.builtin "claim.caller" ca2), ps2)] gens := by
  show chk _ _ = chk' _ _
  cases o <;> cases b <;> cases c <;> kernel_rfl
theorem sWo_ok {i0 : Nat} {ls lep kt j0 : Nat} {key : Int} {ps : List (Nat × E)} {o : Option (Nat × Value)} {av : List Value} {aep dz dt : Nat} (h8 : ps.length ≤ 8) (nd : [ls].Nodup) (hge : ∀ x ∈ [ls], 1113 ≤ x) (sz tok : Nat) (hs : 1113 ≤ sz) (hlt : ∀ x ∈ [ls], x < sz) (hn : ∀ q ∈ ps.map tpD, 1113 ≤ q.1 ∧ q.1 < sz ∧ q.1 ≠ ls) (hg : ∀ P i0 i1 i2 i3 i4 it M acc L cl z, (woL P i0 i1 i2 i3 i4 it ls M acc L cl lep kt key ps).go ps ⟨none, [], 0⟩ z (tok + 1) = (⟨o, av, aep⟩, dz, dt, [])) : (sWo (tW b c w).params i0 ls lep kt j0 key ps o av aep dz dt sz).Valid (mdl tP (tW b c w)) (KK (tW b c w)) sz tok := by
  obtain ⟨ls, rfl⟩ : ∃ x, ls = x + 1113 := ⟨ls - 1113, by have := hge ls (by simp); omega⟩
  obtain ⟨s0, rfl⟩ : ∃ x, sz = x + 1113 := ⟨sz - 1113, by omega⟩
  refine Summ.ofRunZ [((ls + 1113), lsObj (ps.map rfD) lep)] [((ls + 1113), lsObj (ps.map rfD) lep)] [4] [((s0 + 1113) + 3, lsObj av aep)] (nWo c (tW b c w).params ls lep kt j0 key ps o av aep dz dt s0 tok) (oWo c (tW b c w).params ls lep kt j0 key ps o av aep dz dt s0 tok) 1 [(ps.map tpD)] (dz + (s0 + 1120)) (tok + 1 + dt) rfl rfl rfl rfl f2_nil ((all_cons (.inl m0) all_nil)) nd (all_cons (KK_none (hge _ m0)) all_nil) rfl (fun l hl q hq hm => by rw [List.mem_singleton.mp hl] at hq; exact absurd (List.mem_singleton.mp hm) (hn q hq).2.2) (fun l hl q hq => by rw [List.mem_singleton.mp hl] at hq; cases hq) (by show (dz) + (s0 + 1113) + 7 = _; omega) (by show tok + (dt + 1) = _; omega) rfl (by all_goals (cases c); all_goals (cases o); all_goals (exact ⟨fun cc sz tok h1 h2 => ⟨Summ.at_ok (LoopW.Tj_ok (woL_ok ps h8 rfl (by have q0 := hlt _ m0; simp only [List.nodup_cons, List.mem_cons, List.not_mem_nil, or_false, List.nodup_nil, not_or, not_false_eq_true, and_true, and_self]; omega) (all_cons (by omega) (all_cons (by omega) (all_cons (by omega) (all_cons (by omega) (all_cons (by omega) all_nil))))) (fun q hq => ⟨by have := hn q hq; simp only [List.mem_cons, List.not_mem_nil, or_false, not_or]; omega, (hn q hq).1⟩) (fun n e h => h) ⟨none, [], 0⟩ (Nat.le_refl _) _ _ (by omega)) (Nat.zero_add _).symm (hg ..)) _ _ h1 h2, nd0⟩, trivial⟩)) (fun k g l code pos pos' kp W gens hsh => ?_)
  exact el102 (P := fun code W => qWo b c w ls lep kt j0 key ps o av aep dz dt s0 tok k g l code pos pos' kp W gens) (fun lt0 li0 lb0 lo0 le0 fb1 fe1 ps1 ca2 ps2 => rWo ls lep kt j0 key ps o av aep dz dt s0 tok k g l lt0 li0 lb0 lo0 le0 pos pos' kp fb1 fe1 ps1 ca2 ps2 gens) hsh
end Mine
set_option linter.all false
namespace Mine
open PySem PySem.W
variable {b c : Bool} {w : World}
structure wiSt where
  o : Option (Nat × Value)
  av : List Value
  aep : Nat
noncomputable def wiL (P : Params) (i0 i1 i2 i3 i4 : Nat) (it ls M acc L cl lep kt : Nat) (key : Int) (ps : List (Nat × E)) : LoopW wiSt (Nat × E) where
  code := cWi it acc M L cl
  res := .ok .next
  slots n st := [(i0, it, liObj ls n), (i1, ls, lsObj (ps.map rfD) lep), (i2, M, cm1 P "pair" st.o), (i3, cl, ceObj (some (.int key kt))), (i4, acc, lsObj st.av st.aep)]
  fin n st := [(it, liEnd (liObj ls n)), (ls, lsObj (ps.map rfD) lep), (M, cm1 P "pair" st.o), (cl, ceObj (some (.int key kt))), (acc, lsObj st.av st.aep)]
  post n st := [(i0, it, liEnd (liObj ls n)), (i2, M, cm1 P "pair" st.o), (i4, acc, lsObj st.av st.aep)]
  edl := 2
  edt := 0
  step e st z t := match e.2.k == key with
    | true => ⟨locSet t (.ref e.1) st.o, st.av ++ [.ref e.1], st.aep + 1⟩
    | false => ⟨locSet t (.ref e.1) st.o, st.av, st.aep⟩
  sdl e st t := match e.2.k == key with
    | true => 0
    | false => 0
  sdt e st t := match e.2.k == key with
    | true => 2
    | false => 2
  fact e st z t := match e.2.k == key with
    | true => []
    | false => []
  ex e := [(e.1, tupObj (kv e.2))]
  need := (ps.map tpD)
  nj := 0
noncomputable def slwi (P : Params) (it ls M acc L cl lep kt : Nat) (key : Int) (ps : List (Nat × E)) (n : Nat) (o : Option (Nat × Value)) (av : List Value) (aep : Nat) : List (Nat × Obj) := [(it, liObj ls n), (ls, lsObj (ps.map rfD) lep), (M, cm1 P "pair" o), (cl, ceObj (some (.int key kt))), (acc, lsObj av aep)]
noncomputable def owi0 (it ls M acc L cl lep kt : Nat) (key : Int) (ps : List (Nat × E)) (n : Nat) (o : Option (Nat × Value)) (av : List Value) (aep : Nat) (e : (Nat × E))  (zz tt : Nat) : List Op := [.s 0, .k 0, .s 0, .a (fun _ _ _ => sLiNext 0 1 it ls n (ps.map rfD) lep (.ref e.1)), .s 2, .s 2, .s 2, .s 5, .s 5, .s 5, .k 0, .s 5, .s 5, .s 3, .k 0, .a (fun cc _ _ => sCmp "int.__eq__" e.2.k key true cc), .s 2, .k 0, .s 4, .a (fun _ _ _ => sApp 4 acc av (.ref e.1) aep)]
noncomputable def qwi0 (b c : Bool) (w : World) (it ls M acc L cl lep kt : Nat) (key : Int) (ps : List (Nat × E)) (n : Nat) (o : Option (Nat × Value)) (av : List Value) (aep : Nat) (e : (Nat × E))  (sz tok : Nat) (k : Result → Sem PySem.Fin) (g : Bool) (l : List Value) (code : Code) (pos pos' : Pos) (kp : List Value) (W : List (Code × Pos)) (gens : List GenState) : Prop :=
    chk (tR tP (tW b c w) (KK (tW b c w)) W 36 (owi0 it ls M acc L cl lep kt key ps n o av aep e  (sz + 1113) tok) (mkT ((slwi (tW b c w).params it ls M acc L cl lep kt key ps n o av aep) ++ [(e.1, tupObj (kv e.2))])) 6 (sz + 1113) gens tok [] (tD (cWi it acc M L cl)) (cWi it acc M L cl) pos' [.ret k none g l code pos kp] [] []) (turnsZ 6 []) =
    chk' (tR tP (tW b c w) (KK (tW b c w)) W 36 (owi0 it ls M acc L cl lep kt key ps n o av aep e  (sz + 1113) tok) (mkT ((slwi (tW b c w).params it ls M acc L cl lep kt key ps n o av aep) ++ [(e.1, tupObj (kv e.2))])) 6 (sz + 1113) gens tok [] (tD (cWi it acc M L cl)) (cWi it acc M L cl) pos' [.ret k none g l code pos kp] [] [])
      (tD (cWi it acc M L cl), cWi it acc M L cl, [.ret k none g l code pos kp], sz + 1113 + 0, tok + 2, appG gens [], ((slwi (tW b c w).params it ls M acc L cl lep kt key ps (n + 1) (locSet tok (.ref e.1) o) (av ++ [.ref e.1]) (aep + 1)) ++ [(e.1, tupObj (kv e.2))]).map some, [].map some)
theorem twi0 (it ls M acc L cl lep kt : Nat) (key : Int) (ps : List (Nat × E)) (n : Nat) (o : Option (Nat × Value)) (av : List Value) (aep : Nat) (e : (Nat × E))  (sz tok : Nat) (k : Result → Sem PySem.Fin) (g : Bool) (l : List Value) (code : Code) (pos pos' : Pos) (kp : List Value) (W : List (Code × Pos)) (gens : List GenState) : qwi0 b c w it ls M acc L cl lep kt key ps n o av aep e  sz tok k g l code pos pos' kp W gens := by
  show chk _ _ = chk' _ _
  cases o <;> cases b <;> kernel_rfl
noncomputable def owi1 (it ls M acc L cl lep kt : Nat) (key : Int) (ps : List (Nat × E)) (n : Nat) (o : Option (Nat × Value)) (av : List Value) (aep : Nat) (e : (Nat × E))  (zz tt : Nat) : List Op := [.s 0, .k 0, .s 0, .a (fun _ _ _ => sLiNext 0 1 it ls n (ps.map rfD) lep (.ref e.1)), .s 2, .s 2, .s 2, .s 5, .s 5, .s 5, .k 0, .s 5, .s 5, .s 3, .k 0, .a (fun cc _ _ => sCmp "int.__eq__" e.2.k key false cc)]
noncomputable def qwi1 (b c : Bool) (w : World) (it ls M acc L cl lep kt : Nat) (key : Int) (ps : List (Nat × E)) (n : Nat) (o : Option (Nat × Value)) (av : List Value) (aep : Nat) (e : (Nat × E))  (sz tok : Nat) (k : Result → Sem PySem.Fin) (g : Bool) (l : List Value) (code : Code) (pos pos' : Pos) (kp : List Value) (W : List (Code × Pos)) (gens : List GenState) : Prop :=
    chk (tR tP (tW b c w) (KK (tW b c w)) W 31 (owi1 it ls M acc L cl lep kt key ps n o av aep e  (sz + 1113) tok) (mkT ((slwi (tW b c w).params it ls M acc L cl lep kt key ps n o av aep) ++ [(e.1, tupObj (kv e.2))])) 6 (sz + 1113) gens tok [] (tD (cWi it acc M L cl)) (cWi it acc M L cl) pos' [.ret k none g l code pos kp] [] []) (turnsZ 6 []) =
    chk' (tR tP (tW b c w) (KK (tW b c w)) W 31 (owi1 it ls M acc L cl lep kt key ps n o av aep e  (sz + 1113) tok) (mkT ((slwi (tW b c w).params it ls M acc L cl lep kt key ps n o av aep) ++ [(e.1, tupObj (kv e.2))])) 6 (sz + 1113) gens tok [] (tD (cWi it acc M L cl)) (cWi it acc M L cl) pos' [.ret k none g l code pos kp] [] [])
      (tD (cWi it acc M L cl), cWi it acc M L cl, [.ret k none g l code pos kp], sz + 1113 + 0, tok + 2, appG gens [], ((slwi (tW b c w).params it ls M acc L cl lep kt key ps (n + 1) (locSet tok (.ref e.1) o) (av) (aep)) ++ [(e.1, tupObj (kv e.2))]).map some, [].map some)
theorem twi1 (it ls M acc L cl lep kt : Nat) (key : Int) (ps : List (Nat × E)) (n : Nat) (o : Option (Nat × Value)) (av : List Value) (aep : Nat) (e : (Nat × E))  (sz tok : Nat) (k : Result → Sem PySem.Fin) (g : Bool) (l : List Value) (code : Code) (pos pos' : Pos) (kp : List Value) (W : List (Code × Pos)) (gens : List GenState) : qwi1 b c w it ls M acc L cl lep kt key ps n o av aep e  sz tok k g l code pos pos' kp W gens := by
  show chk _ _ = chk' _ _
  cases o <;> cases b <;> kernel_rfl
noncomputable def owiE (it ls M acc L cl lep kt : Nat) (key : Int) (ps : List (Nat × E)) (n : Nat) (o : Option (Nat × Value)) (av : List Value) (aep : Nat) : List Op := [.s 0, .k 0, .s 0, .a (fun _ sz _ => sLiEnd 0 1 it ls n (ps.map rfD) lep sz), .s 6]
noncomputable def qwiE (b c : Bool) (w : World) (it ls M acc L cl lep kt : Nat) (key : Int) (ps : List (Nat × E)) (n : Nat) (o : Option (Nat × Value)) (av : List Value) (aep : Nat) (sz tok : Nat) (k : Result → Sem PySem.Fin) (g : Bool) (l : List Value) (code : Code) (pos pos' : Pos) (kp : List Value) (W : List (Code × Pos)) (gens : List GenState) : Prop :=
    chk (tR tP (tW b c w) (KK (tW b c w)) W 7 (owiE it ls M acc L cl lep kt key ps n o av aep) (mkT (slwi (tW b c w).params it ls M acc L cl lep kt key ps n o av aep)) 5 (sz + 1113) gens tok [(ps.map tpD)] (tD (cWi it acc M L cl)) (cWi it acc M L cl) pos' [.ret k none g l code pos kp] [] []) (ends 5 []) =
    chk' (tR tP (tW b c w) (KK (tW b c w)) W 7 (owiE it ls M acc L cl lep kt key ps n o av aep) (mkT (slwi (tW b c w).params it ls M acc L cl lep kt key ps n o av aep)) 5 (sz + 1113) gens tok [(ps.map tpD)] (tD (cWi it acc M L cl)) (cWi it acc M L cl) pos' [.ret k none g l code pos kp] [] [])
      (k (.ok .next), code, pos, [], sz + 1113 + 2, tok + 0, appG gens [], [(ps.map tpD)], [(it, liEnd (liObj ls n)), (ls, lsObj (ps.map rfD) lep), (M, cm1 (tW b c w).params "pair" o), (cl, ceObj (some (.int key kt))), (acc, lsObj av aep)].map some, [])
theorem ewi (it ls M acc L cl lep kt : Nat) (key : Int) (ps : List (Nat × E)) (n : Nat) (o : Option (Nat × Value)) (av : List Value) (aep : Nat) (sz tok : Nat) (k : Result → Sem PySem.Fin) (g : Bool) (l : List Value) (code : Code) (pos pos' : Pos) (kp : List Value) (W : List (Code × Pos)) (gens : List GenState) : qwiE b c w it ls M acc L cl lep kt key ps n o av aep sz tok k g l code pos pos' kp W gens := by
  show chk _ _ = chk' _ _
  cases o <;> cases b <;> kernel_rfl
theorem wiL_ok {i0 i1 i2 i3 i4 : Nat} {it ls M acc L cl lep kt : Nat} {key : Int} {ps : List (Nat × E)} (els : List (Nat × E)) (h8 : ps.length ≤ 8) (hels : ps.length = els.length) (nd : [it, ls, M, cl, acc].Nodup) (hge : ∀ x ∈ [it, ls, M, cl, acc], 1113 ≤ x) (hneed : ∀ q ∈ (ps.map tpD), q.1 ∉ [it, ls, M, cl, acc] ∧ 1113 ≤ q.1) (hel : ∀ (n : Nat) (e : (Nat × E)), els[n]? = some e → ps[n]? = some e) (st : wiSt) (hst : st.av.length ≤ 0) (sz tok : Nat) (hsz : 1113 ≤ sz) :
    ((wiL (tW b c w).params i0 i1 i2 i3 i4 it ls M acc L cl lep kt key ps).S 0 els st sz tok).Valid (mdl tP (tW b c w)) (KK (tW b c w)) sz tok := by
  refine LoopW.valid _ [it, ls, M, cl, acc] [it, M, acc] 5 1 (fun n st => st.av.length ≤ n) (fun n e => ps[n]? = some e) (fun n => n = els.length) 1113 (fun _ _ => rfl) rfl (fun _ _ => rfl) nd (fun x hx => KK_none (hge x hx)) (fun n e he => by exact ⟨all_cons (List.mem_map.mpr ⟨e, List.mem_of_getElem? he, rfl⟩) all_nil, List.nodup_cons.mpr ⟨List.not_mem_nil, List.nodup_nil⟩, rfl, fun _ _ => rfl⟩) (fun q hq => ⟨(hneed q hq).1, KK_none (hneed q hq).2⟩) (fun _ _ => rfl) (fun n st n' st' => (all_cons (.inr m0) (all_cons (.inl (mt m0)) (all_cons (.inr (mt m0)) (all_cons (.inl (mt (mt (mt m0)))) (all_cons (.inr (mt (mt m0))) all_nil))))))
    (fun n st e sz tok hs hI he => ?_) (fun n st sz tok hs hI hl => ?_) (fun _ _ => rfl) (fun n st => (f2_cons m0 (f2_cons (mt (mt m0)) (f2_cons (mt (mt (mt (mt m0)))) f2_nil)))) (fun n st => (all_cons (.inr m0) (all_cons (.inl (mt m0)) (all_cons (.inr (mt m0)) (all_cons (.inl (mt (mt (mt m0)))) (all_cons (.inr (mt (mt m0))) all_nil)))))) els 0 st sz tok hsz (fun i e h => by rw [Nat.zero_add]; exact hel i e h) (by rw [Nat.zero_add]) hst
  · obtain ⟨sz, rfl⟩ : ∃ s', sz = s' + 1113 := ⟨sz - 1113, by omega⟩
    have hn : n < ps.length := (List.getElem?_eq_some_iff.mp he).1
    cases h0 : e.2.k == key with
    | true =>
      have hs : (wiL (tW b c w).params i0 i1 i2 i3 i4 it ls M acc L cl lep kt key ps).step e st (sz + 1113) tok = ⟨locSet tok (.ref e.1) st.o, st.av ++ [.ref e.1], st.aep + 1⟩ := by simp only [wiL, h0]
      have hF : (wiL (tW b c w).params i0 i1 i2 i3 i4 it ls M acc L cl lep kt key ps).fact e st (sz + 1113) tok = [] := by simp only [wiL, h0]
      have hd : (wiL (tW b c w).params i0 i1 i2 i3 i4 it ls M acc L cl lep kt key ps).sdl e st tok = 0 := by simp only [wiL, h0]
      have ht : (wiL (tW b c w).params i0 i1 i2 i3 i4 it ls M acc L cl lep kt key ps).sdt e st tok = 2 := by simp only [wiL, h0]
      rw [hs, hd, ht, hF]
      refine ⟨by have := hI; simp only [List.length_append, List.length_singleton]; omega, (fun _ h => nomatch h), 36, owi0 it ls M acc L cl lep kt key ps n st.o st.av st.aep e  (sz + 1113) tok, [], ⟨fun cc sz tok _ _ => ⟨sLiNext_ok (by simp [he, rfD]) sz tok, nd0⟩, fun cc sz tok _ _ => ⟨sEq_ok h0 cc sz tok, nd0⟩, fun cc sz tok _ _ => ⟨sApp_ok (by have := hI; omega) sz tok, nd0⟩, trivial⟩, fun k g l code pos pos' kp W gens hsh => ?_⟩
      exact twi0 it ls M acc L cl lep kt key ps n st.o st.av st.aep e  sz tok k g l code pos pos' kp W gens
    | false =>
      have hs : (wiL (tW b c w).params i0 i1 i2 i3 i4 it ls M acc L cl lep kt key ps).step e st (sz + 1113) tok = ⟨locSet tok (.ref e.1) st.o, st.av, st.aep⟩ := by simp only [wiL, h0]
      have hF : (wiL (tW b c w).params i0 i1 i2 i3 i4 it ls M acc L cl lep kt key ps).fact e st (sz + 1113) tok = [] := by simp only [wiL, h0]
      have hd : (wiL (tW b c w).params i0 i1 i2 i3 i4 it ls M acc L cl lep kt key ps).sdl e st tok = 0 := by simp only [wiL, h0]
      have ht : (wiL (tW b c w).params i0 i1 i2 i3 i4 it ls M acc L cl lep kt key ps).sdt e st tok = 2 := by simp only [wiL, h0]
      rw [hs, hd, ht, hF]
      refine ⟨Nat.le_succ_of_le hI, (fun _ h => nomatch h), 31, owi1 it ls M acc L cl lep kt key ps n st.o st.av st.aep e  (sz + 1113) tok, [], ⟨fun cc sz tok _ _ => ⟨sLiNext_ok (by simp [he, rfD]) sz tok, nd0⟩, fun cc sz tok _ _ => ⟨sEq_ok h0 cc sz tok, nd0⟩, trivial⟩, fun k g l code pos pos' kp W gens hsh => ?_⟩
      exact twi1 it ls M acc L cl lep kt key ps n st.o st.av st.aep e  sz tok k g l code pos pos' kp W gens
  · subst hl
    obtain ⟨sz, rfl⟩ : ∃ s', sz = s' + 1113 := ⟨sz - 1113, by omega⟩
    refine ⟨7, owiE it ls M acc L cl lep kt key ps els.length st.o st.av st.aep, ⟨fun cc sz tok _ _ => ⟨sLiEnd_ok (by rw [← hels]; simp) sz tok, nd01⟩, trivial⟩, fun k g l code pos pos' kp W gens hsh => ?_⟩
    exact ewi it ls M acc L cl lep kt key ps els.length st.o st.av st.aep sz tok k g l code pos pos' kp W gens
end Mine
set_option linter.all false
namespace Mine
open PySem PySem.W
variable {b c : Bool} {w : World}
structure wjSt where
  o : Option (Nat × Value)
  av : List Value
  aep : Nat
noncomputable def wjL (P : Params) (i0 i1 i2 i3 i4 i5 : Nat) (it ls M acc L ck cq lep kt ct : Nat) (key cn : Int) (ps : List (Nat × E)) : LoopW wjSt (Nat × E) where
  code := cWj it acc M L ck cq
  res := .ok .next
  slots n st := [(i0, it, liObj ls n), (i1, ls, lsObj (ps.map rfD) lep), (i2, M, cm1 P "pair" st.o), (i3, ck, ceObj (some (.int key kt))), (i4, cq, ceObj (some (.int cn ct))), (i5, acc, lsObj st.av st.aep)]
  fin n st := [(it, liEnd (liObj ls n)), (ls, lsObj (ps.map rfD) lep), (M, cm1 P "pair" st.o), (ck, ceObj (some (.int key kt))), (cq, ceObj (some (.int cn ct))), (acc, lsObj st.av st.aep)]
  post n st := [(i0, it, liEnd (liObj ls n)), (i2, M, cm1 P "pair" st.o), (i5, acc, lsObj st.av st.aep)]
  edl := 2
  edt := 0
  step e st z t := match e.2.k == key with
    | true => ⟨locSet t (.ref e.1) st.o, st.av ++ [.ref z], st.aep + 1⟩
    | false => ⟨locSet t (.ref e.1) st.o, st.av ++ [.ref e.1], st.aep + 1⟩
  sdl e st t := match e.2.k == key with
    | true => 1
    | false => 0
  sdt e st t := match e.2.k == key with
    | true => 2
    | false => 2
  fact e st z t := match e.2.k == key with
    | true => [(z, tupObj [.int key kt, .int cn ct])]
    | false => []
  ex e := [(e.1, tupObj (kv e.2))]
  need := (ps.map tpD)
  nj := 0
noncomputable def slwj (P : Params) (it ls M acc L ck cq lep kt ct : Nat) (key cn : Int) (ps : List (Nat × E)) (n : Nat) (o : Option (Nat × Value)) (av : List Value) (aep : Nat) : List (Nat × Obj) := [(it, liObj ls n), (ls, lsObj (ps.map rfD) lep), (M, cm1 P "pair" o), (ck, ceObj (some (.int key kt))), (cq, ceObj (some (.int cn ct))), (acc, lsObj av aep)]
noncomputable def owj0 (it ls M acc L ck cq lep kt ct : Nat) (key cn : Int) (ps : List (Nat × E)) (n : Nat) (o : Option (Nat × Value)) (av : List Value) (aep : Nat) (e : (Nat × E))  (zz tt : Nat) : List Op := [.s 0, .k 0, .s 0, .a (fun _ _ _ => sLiNext 0 1 it ls n (ps.map rfD) lep (.ref e.1)), .s 2, .s 2, .s 2, .s 6, .s 6, .s 6, .k 0, .s 6, .s 6, .s 3, .k 0, .a (fun cc _ _ => sCmp "int.__eq__" e.2.k key true cc), .s 3, .s 4, .k 0, .s 5, .a (fun _ _ _ => sApp 5 acc av (.ref zz) aep)]
noncomputable def qwj0 (b c : Bool) (w : World) (it ls M acc L ck cq lep kt ct : Nat) (key cn : Int) (ps : List (Nat × E)) (n : Nat) (o : Option (Nat × Value)) (av : List Value) (aep : Nat) (e : (Nat × E))  (sz tok : Nat) (k : Result → Sem PySem.Fin) (g : Bool) (l : List Value) (code : Code) (pos pos' : Pos) (kp : List Value) (W : List (Code × Pos)) (gens : List GenState) : Prop :=
    chk (tR tP (tW b c w) (KK (tW b c w)) W 40 (owj0 it ls M acc L ck cq lep kt ct key cn ps n o av aep e  (sz + 1113) tok) (mkT ((slwj (tW b c w).params it ls M acc L ck cq lep kt ct key cn ps n o av aep) ++ [(e.1, tupObj (kv e.2))])) 7 (sz + 1113) gens tok [] (tD (cWj it acc M L ck cq)) (cWj it acc M L ck cq) pos' [.ret k none g l code pos kp] [] []) (turnsZ 7 [7]) =
    chk' (tR tP (tW b c w) (KK (tW b c w)) W 40 (owj0 it ls M acc L ck cq lep kt ct key cn ps n o av aep e  (sz + 1113) tok) (mkT ((slwj (tW b c w).params it ls M acc L ck cq lep kt ct key cn ps n o av aep) ++ [(e.1, tupObj (kv e.2))])) 7 (sz + 1113) gens tok [] (tD (cWj it acc M L ck cq)) (cWj it acc M L ck cq) pos' [.ret k none g l code pos kp] [] [])
      (tD (cWj it acc M L ck cq), cWj it acc M L ck cq, [.ret k none g l code pos kp], sz + 1113 + 1, tok + 2, appG gens [], ((slwj (tW b c w).params it ls M acc L ck cq lep kt ct key cn ps (n + 1) (locSet tok (.ref e.1) o) (av ++ [.ref (sz + 1113)]) (aep + 1)) ++ [(e.1, tupObj (kv e.2))]).map some, [((sz + 1113), tupObj [.int key kt, .int cn ct])].map some)
theorem twj0 (it ls M acc L ck cq lep kt ct : Nat) (key cn : Int) (ps : List (Nat × E)) (n : Nat) (o : Option (Nat × Value)) (av : List Value) (aep : Nat) (e : (Nat × E))  (sz tok : Nat) (k : Result → Sem PySem.Fin) (g : Bool) (l : List Value) (code : Code) (pos pos' : Pos) (kp : List Value) (W : List (Code × Pos)) (gens : List GenState) : qwj0 b c w it ls M acc L ck cq lep kt ct key cn ps n o av aep e  sz tok k g l code pos pos' kp W gens := by
  show chk _ _ = chk' _ _
  cases o <;> cases b <;> kernel_rfl
noncomputable def owj1 (it ls M acc L ck cq lep kt ct : Nat) (key cn : Int) (ps : List (Nat × E)) (n : Nat) (o : Option (Nat × Value)) (av : List Value) (aep : Nat) (e : (Nat × E))  (zz tt : Nat) : List Op := [.s 0, .k 0, .s 0, .a (fun _ _ _ => sLiNext 0 1 it ls n (ps.map rfD) lep (.ref e.1)), .s 2, .s 2, .s 2, .s 6, .s 6, .s 6, .k 0, .s 6, .s 6, .s 3, .k 0, .a (fun cc _ _ => sCmp "int.__eq__" e.2.k key false cc), .s 2, .k 0, .s 5, .a (fun _ _ _ => sApp 5 acc av (.ref e.1) aep)]
noncomputable def qwj1 (b c : Bool) (w : World) (it ls M acc L ck cq lep kt ct : Nat) (key cn : Int) (ps : List (Nat × E)) (n : Nat) (o : Option (Nat × Value)) (av : List Value) (aep : Nat) (e : (Nat × E))  (sz tok : Nat) (k : Result → Sem PySem.Fin) (g : Bool) (l : List Value) (code : Code) (pos pos' : Pos) (kp : List Value) (W : List (Code × Pos)) (gens : List GenState) : Prop :=
    chk (tR tP (tW b c w) (KK (tW b c w)) W 36 (owj1 it ls M acc L ck cq lep kt ct key cn ps n o av aep e  (sz + 1113) tok) (mkT ((slwj (tW b c w).params it ls M acc L ck cq lep kt ct key cn ps n o av aep) ++ [(e.1, tupObj (kv e.2))])) 7 (sz + 1113) gens tok [] (tD (cWj it acc M L ck cq)) (cWj it acc M L ck cq) pos' [.ret k none g l code pos kp] [] []) (turnsZ 7 []) =
    chk' (tR tP (tW b c w) (KK (tW b c w)) W 36 (owj1 it ls M acc L ck cq lep kt ct key cn ps n o av aep e  (sz + 1113) tok) (mkT ((slwj (tW b c w).params it ls M acc L ck cq lep kt ct key cn ps n o av aep) ++ [(e.1, tupObj (kv e.2))])) 7 (sz + 1113) gens tok [] (tD (cWj it acc M L ck cq)) (cWj it acc M L ck cq) pos' [.ret k none g l code pos kp] [] [])
      (tD (cWj it acc M L ck cq), cWj it acc M L ck cq, [.ret k none g l code pos kp], sz + 1113 + 0, tok + 2, appG gens [], ((slwj (tW b c w).params it ls M acc L ck cq lep kt ct key cn ps (n + 1) (locSet tok (.ref e.1) o) (av ++ [.ref e.1]) (aep + 1)) ++ [(e.1, tupObj (kv e.2))]).map some, [].map some)
theorem twj1 (it ls M acc L ck cq lep kt ct : Nat) (key cn : Int) (ps : List (Nat × E)) (n : Nat) (o : Option (Nat × Value)) (av : List Value) (aep : Nat) (e : (Nat × E))  (sz tok : Nat) (k : Result → Sem PySem.Fin) (g : Bool) (l : List Value) (code : Code) (pos pos' : Pos) (kp : List Value) (W : List (Code × Pos)) (gens : List GenState) : qwj1 b c w it ls M acc L ck cq lep kt ct key cn ps n o av aep e  sz tok k g l code pos pos' kp W gens := by
  show chk _ _ = chk' _ _
  cases o <;> cases b <;> kernel_rfl
noncomputable def owjE (it ls M acc L ck cq lep kt ct : Nat) (key cn : Int) (ps : List (Nat × E)) (n : Nat) (o : Option (Nat × Value)) (av : List Value) (aep : Nat) : List Op := [.s 0, .k 0, .s 0, .a (fun _ sz _ => sLiEnd 0 1 it ls n (ps.map rfD) lep sz), .s 7]
noncomputable def qwjE (b c : Bool) (w : World) (it ls M acc L ck cq lep kt ct : Nat) (key cn : Int) (ps : List (Nat × E)) (n : Nat) (o : Option (Nat × Value)) (av : List Value) (aep : Nat) (sz tok : Nat) (k : Result → Sem PySem.Fin) (g : Bool) (l : List Value) (code : Code) (pos pos' : Pos) (kp : List Value) (W : List (Code × Pos)) (gens : List GenState) : Prop :=
    chk (tR tP (tW b c w) (KK (tW b c w)) W 7 (owjE it ls M acc L ck cq lep kt ct key cn ps n o av aep) (mkT (slwj (tW b c w).params it ls M acc L ck cq lep kt ct key cn ps n o av aep)) 6 (sz + 1113) gens tok [(ps.map tpD)] (tD (cWj it acc M L ck cq)) (cWj it acc M L ck cq) pos' [.ret k none g l code pos kp] [] []) (ends 6 []) =
    chk' (tR tP (tW b c w) (KK (tW b c w)) W 7 (owjE it ls M acc L ck cq lep kt ct key cn ps n o av aep) (mkT (slwj (tW b c w).params it ls M acc L ck cq lep kt ct key cn ps n o av aep)) 6 (sz + 1113) gens tok [(ps.map tpD)] (tD (cWj it acc M L ck cq)) (cWj it acc M L ck cq) pos' [.ret k none g l code pos kp] [] [])
      (k (.ok .next), code, pos, [], sz + 1113 + 2, tok + 0, appG gens [], [(ps.map tpD)], [(it, liEnd (liObj ls n)), (ls, lsObj (ps.map rfD) lep), (M, cm1 (tW b c w).params "pair" o), (ck, ceObj (some (.int key kt))), (cq, ceObj (some (.int cn ct))), (acc, lsObj av aep)].map some, [])
theorem ewj (it ls M acc L ck cq lep kt ct : Nat) (key cn : Int) (ps : List (Nat × E)) (n : Nat) (o : Option (Nat × Value)) (av : List Value) (aep : Nat) (sz tok : Nat) (k : Result → Sem PySem.Fin) (g : Bool) (l : List Value) (code : Code) (pos pos' : Pos) (kp : List Value) (W : List (Code × Pos)) (gens : List GenState) : qwjE b c w it ls M acc L ck cq lep kt ct key cn ps n o av aep sz tok k g l code pos pos' kp W gens := by
  show chk _ _ = chk' _ _
  cases o <;> cases b <;> kernel_rfl
theorem wjL_ok {i0 i1 i2 i3 i4 i5 : Nat} {it ls M acc L ck cq lep kt ct : Nat} {key cn : Int} {ps : List (Nat × E)} (els : List (Nat × E)) (h8 : ps.length ≤ 8) (hels : ps.length = els.length) (nd : [it, ls, M, ck, cq, acc].Nodup) (hge : ∀ x ∈ [it, ls, M, ck, cq, acc], 1113 ≤ x) (hneed : ∀ q ∈ (ps.map tpD), q.1 ∉ [it, ls, M, ck, cq, acc] ∧ 1113 ≤ q.1) (hel : ∀ (n : Nat) (e : (Nat × E)), els[n]? = some e → ps[n]? = some e) (st : wjSt) (hst : st.av.length ≤ 0) (sz tok : Nat) (hsz : 1113 ≤ sz) :
    ((wjL (tW b c w).params i0 i1 i2 i3 i4 i5 it ls M acc L ck cq lep kt ct key cn ps).S 0 els st sz tok).Valid (mdl tP (tW b c w)) (KK (tW b c w)) sz tok := by
  refine LoopW.valid _ [it, ls, M, ck, cq, acc] [it, M, acc] 6 1 (fun n st => st.av.length ≤ n) (fun n e => ps[n]? = some e) (fun n => n = els.length) 1113 (fun _ _ => rfl) rfl (fun _ _ => rfl) nd (fun x hx => KK_none (hge x hx)) (fun n e he => by exact ⟨all_cons (List.mem_map.mpr ⟨e, List.mem_of_getElem? he, rfl⟩) all_nil, List.nodup_cons.mpr ⟨List.not_mem_nil, List.nodup_nil⟩, rfl, fun _ _ => rfl⟩) (fun q hq => ⟨(hneed q hq).1, KK_none (hneed q hq).2⟩) (fun _ _ => rfl) (fun n st n' st' => (all_cons (.inr m0) (all_cons (.inl (mt m0)) (all_cons (.inr (mt m0)) (all_cons (.inl (mt (mt (mt m0)))) (all_cons (.inl (mt (mt (mt (mt m0))))) (all_cons (.inr (mt (mt m0))) all_nil)))))))
    (fun n st e sz tok hs hI he => ?_) (fun n st sz tok hs hI hl => ?_) (fun _ _ => rfl) (fun n st => (f2_cons m0 (f2_cons (mt (mt m0)) (f2_cons (mt (mt (mt (mt (mt m0))))) f2_nil)))) (fun n st => (all_cons (.inr m0) (all_cons (.inl (mt m0)) (all_cons (.inr (mt m0)) (all_cons (.inl (mt (mt (mt m0)))) (all_cons (.inl (mt (mt (mt (mt m0))))) (all_cons (.inr (mt (mt m0))) all_nil))))))) els 0 st sz tok hsz (fun i e h => by rw [Nat.zero_add]; exact hel i e h) (by rw [Nat.zero_add]) hst
  · obtain ⟨sz, rfl⟩ : ∃ s', sz = s' + 1113 := ⟨sz - 1113, by omega⟩
    have hn : n < ps.length := (List.getElem?_eq_some_iff.mp he).1
    cases h0 : e.2.k == key with
    | true =>
      have hs : (wjL (tW b c w).params i0 i1 i2 i3 i4 i5 it ls M acc L ck cq lep kt ct key cn ps).step e st (sz + 1113) tok = ⟨locSet tok (.ref e.1) st.o, st.av ++ [.ref (sz + 1113)], st.aep + 1⟩ := by simp only [wjL, h0]
      have hF : (wjL (tW b c w).params i0 i1 i2 i3 i4 i5 it ls M acc L ck cq lep kt ct key cn ps).fact e st (sz + 1113) tok = [((sz + 1113), tupObj [.int key kt, .int cn ct])] := by simp only [wjL, h0]
      have hd : (wjL (tW b c w).params i0 i1 i2 i3 i4 i5 it ls M acc L ck cq lep kt ct key cn ps).sdl e st tok = 1 := by simp only [wjL, h0]
      have ht : (wjL (tW b c w).params i0 i1 i2 i3 i4 i5 it ls M acc L ck cq lep kt ct key cn ps).sdt e st tok = 2 := by simp only [wjL, h0]
      rw [hs, hd, ht, hF]
      refine ⟨by have := hI; simp only [List.length_append, List.length_singleton]; omega, (all_cons (Nat.le_refl _) all_nil), 40, owj0 it ls M acc L ck cq lep kt ct key cn ps n st.o st.av st.aep e  (sz + 1113) tok, [7], ⟨fun cc sz tok _ _ => ⟨sLiNext_ok (by simp [he, rfD]) sz tok, nd0⟩, fun cc sz tok _ _ => ⟨sEq_ok h0 cc sz tok, nd0⟩, fun cc sz tok _ _ => ⟨sApp_ok (by have := hI; omega) sz tok, nd0⟩, trivial⟩, fun k g l code pos pos' kp W gens hsh => ?_⟩
      exact twj0 it ls M acc L ck cq lep kt ct key cn ps n st.o st.av st.aep e  sz tok k g l code pos pos' kp W gens
    | false =>
      have hs : (wjL (tW b c w).params i0 i1 i2 i3 i4 i5 it ls M acc L ck cq lep kt ct key cn ps).step e st (sz + 1113) tok = ⟨locSet tok (.ref e.1) st.o, st.av ++ [.ref e.1], st.aep + 1⟩ := by simp only [wjL, h0]
      have hF : (wjL (tW b c w).params i0 i1 i2 i3 i4 i5 it ls M acc L ck cq lep kt ct key cn ps).fact e st (sz + 1113) tok = [] := by simp only [wjL, h0]
      have hd : (wjL (tW b c w).params i0 i1 i2 i3 i4 i5 it ls M acc L ck cq lep kt ct key cn ps).sdl e st tok = 0 := by simp only [wjL, h0]
      have ht : (wjL (tW b c w).params i0 i1 i2 i3 i4 i5 it ls M acc L ck cq lep kt ct key cn ps).sdt e st tok = 2 := by simp only [wjL, h0]
      rw [hs, hd, ht, hF]
      refine ⟨by have := hI; simp only [List.length_append, List.length_singleton]; omega, (fun _ h => nomatch h), 36, owj1 it ls M acc L ck cq lep kt ct key cn ps n st.o st.av st.aep e  (sz + 1113) tok, [], ⟨fun cc sz tok _ _ => ⟨sLiNext_ok (by simp [he, rfD]) sz tok, nd0⟩, fun cc sz tok _ _ => ⟨sEq_ok h0 cc sz tok, nd0⟩, fun cc sz tok _ _ => ⟨sApp_ok (by have := hI; omega) sz tok, nd0⟩, trivial⟩, fun k g l code pos pos' kp W gens hsh => ?_⟩
      exact twj1 it ls M acc L ck cq lep kt ct key cn ps n st.o st.av st.aep e  sz tok k g l code pos pos' kp W gens
  · subst hl
    obtain ⟨sz, rfl⟩ : ∃ s', sz = s' + 1113 := ⟨sz - 1113, by omega⟩
    refine ⟨7, owjE it ls M acc L ck cq lep kt ct key cn ps els.length st.o st.av st.aep, ⟨fun cc sz tok _ _ => ⟨sLiEnd_ok (by rw [← hels]; simp) sz tok, nd01⟩, trivial⟩, fun k g l code pos pos' kp W gens hsh => ?_⟩
    exact ewj it ls M acc L ck cq lep kt ct key cn ps els.length st.o st.av st.aep sz tok k g l code pos pos' kp W gens
end Mine
set_option linter.all false
namespace Mine
open PySem PySem.W
variable {b c : Bool} {w : World}
noncomputable def sWh (P : Params) (i0 : Nat) (ls lep kt ct j0 a1 : Nat) (key cn : Int) (ps : List (Nat × E)) (u1 u2 : Nat × Value) (av : List Value) (aep dz1 dt1 dz2 dt2 : Nat) (FJ : List (Nat × Obj)) (sz : Nat) : Summ :=
  { code := .call (.ref 1102) ⟨[.ref ls, .int key kt, .int cn ct], []⟩, res := .ok (.ret (.ref (dz1 + (sz + 10)))), pre := [(i0, ls, lsObj (ps.map rfD) lep)], post := [], new := [(dz1 + 10, lsObj av aep)], dsz := some (dz1 + dz2), dl := 14, dtok := dt1 + dt2 + 1, shape := sh [1, 0, 2], needs := [(j0, (ps.map tpD))], facts := [FJ, ([] : List (Nat × Obj))] }
noncomputable def oWh (c : Bool) (P : Params) (ls lep kt ct j0 a1 : Nat) (key cn : Int) (ps : List (Nat × E)) (u1 u2 : Nat × Value) (av : List Value) (aep dz1 dt1 dz2 dt2 : Nat) (FJ : List (Nat × Obj)) (s0 t : Nat) : List Op := match c with
  | true => [.k 1, .s 1, .s 1, .s 2, .s 2, .s 3, .s 3, .k 0, .s 1, .s 0, .s 0, .k 0, .s 0, .s 4, .k 0, .a (fun _ sz tok => ((wiL P 4 0 6 2 5 (s0 + 1116) (ls + 1113) (s0 + 1118) (s0 + 1117) (s0 + 1113) (s0 + 1114) lep kt key ps).Tj 0 0 ps.length ⟨none, [], 0⟩ ⟨some u1, [.ref a1], 1⟩ dz1 dt1 []).at (s0 + 1119) (t + 1)), .s 6, .s 6, .s 6, .s 5, .s 7, .s 5, .k 0, .s 5, .s 7, .s 5, .s 7, .s 1, .s 0, .s 0, .k 0, .s 0, .s 8, .k 0, .a (fun _ sz tok => ((wjL P 8 0 10 2 3 9 (dz1 + (s0 + 1122)) (ls + 1113) (dz1 + (s0 + 1124)) (dz1 + (s0 + 1123)) (s0 + 1113) (s0 + 1114) (s0 + 1115) lep kt ct key cn ps).Tj 1 0 ps.length ⟨none, [], 0⟩ ⟨some u2, av, aep⟩ dz2 dt2 FJ).at (dz1 + (s0 + 1125)) (t + 1 + dt1)), .s 10, .s 10, .s 10]
  | false => [.k 1, .s 1, .s 1, .s 2, .s 2, .s 3, .s 3, .k 0, .s 1, .s 0, .s 0, .k 0, .s 0, .s 4, .k 0, .s 4, .s 4, .k 0, .s 4, .s 4, .a (fun _ sz tok => ((wiL P 4 0 6 2 5 (s0 + 1116) (ls + 1113) (s0 + 1118) (s0 + 1117) (s0 + 1113) (s0 + 1114) lep kt key ps).Tj 0 0 ps.length ⟨none, [], 0⟩ ⟨some u1, [.ref a1], 1⟩ dz1 dt1 []).at (s0 + 1119) (t + 1)), .s 6, .s 6, .s 6, .s 5, .s 7, .s 5, .k 0, .s 5, .s 7, .s 5, .s 7, .s 1, .s 0, .s 0, .k 0, .s 0, .s 8, .k 0, .s 8, .s 8, .k 0, .s 8, .s 8, .a (fun _ sz tok => ((wjL P 8 0 10 2 3 9 (dz1 + (s0 + 1122)) (ls + 1113) (dz1 + (s0 + 1124)) (dz1 + (s0 + 1123)) (s0 + 1113) (s0 + 1114) (s0 + 1115) lep kt ct key cn ps).Tj 1 0 ps.length ⟨none, [], 0⟩ ⟨some u2, av, aep⟩ dz2 dt2 FJ).at (dz1 + (s0 + 1125)) (t + 1 + dt1)), .s 10, .s 10, .s 10]
noncomputable def nWh (c : Bool) (P : Params) (ls lep kt ct j0 a1 : Nat) (key cn : Int) (ps : List (Nat × E)) (u1 u2 : Nat × Value) (av : List Value) (aep dz1 dt1 dz2 dt2 : Nat) (FJ : List (Nat × Obj)) (s0 t : Nat) : Nat := match c with
  | true => 81
  | false => 101
noncomputable def qWh (b c : Bool) (w : World) (ls lep kt ct j0 a1 : Nat) (key cn : Int) (ps : List (Nat × E)) (u1 u2 : Nat × Value) (av : List Value) (aep dz1 dt1 dz2 dt2 : Nat) (FJ : List (Nat × Obj)) (s0 t : Nat) (k : Result → Sem PySem.Fin) (g : Bool) (l : List Value) (code : Code) (pos pos' : Pos) (kp : List Value) (W : List (Code × Pos)) (gens : List GenState) : Prop :=
    chk (tR tP (tW b c w) (KK (tW b c w)) W (nWh c (tW b c w).params ls lep kt ct j0 a1 key cn ps u1 u2 av aep dz1 dt1 dz2 dt2 FJ s0 t) (oWh c (tW b c w).params ls lep kt ct j0 a1 key cn ps u1 u2 av aep dz1 dt1 dz2 dt2 FJ s0 t) (mkT [((ls + 1113), lsObj (ps.map rfD) lep)]) 1 (s0 + 1113) gens t [(ps.map tpD)] (tD (.call (.ref 1102) ⟨[.ref (ls + 1113), .int key kt, .int cn ct], []⟩)) (.call (.ref 1102) ⟨[.ref (ls + 1113), .int key kt, .int cn ct], []⟩) pos' [.ret k none g l code pos kp] [] []) (ends 1 [9]) =
    chk' (tR tP (tW b c w) (KK (tW b c w)) W (nWh c (tW b c w).params ls lep kt ct j0 a1 key cn ps u1 u2 av aep dz1 dt1 dz2 dt2 FJ s0 t) (oWh c (tW b c w).params ls lep kt ct j0 a1 key cn ps u1 u2 av aep dz1 dt1 dz2 dt2 FJ s0 t) (mkT [((ls + 1113), lsObj (ps.map rfD) lep)]) 1 (s0 + 1113) gens t [(ps.map tpD)] (tD (.call (.ref 1102) ⟨[.ref (ls + 1113), .int key kt, .int cn ct], []⟩)) (.call (.ref 1102) ⟨[.ref (ls + 1113), .int key kt, .int cn ct], []⟩) pos' [.ret k none g l code pos kp] [] [])
      (k (.ok (.ret (.ref (dz1 + ((s0 + 1113) + 10))))), code, pos, [], (dz2 + (dz1 + (s0 + 1127))), (t + 1 + dt1 + dt2), appG gens [], [FJ, ([] : List (Nat × Obj))] ++ [(ps.map tpD)], [((ls + 1113), lsObj (ps.map rfD) lep)].map some, [(dz1 + ((s0 + 1113) + 10), lsObj av aep)].map some)
theorem rWh (ls lep kt ct j0 a1 : Nat) (key cn : Int) (ps : List (Nat × E)) (u1 u2 : Nat × Value) (av : List Value) (aep dz1 dt1 dz2 dt2 : Nat) (FJ : List (Nat × Obj)) (s0 t : Nat) (k : Result → Sem PySem.Fin) (g : Bool) (l : List Value) (lt0 : PySem.Expr) (li0 : Value) (lb0 : List Stmt) (lo0 : List Stmt) (le0 : Env) (pos pos' : Pos) (kp : List Value) (fb1 : List Stmt) (fe1 : Env) (ps1 : Pos) (ca2 : Args) (ps2 : Pos) (gens : List GenState) : qWh b c w ls lep kt ct j0 a1 key cn ps u1 u2 av aep dz1 dt1 dz2 dt2 FJ s0 t k g l (.forLoop lt0 li0 lb0 lo0 le0) pos pos' kp [((.func fb1 fe1), ps1), ((.builtin "claim.caller" ca2), ps2)] gens := by
  show chk _ _ = chk' _ _
  cases b <;> cases c <;> kernel_rfl
theorem sWh_ok {i0 : Nat} {ls lep kt ct j0 a1 : Nat} {key cn : Int} {ps : List (Nat × E)} {u1 u2 : Nat × Value} {av : List Value} {aep dz1 dt1 dz2 dt2 : Nat} {FJ : List (Nat × Obj)} (h8 : ps.length ≤ 8) (nd : [ls].Nodup) (hge : ∀ x ∈ [ls], 1113 ≤ x) (sz tok : Nat) (hs : 1113 ≤ sz) (hlt : ∀ x ∈ [ls], x < sz) (hn : ∀ q ∈ ps.map tpD, 1113 ≤ q.1 ∧ q.1 < sz ∧ q.1 ≠ ls) (hFJ : ∀ q ∈ FJ, dz1 + (sz + 12) ≤ q.1) (hg1 : ∀ P i0 i1 i2 i3 i4 it M acc L cl z, (wiL P i0 i1 i2 i3 i4 it ls M acc L cl lep kt key ps).go ps ⟨none, [], 0⟩ z (tok + 1) = (⟨some u1, [.ref a1], 1⟩, dz1, dt1, [])) (hg2 : ∀ P i0 i1 i2 i3 i4 i5 it M acc L ck cq, (wjL P i0 i1 i2 i3 i4 i5 it ls M acc L ck cq lep kt ct key cn ps).go ps ⟨none, [], 0⟩ (dz1 + (sz + 12)) (tok + 1 + dt1) = (⟨some u2, av, aep⟩, dz2, dt2, FJ)) : (sWh (tW b c w).params i0 ls lep kt ct j0 a1 key cn ps u1 u2 av aep dz1 dt1 dz2 dt2 FJ sz).Valid (mdl tP (tW b c w)) (KK (tW b c w)) sz tok := by
  obtain ⟨ls, rfl⟩ : ∃ x, ls = x + 1113 := ⟨ls - 1113, by have := hge ls (by simp); omega⟩
  obtain ⟨s0, rfl⟩ : ∃ x, sz = x + 1113 := ⟨sz - 1113, by omega⟩
  refine Summ.ofRunZ [((ls + 1113), lsObj (ps.map rfD) lep)] [((ls + 1113), lsObj (ps.map rfD) lep)] [9] [(dz1 + ((s0 + 1113) + 10), lsObj av aep)] (nWh c (tW b c w).params ls lep kt ct j0 a1 key cn ps u1 u2 av aep dz1 dt1 dz2 dt2 FJ s0 tok) (oWh c (tW b c w).params ls lep kt ct j0 a1 key cn ps u1 u2 av aep dz1 dt1 dz2 dt2 FJ s0 tok) 1 [(ps.map tpD)] (dz2 + (dz1 + (s0 + 1127))) (tok + 1 + dt1 + dt2) rfl rfl rfl rfl f2_nil ((all_cons (.inl m0) all_nil)) nd (all_cons (KK_none (hge _ m0)) all_nil) rfl (fun l hl q hq hm => by rw [List.mem_singleton.mp hl] at hq; exact absurd (List.mem_singleton.mp hm) (hn q hq).2.2) (fun l hl q hq => (List.mem_cons.mp hl).elim (fun z => by rw [z] at hq; have h9 := hFJ q hq; exact ⟨by omega, all_cons (by show q.1 ≠ s0 + 1113 + (dz1 + 10); omega) all_nil⟩) (fun hl => by rw [List.mem_singleton.mp hl] at hq; cases hq)) (by show (dz1 + dz2) + (s0 + 1113) + 14 = _; omega) (by show tok + (dt1 + dt2 + 1) = _; omega) (by show [((s0 + 1113) + (dz1 + 10), _)] = _; rw [show (s0 + 1113) + (dz1 + 10) = dz1 + ((s0 + 1113) + 10) from by omega]; try rfl) (by all_goals (cases c); all_goals (exact ⟨fun cc sz tok h1 h2 => ⟨Summ.at_ok (LoopW.Tj_ok (wiL_ok ps h8 rfl (by have q0 := hlt _ m0; simp only [List.nodup_cons, List.mem_cons, List.not_mem_nil, or_false, List.nodup_nil, not_or, not_false_eq_true, and_true, and_self]; omega) (all_cons (by omega) (all_cons (by omega) (all_cons (by omega) (all_cons (by omega) (all_cons (by omega) all_nil))))) (fun q hq => ⟨by have := hn q hq; simp only [List.mem_cons, List.not_mem_nil, or_false, not_or]; omega, (hn q hq).1⟩) (fun n e h => h) ⟨none, [], 0⟩ (Nat.le_refl _) _ _ (by omega)) (Nat.zero_add _).symm (hg1 ..)) _ _ h1 h2, nd0⟩, fun cc sz tok h1 h2 => ⟨Summ.at_ok (LoopW.Tj_ok (wjL_ok ps h8 rfl (by have q0 := hlt _ m0; simp only [List.nodup_cons, List.mem_cons, List.not_mem_nil, or_false, List.nodup_nil, not_or, not_false_eq_true, and_true, and_self]; omega) (all_cons (by omega) (all_cons (by omega) (all_cons (by omega) (all_cons (by omega) (all_cons (by omega) (all_cons (by omega) all_nil)))))) (fun q hq => ⟨by have := hn q hq; simp only [List.mem_cons, List.not_mem_nil, or_false, not_or]; omega, (hn q hq).1⟩) (fun n e h => h) ⟨none, [], 0⟩ (Nat.le_refl _) _ _ (by omega)) (Nat.zero_add _).symm (hg2 ..)) _ _ h1 h2, nd0⟩, trivial⟩)) (fun k g l code pos pos' kp W gens hsh => ?_)
  exact el102 (P := fun code W => qWh b c w ls lep kt ct j0 a1 key cn ps u1 u2 av aep dz1 dt1 dz2 dt2 FJ s0 tok k g l code pos pos' kp W gens) (fun lt0 li0 lb0 lo0 le0 fb1 fe1 ps1 ca2 ps2 => rWh ls lep kt ct j0 a1 key cn ps u1 u2 av aep dz1 dt1 dz2 dt2 FJ s0 tok k g l lt0 li0 lb0 lo0 le0 pos pos' kp fb1 fe1 ps1 ca2 ps2 gens) hsh
end Mine
set_option linter.all false
namespace Mine
open PySem PySem.W
variable {b c : Bool} {w : World}
noncomputable def sWm (P : Params) (i0 : Nat) (ls lep kt ct j0 : Nat) (key cn : Int) (ps : List (Nat × E)) (o : Option (Nat × Value)) (zs : List Value) (dz1 dt1 : Nat) (sz : Nat) : Summ :=
  { code := .call (.ref 1102) ⟨[.ref ls, .int key kt, .int cn ct], []⟩, res := .ok (.ret (.ref (dz1 + (sz + 11)))), pre := [(i0, ls, lsObj (ps.map rfD) lep)], post := [], new := [(dz1 + 9, tupObj [.int key kt, .int cn ct]), (dz1 + 11, lsObj zs 0)], dsz := some (dz1), dl := 12, dtok := dt1 + 1, shape := sh [1, 0, 2], needs := [(j0, (ps.map tpD))], facts := [([] : List (Nat × Obj))] }
noncomputable def oWm (c : Bool) (P : Params) (ls lep kt ct j0 : Nat) (key cn : Int) (ps : List (Nat × E)) (o : Option (Nat × Value)) (zs : List Value) (dz1 dt1 : Nat) (s0 t : Nat) : List Op := match c, o with
  | true, none => [.k 1, .s 1, .s 1, .s 2, .s 2, .s 3, .s 3, .k 0, .s 1, .s 0, .s 0, .k 0, .s 0, .s 4, .k 0, .a (fun _ sz tok => ((wiL P 4 0 6 2 5 (s0 + 1116) (ls + 1113) (s0 + 1118) (s0 + 1117) (s0 + 1113) (s0 + 1114) lep kt key ps).Tj 0 0 ps.length ⟨none, [], 0⟩ ⟨o, [], 0⟩ dz1 dt1 []).at (s0 + 1119) (t + 1)), .s 6, .s 5, .s 7, .s 5, .k 0, .s 5, .s 7, .s 5, .s 7, .s 5, .s 7, .s 5, .s 7, .s 1, .s 2, .s 3, .s 0, .s 9, .s 0, .k 0, .s 0, .a (fun _ sz _ => sLsAdd 0 9 (ls + 1113) (dz1 + (s0 + 1123)) (ps.map rfD) [.ref (dz1 + (s0 + 1122))] zs lep 0 sz)]
  | true, some _ => [.k 1, .s 1, .s 1, .s 2, .s 2, .s 3, .s 3, .k 0, .s 1, .s 0, .s 0, .k 0, .s 0, .s 4, .k 0, .a (fun _ sz tok => ((wiL P 4 0 6 2 5 (s0 + 1116) (ls + 1113) (s0 + 1118) (s0 + 1117) (s0 + 1113) (s0 + 1114) lep kt key ps).Tj 0 0 ps.length ⟨none, [], 0⟩ ⟨o, [], 0⟩ dz1 dt1 []).at (s0 + 1119) (t + 1)), .s 6, .s 6, .s 6, .s 5, .s 7, .s 5, .k 0, .s 5, .s 7, .s 5, .s 7, .s 5, .s 7, .s 5, .s 7, .s 1, .s 2, .s 3, .s 0, .s 9, .s 0, .k 0, .s 0, .a (fun _ sz _ => sLsAdd 0 9 (ls + 1113) (dz1 + (s0 + 1123)) (ps.map rfD) [.ref (dz1 + (s0 + 1122))] zs lep 0 sz)]
  | false, none => [.k 1, .s 1, .s 1, .s 2, .s 2, .s 3, .s 3, .k 0, .s 1, .s 0, .s 0, .k 0, .s 0, .s 4, .k 0, .s 4, .s 4, .k 0, .s 4, .s 4, .a (fun _ sz tok => ((wiL P 4 0 6 2 5 (s0 + 1116) (ls + 1113) (s0 + 1118) (s0 + 1117) (s0 + 1113) (s0 + 1114) lep kt key ps).Tj 0 0 ps.length ⟨none, [], 0⟩ ⟨o, [], 0⟩ dz1 dt1 []).at (s0 + 1119) (t + 1)), .s 6, .s 5, .s 7, .s 5, .k 0, .s 5, .s 7, .s 5, .s 7, .s 5, .s 7, .s 5, .s 7, .s 1, .s 2, .s 3, .s 0, .s 9, .s 0, .k 0, .s 0, .a (fun _ sz _ => sLsAdd 0 9 (ls + 1113) (dz1 + (s0 + 1123)) (ps.map rfD) [.ref (dz1 + (s0 + 1122))] zs lep 0 sz)]
  | false, some _ => [.k 1, .s 1, .s 1, .s 2, .s 2, .s 3, .s 3, .k 0, .s 1, .s 0, .s 0, .k 0, .s 0, .s 4, .k 0, .s 4, .s 4, .k 0, .s 4, .s 4, .a (fun _ sz tok => ((wiL P 4 0 6 2 5 (s0 + 1116) (ls + 1113) (s0 + 1118) (s0 + 1117) (s0 + 1113) (s0 + 1114) lep kt key ps).Tj 0 0 ps.length ⟨none, [], 0⟩ ⟨o, [], 0⟩ dz1 dt1 []).at (s0 + 1119) (t + 1)), .s 6, .s 6, .s 6, .s 5, .s 7, .s 5, .k 0, .s 5, .s 7, .s 5, .s 7, .s 5, .s 7, .s 5, .s 7, .s 1, .s 2, .s 3, .s 0, .s 9, .s 0, .k 0, .s 0, .a (fun _ sz _ => sLsAdd 0 9 (ls + 1113) (dz1 + (s0 + 1123)) (ps.map rfD) [.ref (dz1 + (s0 + 1122))] zs lep 0 sz)]
noncomputable def nWm (c : Bool) (P : Params) (ls lep kt ct j0 : Nat) (key cn : Int) (ps : List (Nat × E)) (o : Option (Nat × Value)) (zs : List Value) (dz1 dt1 : Nat) (s0 t : Nat) : Nat := match c, o with
  | true, none => 78
  | true, some _ => 82
  | false, none => 88
  | false, some _ => 92
noncomputable def qWm (b c : Bool) (w : World) (ls lep kt ct j0 : Nat) (key cn : Int) (ps : List (Nat × E)) (o : Option (Nat × Value)) (zs : List Value) (dz1 dt1 : Nat) (s0 t : Nat) (k : Result → Sem PySem.Fin) (g : Bool) (l : List Value) (code : Code) (pos pos' : Pos) (kp : List Value) (W : List (Code × Pos)) (gens : List GenState) : Prop :=
    chk (tR tP (tW b c w) (KK (tW b c w)) W (nWm c (tW b c w).params ls lep kt ct j0 key cn ps o zs dz1 dt1 s0 t) (oWm c (tW b c w).params ls lep kt ct j0 key cn ps o zs dz1 dt1 s0 t) (mkT [((ls + 1113), lsObj (ps.map rfD) lep)]) 1 (s0 + 1113) gens t [(ps.map tpD)] (tD (.call (.ref 1102) ⟨[.ref (ls + 1113), .int key kt, .int cn ct], []⟩)) (.call (.ref 1102) ⟨[.ref (ls + 1113), .int key kt, .int cn ct], []⟩) pos' [.ret k none g l code pos kp] [] []) (ends 1 [8, 10]) =
    chk' (tR tP (tW b c w) (KK (tW b c w)) W (nWm c (tW b c w).params ls lep kt ct j0 key cn ps o zs dz1 dt1 s0 t) (oWm c (tW b c w).params ls lep kt ct j0 key cn ps o zs dz1 dt1 s0 t) (mkT [((ls + 1113), lsObj (ps.map rfD) lep)]) 1 (s0 + 1113) gens t [(ps.map tpD)] (tD (.call (.ref 1102) ⟨[.ref (ls + 1113), .int key kt, .int cn ct], []⟩)) (.call (.ref 1102) ⟨[.ref (ls + 1113), .int key kt, .int cn ct], []⟩) pos' [.ret k none g l code pos kp] [] [])
      (k (.ok (.ret (.ref (dz1 + ((s0 + 1113) + 11))))), code, pos, [], (dz1 + (s0 + 1125)), (t + 1 + dt1), appG gens [], [([] : List (Nat × Obj))] ++ [(ps.map tpD)], [((ls + 1113), lsObj (ps.map rfD) lep)].map some, [(dz1 + ((s0 + 1113) + 9), tupObj [.int key kt, .int cn ct]), (dz1 + ((s0 + 1113) + 11), lsObj zs 0)].map some)
theorem rWm (ls lep kt ct j0 : Nat) (key cn : Int) (ps : List (Nat × E)) (o : Option (Nat × Value)) (zs : List Value) (dz1 dt1 : Nat) (s0 t : Nat) (k : Result → Sem PySem.Fin) (g : Bool) (l : List Value) (lt0 : PySem.Expr) (li0 : Value) (lb0 : List Stmt) (lo0 : List Stmt) (le0 : Env) (pos pos' : Pos) (kp : List Value) (fb1 : List Stmt) (fe1 : Env) (ps1 : Pos) (ca2 : Args) (ps2 : Pos) (gens : List GenState) : qWm b c w ls lep kt ct j0 key cn ps o zs dz1 dt1 s0 t k g l (.forLoop lt0 li0 lb0 lo0 le0) pos pos' kp [((.func fb1 fe1), ps1), ((.builtin "claim.caller" ca2), ps2)] gens := by
  show chk _ _ = chk' _ _
  cases o <;> cases b <;> cases c <;> kernel_rfl
theorem sWm_ok {i0 : Nat} {ls lep kt ct j0 : Nat} {key cn : Int} {ps : List (Nat × E)} {o : Option (Nat × Value)} {zs : List Value} {dz1 dt1 : Nat} (h8 : ps.length ≤ 8) (nd : [ls].Nodup) (hge : ∀ x ∈ [ls], 1113 ≤ x) (sz tok : Nat) (hs : 1113 ≤ sz) (hlt : ∀ x ∈ [ls], x < sz) (hn : ∀ q ∈ ps.map tpD, 1113 ≤ q.1 ∧ q.1 < sz ∧ q.1 ≠ ls) (hzs : zs = ps.map rfD ++ [.ref (dz1 + (sz + 9))]) (hg1 : ∀ P i0 i1 i2 i3 i4 it M acc L cl z, (wiL P i0 i1 i2 i3 i4 it ls M acc L cl lep kt key ps).go ps ⟨none, [], 0⟩ z (tok + 1) = (⟨o, [], 0⟩, dz1, dt1, [])) : (sWm (tW b c w).params i0 ls lep kt ct j0 key cn ps o zs dz1 dt1 sz).Valid (mdl tP (tW b c w)) (KK (tW b c w)) sz tok := by
  obtain ⟨ls, rfl⟩ : ∃ x, ls = x + 1113 := ⟨ls - 1113, by have := hge ls (by simp); omega⟩
  obtain ⟨s0, rfl⟩ : ∃ x, sz = x + 1113 := ⟨sz - 1113, by omega⟩
  refine Summ.ofRunZ [((ls + 1113), lsObj (ps.map rfD) lep)] [((ls + 1113), lsObj (ps.map rfD) lep)] [8, 10] [(dz1 + ((s0 + 1113) + 9), tupObj [.int key kt, .int cn ct]), (dz1 + ((s0 + 1113) + 11), lsObj zs 0)] (nWm c (tW b c w).params ls lep kt ct j0 key cn ps o zs dz1 dt1 s0 tok) (oWm c (tW b c w).params ls lep kt ct j0 key cn ps o zs dz1 dt1 s0 tok) 1 [(ps.map tpD)] (dz1 + (s0 + 1125)) (tok + 1 + dt1) rfl rfl rfl rfl f2_nil ((all_cons (.inl m0) all_nil)) nd (all_cons (KK_none (hge _ m0)) all_nil) rfl (fun l hl q hq hm => by rw [List.mem_singleton.mp hl] at hq; exact absurd (List.mem_singleton.mp hm) (hn q hq).2.2) (fun l hl q hq => by rw [List.mem_singleton.mp hl] at hq; cases hq) (by show (dz1) + (s0 + 1113) + 12 = _; omega) (by show tok + (dt1 + 1) = _; omega) (by show [((s0 + 1113) + (dz1 + 9), _), ((s0 + 1113) + (dz1 + 11), _)] = _; rw [show (s0 + 1113) + (dz1 + 9) = dz1 + ((s0 + 1113) + 9) from by omega]; rw [show (s0 + 1113) + (dz1 + 11) = dz1 + ((s0 + 1113) + 11) from by omega]; try rfl) (by all_goals (cases c); all_goals (cases o); all_goals (exact ⟨fun cc sz tok h1 h2 => ⟨Summ.at_ok (LoopW.Tj_ok (wiL_ok ps h8 rfl (by have q0 := hlt _ m0; simp only [List.nodup_cons, List.mem_cons, List.not_mem_nil, or_false, List.nodup_nil, not_or, not_false_eq_true, and_true, and_self]; omega) (all_cons (by omega) (all_cons (by omega) (all_cons (by omega) (all_cons (by omega) (all_cons (by omega) all_nil))))) (fun q hq => ⟨by have := hn q hq; simp only [List.mem_cons, List.not_mem_nil, or_false, not_or]; omega, (hn q hq).1⟩) (fun n e h => h) ⟨none, [], 0⟩ (Nat.le_refl _) _ _ (by omega)) (Nat.zero_add _).symm (hg1 ..)) _ _ h1 h2, nd0⟩, fun cc sz tok _ _ => ⟨sLsAdd_ok hzs (by subst hzs; simp only [List.length_append, List.length_map, List.length_singleton]; omega) sz tok, nd1⟩, trivial⟩)) (fun k g l code pos pos' kp W gens hsh => ?_)
  exact el102 (P := fun code W => qWm b c w ls lep kt ct j0 key cn ps o zs dz1 dt1 s0 tok k g l code pos pos' kp W gens) (fun lt0 li0 lb0 lo0 le0 fb1 fe1 ps1 ca2 ps2 => rWm ls lep kt ct j0 key cn ps o zs dz1 dt1 s0 tok k g l lt0 li0 lb0 lo0 le0 pos pos' kp fb1 fe1 ps1 ca2 ps2 gens) hsh
end Mine
namespace Mine
open PySem PySem.W

/-- an iterator over numbers, exactly -/
structure Src (p : Program) (w : World) (it : Nat) (vals : List (Int × Nat)) (O : Nat → Obj) (Oe : Obj) (fp : List (Nat × Obj)) where
  F : Nat → Obj → Obj
  FE : Obj → Obj
  upd : ∀ n (h : Heap), h.get? it = some (O n) → (h.update it (F n)).get? it = some (O (n + 1))
  updE : ∀ h : Heap, h.get? it = some (O vals.length) → (h.update it FE).get? it = some Oe
  next : ∀ (A : Around) (EE : Value → Shared → Prop) (s : Shared) (n : Nat) (v : Int × Nat) (Q : Option Value → Shared → Prop), vals[n]? = some v → s.heap.get? it = some (O n) → (∀ q ∈ fp, s.heap.get? q.1 = some q.2) →
    Q (some (.int v.1 v.2)) { s with heap := s.heap.update it (F n) } → wpAny (model p w) A (pyNext (.ref it)) Q EE s
  done : ∀ (A : Around) (EE : Value → Shared → Prop) (s : Shared) (Q : Option Value → Shared → Prop), A.handled = none → s.heap.get? it = some (O vals.length) → (∀ q ∈ fp, s.heap.get? q.1 = some q.2) →
    Q none { s with heap := ((s.heap.update it FE).push (tupObj [])).push (stopObj s.heap.objs.size) } → wpAny (model p w) A (pyNext (.ref it)) Q EE s

section
variable {p : Program} {w : World}
theorem any_pyNextLi {A : Around} {EE : Value → Shared → Prop} {s : Shared} {it l n : Nat} {Q : Option Value → Shared → Prop} (hit : s.heap.get? it = some (liObj l n))
    (h : wpAny (model p w) A.in1 (Builtin.«list_iterator.__next__» ⟨[.ref it], []⟩) (fun fin s' => ∃ v, fin = .done (.ret v) ∧ Q (some v) s') (fun e s' => e = .ref (s.heap.objs.size + 1) ∧ (∃ t, s'.heap.get? (s.heap.objs.size + 1) = some (stopObj t)) ∧ Q none s') s) :
    wpAny (model p w) A (pyNext (.ref it)) Q EE s := by
  have hT : s.TypeIs (.ref it) "list_iterator" := ⟨_, hit, rfl⟩
  unfold pyNext
  refine wpAny_bind (wpAny_attempt (wpAny_callSpecial?_slot (name := Str.ofString "__next__") hT slot_listiter_next
    (wpAny_call_entry slot_listiter_next hT entry_listiter_next (wpAny_mono h ?_ ?_) (args_listiter_next _))))
  · rintro fin s' ⟨v, rfl, hv⟩
    exact ⟨v, rfl, wpAny_pure hv⟩
  · rintro e s' ⟨rfl, ⟨t, ht⟩, hq⟩
    refine wpAny_bind (wpAny_isInstance (T := "StopIteration") (b := true) ⟨_, ht, rfl⟩ isSubtype_stop ?_)
    exact wpAny_pure hq
theorem any_LiNext {A : Around} {EE : Value → Shared → Prop} {s : Shared} {Q : PySem.Fin → Shared → Prop} {it l n ep : Nat} {xs : List Value} {v : Value} (h1 : s.heap.get? it = some (liObj l n)) (h2 : s.heap.get? l = some (lsObj xs ep)) (hv : xs[n]? = some v)
    (h : Q (Fin.done (.ret v)) { s with heap := s.heap.update it (fset 1 (rawInt ((n : Int) + 1))) }) : wpAny (model p w) A (Builtin.«list_iterator.__next__» ⟨[.ref it], []⟩) Q EE s := by
  show wpAny _ _ (field (.ref it) 0 >>= _) _ _ s
  refine wpAny_bind (wpAny_field h1 rfl (x := .ref l) rfl ?_)
  show wpAny _ _ (if (Value.ref l == Value.none) = true then _ else _) _ _ s
  rw [if_neg (show ¬ ((Value.ref l == Value.none) = true) from Bool.false_ne_true)]
  show wpAny _ _ (field (.ref it) 1 >>= _) _ _ s
  refine wpAny_bind (wpAny_field h1 rfl (x := .int n 0) rfl ?_)
  show wpAny _ _ (seqItems? (.ref l) >>= _) _ _ s
  refine wpAny_bind (wpAny_seqItems h2 rfl ?_)
  have hx : (⟨xs⟩ : Array Value)[n]? = some v := by simpa using hv
  simp only [Int.toNat_natCast, hx]
  exact wpAny_bind (wpAny_setField h1 rfl (by simp) (wpAny_pure h))
theorem any_LiEnd {A : Around} {EE : Value → Shared → Prop} {s : Shared} {Q : PySem.Fin → Shared → Prop} {it l n ep : Nat} {xs : List Value} (hA : A.handled = none) (h1 : s.heap.get? it = some (liObj l n)) (h2 : s.heap.get? l = some (lsObj xs ep)) (hv : xs[n]? = none)
    (h : EE (.ref (s.heap.objs.size + 1)) { s with heap := ((s.heap.update it (fset 0 .none)).push (tupObj [])).push (stopObj s.heap.objs.size) }) : wpAny (model p w) A (Builtin.«list_iterator.__next__» ⟨[.ref it], []⟩) Q EE s := by
  show wpAny _ _ (field (.ref it) 0 >>= _) _ _ s
  refine wpAny_bind (wpAny_field h1 rfl (x := .ref l) rfl ?_)
  show wpAny _ _ (if (Value.ref l == Value.none) = true then _ else _) _ _ s
  rw [if_neg (show ¬ ((Value.ref l == Value.none) = true) from Bool.false_ne_true)]
  show wpAny _ _ (field (.ref it) 1 >>= _) _ _ s
  refine wpAny_bind (wpAny_field h1 rfl (x := .int n 0) rfl ?_)
  show wpAny _ _ (seqItems? (.ref l) >>= _) _ _ s
  refine wpAny_bind (wpAny_seqItems h2 rfl ?_)
  have hx : (⟨xs⟩ : Array Value)[n]? = none := by simpa using hv
  simp only [Int.toNat_natCast, hx]
  refine wpAny_bind (wpAny_rule (wpAny_bind (wpAny_setField h1 rfl (by simp) ?_)))
  show wpAny _ _ (newExc (.type "StopIteration") [] >>= _) _ _ _
  refine wpAny_bind ?_
  simp only [newExc, newTuple]
  refine wpAny_bind (wpAny_newObj_type ?_ (by size_fits))
  refine wpAny_bind (m := firstArgMember _ _) (wpAny_of_eq (a := Value.none) (by first | rfl | (simp only [firstArgMember]; rfl)) ?_)
  refine wpAny_newObj_type ?_ (by size_fits)
  simp only [raiseNew]
  refine wpAny_bind (wpAny_handled ?_)
  rw [hA]
  refine wpAny_bind (wpAny_pure (wpAny_throw ?_))
  have z1 := upd_size s.heap it (fset 0 .none)
  have z2 : ((s.heap.update it (fset 0 .none)).push (tupObj [])).objs.size = s.heap.objs.size + 1 := by rw [Heap.size_push, z1]
  have := h
  rw [← z2] at this
  rw [← z1] at this
  exact this
theorem stop_at {h : Heap} {it : Nat} {f : Obj → Obj} : (((h.update it f).push (tupObj [])).push (stopObj h.objs.size)).get? (h.objs.size + 1) = some (stopObj h.objs.size) := by
  have z2 : ((h.update it f).push (tupObj [])).objs.size = h.objs.size + 1 := by rw [Heap.size_push, upd_size]
  rw [← z2]
  exact Heap.get?_push_size _ rfl
theorem nvs_get (l : List (Int × Nat)) (n : Nat) : (nvs l)[n]? = (l[n]?).map fun x => .int x.1 x.2 := by simp [nvs]

/-- a list of numbers -/
noncomputable def srcLi (it l ep : Nat) (vals : List (Int × Nat)) : Src p w it vals (fun n => liObj l n) (liEnd (liObj l vals.length)) [(l, lsObj (nvs vals) ep)] where
  F n := fset 1 (rawInt ((n : Int) + 1))
  FE := fset 0 .none
  upd n h e := get_upd _ e rfl rfl
  updE h e := get_upd _ e rfl rfl
  next A EE s n v Q hv hit hfp h := any_pyNextLi hit (any_LiNext hit (hfp _ List.mem_cons_self) (by rw [nvs_get, hv]; rfl) ⟨_, rfl, h⟩)
  done A EE s Q hA hit hfp h := any_pyNextLi hit (any_LiEnd (A := A.in1) hA hit (hfp _ List.mem_cons_self) (by rw [nvs_get]; simp) ⟨rfl, ⟨_, stop_at⟩, h⟩)
noncomputable def vs (es : List E) : List (Int × Nat) := es.map fun e => (e.v, e.u)
end

/-- the sum of numbers behind a start, and its token -/
noncomputable def sumV : List (Int × Nat) → Int → Int
  | [], a => a
  | x :: r, a => sumV r (a + x.1)
noncomputable def sumT : List (Int × Nat) → Nat → Nat → Nat
  | [], t, _ => t
  | _ :: r, _, tok => sumT r tok (tok + 1)
section
variable {p : Program} {w : World} {A : Around} {R : Result → Shared → Prop}
theorem lsSet {h : Heap} {S c : Nat} {x : Value} (hl : h.get? S = some (lsObj [x] c)) (y : Value) : (h.update S (Obj.mapSeq fun _ => #[y])).get? S = some (lsObj [y] c) := get_upd _ hl rfl rfl
theorem lsSet2 {h : Heap} {S c : Nat} {x : Value} (hl : h.get? S = some (lsObj [x] c)) (y : Value) : ((h.update S (Obj.mapSeq fun _ => #[y])).update S (Obj.mapSeq fun _ => #[y])).get? S = some (lsObj [y] c) := get_upd _ (lsSet hl y) rfl rfl
theorem sumLoop {it S : Nat} {vals : List (Int × Nat)} {O : Nat → Obj} {Oe : Obj} {fp : List (Nat × Obj)} (W : Src p w it vals O Oe fp) (hh : A.handled = none) (hSi : it ≠ S) (hfi : ∀ q ∈ fp, q.1 ≠ it) (hfS : ∀ q ∈ fp, q.1 ≠ S) :
    ∀ (rem : List (Int × Nat)) (n : Nat) (s : Shared) (a : Int) (tA c : Nat) (st : Int), (st = 0 ∨ st = 2) → vals.drop n = rem → n + rem.length = vals.length → s.heap.get? it = some (O n) → (∀ q ∈ fp, s.heap.get? q.1 = some q.2) → s.heap.get? S = some (lsObj [.int a tA] c) →
      (∀ h', h'.objs.size = s.heap.objs.size + 2 → h'.get? S = some (lsObj [.int (sumV rem a) (sumT rem tA s.toks)] c) → h'.get? it = some Oe → (∀ b o, b ≠ it → b ≠ S → s.heap.get? b = some o → h'.get? b = some o) →
        R (.ok (.ret (.int (sumV rem a) (sumT rem tA s.toks)))) { s with heap := h', toks := s.toks + rem.length }) →
      codeAny (model p w) A (.builtin "sum.loop" ⟨[.ref it, .ref S, rawInt st, rawInt 0], []⟩) R s
  | [], n, s, a, tA, c, st, hst, hdr, hn, hit, hfp, hS, hR => by
    refine codeAny_builtin F.entry_sum_loop ?_
    rw [Around.under_plainId F.plain_sum_loop _]
    show wpAny _ A.in1 (seqItems? (.ref S) >>= _) _ _ s
    refine wpAny_bind (wpAny_seqItems hS rfl ?_)
    show wpAny _ A.in1 (tryCatch (pyNext (.ref it)) _ >>= _) _ _ s
    have hn : n = vals.length := by simpa using hn
    subst hn
    have z1 := upd_size s.heap it W.FE
    refine wpAny_bind (wpAny_tryCatch (W.done A.in1 _ s _ hh hit hfp ?_))
    exact wpAny_pure (hR _ (by rw [Heap.size_push, Heap.size_push, z1]) (Heap.get?_push_of_some _ (Heap.get?_push_of_some _ ((upd_other _ (Ne.symm hSi)).trans hS)))
      (Heap.get?_push_of_some _ (Heap.get?_push_of_some _ (W.updE _ hit))) fun b o h1 h2 hb => Heap.get?_push_of_some _ (Heap.get?_push_of_some _ ((upd_other _ h1).trans hb)))
  | e :: rem, n, s, a, tA, c, st, hst, hdr, hn, hit, hfp, hS, hR => by
    have he : vals[n]? = some e := by
      have := congrArg (·[0]?) hdr
      simpa using this
    have hdr' : vals.drop (n + 1) = rem := by
      have := congrArg List.tail hdr
      simpa using this
    refine codeAny_builtin F.entry_sum_loop ?_
    rw [Around.under_plainId F.plain_sum_loop _]
    show wpAny _ A.in1 (seqItems? (.ref S) >>= _) _ _ s
    refine wpAny_bind (wpAny_seqItems hS rfl ?_)
    show wpAny _ A.in1 (tryCatch (pyNext (.ref it)) _ >>= _) _ _ s
    refine wpAny_bind (wpAny_tryCatch (W.next A.in1 _ s n e _ he hit hfp ?_))
    have hS1 : (s.heap.update it (W.F n)).get? S = some (lsObj [.int a tA] c) := (upd_other _ (Ne.symm hSi)).trans hS
    have next : ∀ (h2 : Heap) (st' : Int), (st' = 0 ∨ st' = 2) → h2.objs.size = s.heap.objs.size → h2.get? S = some (lsObj [.int (a + e.1) s.toks] c) → (∀ b o, b ≠ S → (s.heap.update it (W.F n)).get? b = some o → h2.get? b = some o) →
        codeAny (model p w) A (.builtin "sum.loop" ⟨[.ref it, .ref S, rawInt st', rawInt 0], []⟩) R { s with heap := h2, toks := s.toks + 1 } := fun h2 st' hst' hz hS2 hk => by
      refine sumLoop W hh hSi hfi hfS rem (n + 1) { s with heap := h2, toks := s.toks + 1 } (a + e.1) s.toks c st' hst' hdr' (by simp at hn; omega) (hk _ _ hSi (W.upd n _ hit)) (fun q hq => hk _ _ (hfS q hq) ((upd_other _ (hfi q hq)).trans (hfp q hq))) hS2 fun h' q1 q2 q3 q4 => ?_
      have := hR h' (by rw [q1]; show h2.objs.size + 2 = _; rw [hz]) q2 q3 fun b o h1 h2' hb => q4 b o h1 h2' (hk b o h2' ((upd_other _ h1).trans hb))
      rw [show s.toks + (e :: rem).length = s.toks + 1 + rem.length by simp; omega] at this
      exact this
    have hz1 := upd_size s.heap it (W.F n)
    have fin2 : wpAny (model p w) A.in1 (do updateSeq S (fun _ => #[.int (a + e.1) s.toks]); letGo [.int a tA, .int e.1 e.2]; updateSeq S (fun _ => #[.int (a + e.1) s.toks]); again (.builtin "sum.loop" ⟨[.ref it, .ref S, rawInt 2, rawInt 0], []⟩))
        (fun fin s' => match fin with | .done f => R (.ok f) s' | .again c' => c'.quiet = true ∧ codeAny (model p w) A c' R s') (fun e s' => R (.error e) s') { s with heap := s.heap.update it (W.F n), toks := s.toks + 1 } := by
      refine wpAny_bind (wpAny_updateSeq (s := { s with heap := s.heap.update it (W.F n), toks := s.toks + 1 }) hS1 rfl ?_)
      refine wpAny_bind (wpAny_letGo ?_)
      refine wpAny_bind (wpAny_updateSeq (s := { s with heap := (s.heap.update it (W.F n)).update S (Obj.mapSeq fun _ => #[.int (a + e.1) s.toks]), toks := s.toks + 1 }) (lsSet hS1 _) rfl ?_)
      refine wpAny_pure ⟨plainId_quiet F.plain_sum_loop _, next _ 2 (.inr rfl) ?_ (lsSet2 hS1 _) fun b o hb hg => ?_⟩
      · rw [upd_size, upd_size, hz1]
      · exact (upd_other _ hb).trans ((upd_other _ hb).trans hg)
    rcases hst with rfl | rfl
    · show wpAny _ A.in1 (if (_ : Bool) = true then (mkInt (a + e.1) >>= _) else _) _ _ _
      split
      · refine wpAny_bind (wpAny_mkInt ?_)
        show wpAny _ A.in1 (updateSeq S (fun _ => #[.int (a + e.1) s.toks]) >>= _) _ _ _
        refine wpAny_bind (wpAny_updateSeq (s := { s with heap := s.heap.update it (W.F n), toks := s.toks + 1 }) hS1 rfl ?_)
        refine wpAny_pure ⟨plainId_quiet F.plain_sum_loop _, next _ 0 (.inl rfl) ?_ (lsSet hS1 _) fun b o hb hg => (upd_other _ hb).trans hg⟩
        rw [upd_size, hz1]
      · refine wpAny_bind (wpAny_rule ?_)
        refine wpAny_bind (wpAny_attempt (wpAny_holding (wpAny_add_int ?_)))
        exact fin2
    · show wpAny _ A.in1 ((holding [Value.int e.1 e.2] (binaryOp .Add (.int a tA) (.int e.1 e.2))).attempt >>= _) _ _ _
      refine wpAny_bind (wpAny_attempt (wpAny_holding (wpAny_add_int ?_)))
      exact fin2
/-- the loop of sum -/
noncomputable def sSum (i j it S c : Nat) (vals : List (Int × Nat)) (O : Nat → Obj) (Oe : Obj) (fp : List (Nat × Obj)) (jf : Nat) (a : Int) (tA tok : Nat) : Summ :=
  { code := .builtin "sum.loop" ⟨[.ref it, .ref S, rawInt 0, rawInt 0], []⟩, res := .ok (.ret (.int (sumV vals a) (sumT vals tA tok))), pre := (i, it, O 0) :: (j, S, lsObj [.int a tA] c) :: fp.map fun q => (jf, q.1, q.2),
    post := [(i, it, Oe), (j, S, lsObj [.int (sumV vals a) (sumT vals tA tok)] c)], dl := 2, dtok := vals.length }
theorem sSum_ok {K : Nat → Option Obj} {i j it S c : Nat} {vals : List (Int × Nat)} {O : Nat → Obj} {Oe : Obj} {fp : List (Nat × Obj)} {jf : Nat} {a : Int} {tA : Nat} (W : Src p w it vals O Oe fp) (hSi : it ≠ S) (hfi : ∀ q ∈ fp, q.1 ≠ it) (hfS : ∀ q ∈ fp, q.1 ≠ S) (sz tok : Nat) :
    (sSum i j it S c vals O Oe fp jf a tA tok).Valid (mdl p w) K sz tok := by
  refine Summ.ofCode rfl (fun _ => True) (fun _ _ => trivial) fun s hpre _ _ hs ht A hA _ => ?_
  have h0 : s.heap.get? it = some (O 0) := hpre (i, it, O 0) List.mem_cons_self
  have h1 : s.heap.get? S = some (lsObj [.int a tA] c) := hpre (j, S, lsObj [.int a tA] c) (List.mem_cons_of_mem _ List.mem_cons_self)
  have h2 : ∀ q ∈ fp, s.heap.get? q.1 = some q.2 := fun q hq => hpre (jf, q.1, q.2) (List.mem_cons_of_mem _ (List.mem_cons_of_mem _ (List.mem_map.mpr ⟨q, hq, rfl⟩)))
  subst hs ht
  show codeAny (model p w) A (.builtin "sum.loop" ⟨[.ref it, .ref S, rawInt 0, rawInt 0], []⟩) _ s
  refine sumLoop W hA hSi hfi hfS vals 0 s a tA c 0 (.inl rfl) rfl (Nat.zero_add _) h0 h2 h1 fun h' q1 q2 q5 q4 => ⟨rfl, h', rfl, ?_, ?_, (fun q hq => nomatch hq), (fun q hq => nomatch hq), ?_⟩
  · rw [q1]; show _ = 0 + s.heap.objs.size + 2; omega
  · intro q hq
    rcases List.mem_cons.mp hq with rfl | hq
    · exact q5
    · rw [List.mem_singleton.mp hq]
      exact q2
  · intro b o hb hn
    exact q4 b o (fun z => hn _ List.mem_cons_self z.symm) (fun z => hn _ (List.mem_cons_of_mem _ List.mem_cons_self) z.symm) hb
end
end Mine
set_option linter.all false
namespace Mine
open PySem PySem.W
theorem Summ.Valid.resize {M : Model} {K : Nat → Option Obj} {S : Summ} {sz tok : Nat} (h : S.Valid M K sz tok) {o : Option Nat} {l t : Nat} (hz : S.dsz.getD 0 + sz + S.dl = o.getD 0 + sz + l) (ht : S.dtok = t) : Summ.Valid M K { S with dsz := o, dl := l, dtok := t } sz tok := by
  subst ht
  intro s k g l code pos pos' kp st hK hpre hpo hne hne' hs ht hb hsh
  obtain ⟨h', C, c1, c2⟩ := h s k g l code pos pos' kp st hK hpre hpo hne hne' hs ht hb hsh
  exact ⟨h', C, c1.trans hz, c2⟩
end Mine
set_option linter.all false
namespace Mine
open PySem PySem.W
noncomputable def delTail (d : Nat) (key : Value) : Sem PySem.Fin := do
  let some e ← Builtin.Dict.takeOut d key | Builtin.Dict.missedRemoval d key; rule "dict.__delitem__.keyerror"; raiseNew (← newExc (.type "KeyError") [key])
  letGo [e.key, e.val]
  ret .none
theorem esDel_len (es : List E) (x : Int) : (esDel es x).length ≤ es.length := by
  induction es with
  | nil => exact Nat.le_refl _
  | cons e r ih =>
    unfold esDel
    by_cases h : e.k = x
    · rw [if_pos h]; simp
    · rw [if_neg h]; simpa using ih
noncomputable def delF (x : Int) (es : List E) : Obj → Obj := Obj.mapDictKeys (·.eraseIdxIfInBounds ((es.findIdx? fun e => decide (e.k = x)).getD 0))
theorem delF_eq (cls : Value) (dd : Option Nat) {es : List E} {ep : Nat} {x : Int} {f : E} (h : esFind es x = some f) : delF x es (dObj cls dd es ep) = dObj cls dd (esDel es x) (ep + 1) := by
  unfold delF
  cases hi : es.findIdx? fun e => decide (e.k = x) with
  | none => rw [idx_none.mp hi] at h; cases h
  | some i =>
    show Obj.mk _ _ (.dict ((⟨es.map ent⟩ : Array DictEntry).eraseIdxIfInBounds i) (ep + 1)) _ = Obj.mk _ _ _ _
    rw [del_some hi]
section
variable {p : Program} {w : World} {A : Around} {EE : Value → Shared → Prop} {s : Shared}
theorem any_delTail {d : Nat} {cls : Value} {dd : Option Nat} {es : List E} {ep : Nat} {x : Int} {t : Nat} {f : E} {Q : PySem.Fin → Shared → Prop} (ho : s.heap.get? d = some (dObj cls dd es ep)) (hz : es.length ≤ sizeLine) (hf : esFind es x = some f)
    (h : Q (Fin.done (.ret .none)) { s with heap := s.heap.update d (delF x es), toks := s.toks + 1 }) : wpAny (model p w) A (delTail d (.int x t)) Q EE s := by
  unfold delTail
  refine wpAny_bind (m := Builtin.Dict.takeOut d (.int x t)) ?_
  unfold Builtin.Dict.takeOut
  try with_reducible refine wpAny_holding ?_
  refine wpAny_bind (wpAny_pyHash_int (wpAny_bind (wpAny_dictFind_int (s := { s with toks := s.toks + 1 }) ho rfl (intKeys es) ?_)))
  rw [idx_eq]
  unfold delF at h
  cases hi : es.findIdx? fun e => decide (e.k = x) with
  | none => rw [idx_none.mp hi] at hf; cases hf
  | some i =>
    rw [hi] at h
    obtain ⟨h1, _⟩ := idx_some hi
    refine wpAny_bind (wpAny_dictEntries (s := { s with toks := s.toks + 1 }) ho rfl ?_)
    have : (⟨es.map ent⟩ : Array DictEntry)[i]? = some (ent f) := by
      simp only [List.getElem?_toArray, List.getElem?_map, h1, hf]
      rfl
    rw [this]
    refine wpAny_bind (wpAny_updateDictKeys (hz := by simpa using hz) (hf := by show Array.size ((⟨es.map ent⟩ : Array DictEntry).eraseIdxIfInBounds i) ≤ _; rw [del_some hi]; have := esDel_len es x; simp; omega) (s := { s with toks := s.toks + 1 }) ho rfl (wpAny_pure ?_))
    exact wpAny_bind (wpAny_letGo (wpAny_pure h))
end
end Mine
lay_quick Mine.delTail
set_option linter.all false
namespace Mine
open PySem PySem.W PySem.Builtin.Dict
/-- dict.pop behind the search -/
noncomputable def popK (d : Nat) (key : Value) (dflt : Option Value) (old : Option DictEntry) : Sem PySem.Fin := do
  if old.isNone then missedRemoval d key
  match old, dflt with
  | some e, _ => letGo [e.key] [e.val]; ret e.val
  | none, some x => rule "dict.pop.default"; ret x
  | none, none => rule "dict.pop.keyerror"; raiseNew (← newExc (.type "KeyError") [key])
noncomputable def popT (d : Nat) (key : Value) : Sem PySem.Fin := (takeOut d key).bind (popK d key none)
section
variable {p : Program} {w : World} {A : Around} {EE : Value → Shared → Prop} {s : Shared}
theorem any_takeNone {d : Nat} {cls : Value} {dd : Option Nat} {es : List E} {ep : Nat} {x : Int} {t : Nat} {Q : Option DictEntry → Shared → Prop} (ho : s.heap.get? d = some (dObj cls dd es ep)) (hf : esFind es x = none)
    (h : Q none { s with toks := s.toks + 1 }) : wpAny (model p w) A (takeOut d (.int x t)) Q EE s := by
  unfold takeOut
  try with_reducible refine wpAny_holding ?_
  refine wpAny_bind (wpAny_pyHash_int (wpAny_bind (wpAny_dictFind_int (s := { s with toks := s.toks + 1 }) ho rfl (intKeys es) ?_)))
  rw [idx_eq, idx_none.mpr hf]
  exact wpAny_pure h
theorem any_popHit {d : Nat} {cls : Value} {dd : Option Nat} {es : List E} {ep : Nat} {x : Int} {t : Nat} {f : E} {Q : PySem.Fin → Shared → Prop} (ho : s.heap.get? d = some (dObj cls dd es ep)) (hz : es.length ≤ sizeLine) (hf : esFind es x = some f)
    (h : Q (Fin.done (.ret (.int f.v f.u))) { s with heap := s.heap.update d (delF x es), toks := s.toks + 1 }) : wpAny (model p w) A (popT d (.int x t)) Q EE s := by
  unfold popT
  refine wpAny_bind (m := takeOut d (.int x t)) ?_
  unfold takeOut
  try with_reducible refine wpAny_holding ?_
  refine wpAny_bind (wpAny_pyHash_int (wpAny_bind (wpAny_dictFind_int (s := { s with toks := s.toks + 1 }) ho rfl (intKeys es) ?_)))
  rw [idx_eq]
  unfold delF at h
  cases hi : es.findIdx? fun e => decide (e.k = x) with
  | none => rw [idx_none.mp hi] at hf; cases hf
  | some i =>
    rw [hi] at h
    obtain ⟨h1, _⟩ := idx_some hi
    refine wpAny_bind (wpAny_dictEntries (s := { s with toks := s.toks + 1 }) ho rfl ?_)
    have : (⟨es.map ent⟩ : Array DictEntry)[i]? = some (ent f) := by
      simp only [List.getElem?_toArray, List.getElem?_map, h1, hf]
      rfl
    rw [this]
    refine wpAny_bind (wpAny_updateDictKeys (hz := by simpa using hz) (hf := by show Array.size ((⟨es.map ent⟩ : Array DictEntry).eraseIdxIfInBounds i) ≤ _; rw [del_some hi]; have := esDel_len es x; simp; omega) (s := { s with toks := s.toks + 1 }) ho rfl (wpAny_pure ?_))
    unfold popK
    exact wpAny_bind (wpAny_letGo (wpAny_pure h))
end
end Mine
lay_quick Mine.popT
lay_quick Mine.popK
set_option linter.all false
namespace Mine
open PySem PySem.W
/-- a summary from a run that changes nothing, the library's rules for a stretch, and a run for the rest -/
theorem Summ.ofPreMid {p : Program} {w : World} {K : Nat → Option Obj} {S : Summ} {sz tok : Nat} {α : Type} (m : Sem α) (f : α → Sem Fin) (a : α) (dt0 : Nat) (Y : Sem Fin) (ini fin : List (Nat × Obj)) (newi : List Nat) (n : Nat) (ops : List Op) (N : Nat)
    (n0 : Nat) (ops0 : List Op) (X : Sem Fin) (hX : X = m.bind f) (hY : Y = f a)
    (hm : ∀ s : Shared, (∀ q ∈ S.pre, s.heap.get? q.2.1 = some q.2.2) → s.toks = tok → ∀ A : Around, A.handled = none → wpAny (model p w) A m (fun x s' => x = a ∧ s' = { s with toks := tok + dt0 }) (fun _ _ => False) s)
    (hini : S.pre.map (·.2) = ini) (hne : S.needs = []) (hN : ini.length = N) (hfin : fin.map (·.1) = ini.map (·.1))
    (hpost : ∀ q ∈ S.post, (q.2.1, q.2.2) ∈ fin) (hsame : ∀ q ∈ fin, q ∈ ini ∨ ∃ r ∈ S.post, r.2.1 = q.1) (nd : (ini.map (·.1)).Nodup) (hK' : ∀ q ∈ ini, K q.1 = none) (hi : iniOk ini .nil 0 = true)
    (hfa : ∀ l ∈ S.facts, ∀ q ∈ l, sz ≤ q.1 ∧ ∀ r ∈ S.new, q.1 ≠ sz + r.1)
    (ok0 : OpsOk (mdl p w) K ops0)
    (e0 : ∀ (k : Result → Sem Fin) (g : Bool) (l : List Value) (code : Code) (pos pos' : Pos) (kp : List Value) (W : List (Code × Pos)) (gens : List GenState), S.shape ((code, pos) :: W) = true →
      chk (tR p w K W n0 ops0 (mkT ini) N sz gens tok [] (tD S.code) S.code pos' [.ret k none g l code pos kp] [] []) (mids N) =
      chk' (tR p w K W n0 ops0 (mkT ini) N sz gens tok [] (tD S.code) S.code pos' [.ret k none g l code pos kp] [] [])
        (X, S.code, [.ret k none g l code pos kp], sz, tok, gens, ini.map some))
    (ok : OpsOk (mdl p w) K ops)
    (e : ∀ (k : Result → Sem Fin) (g : Bool) (l : List Value) (code : Code) (pos pos' : Pos) (kp : List Value) (W : List (Code × Pos)) (gens : List GenState), S.shape ((code, pos) :: W) = true →
      chk (tR p w K W n ops (mkT ini) N sz gens (tok + dt0) [] Y S.code pos' [.ret k none g l code pos kp] [] []) (ends N newi) =
      chk' (tR p w K W n ops (mkT ini) N sz gens (tok + dt0) [] Y S.code pos' [.ret k none g l code pos kp] [] [])
        (k S.res, code, pos, [], addZ S.dsz sz + S.dl, tok + S.dtok, appG gens S.newg, S.facts, fin.map some, S.new.map fun q => some (sz + q.1, q.2))) : S.Valid (mdl p w) K sz tok := by
  intro s k g l code pos pos' kp st hK hpre hpo hne1 hne' hs ht hb hsh
  obtain ⟨h, ⟨gens⟩, d, toks, os⟩ := s
  replace ht : toks = tok := ht
  have hb' : topHandled (.ret k none g l code pos kp :: st) = none := by rw [topHandled_ret]; exact hb
  subst ht hini hN
  obtain ⟨out0, h1, e1, C1, c1, c2, c3, c4⟩ := go (d := d) (os := os) (bot := st) rfl hb hK hK' (fun q hq => by
      obtain ⟨x, hx, rfl⟩ := List.mem_map.mp hq
      exact hpre x hx) nd (fun x hx => absurd hx (List.not_mem_nil)) hs rfl hi ok0 (e0 k g l code pos pos' kp (st.map Frame.where_) gens hsh)
  simp only [mids, Prod.mk.injEq] at e1
  obtain ⟨e1, e2, e3, e4, e5, e6, e7⟩ := e1
  rw [tD_eq] at C1
  rw [e1, e2, e3, e5, e6] at C1
  have hpre1 : ∀ q ∈ S.pre, h1.get? q.2.1 = some q.2.2 := fun q hq => by
    have : some q.2 ∈ (S.pre.map (·.2)).map some := List.mem_map.mpr ⟨q.2, List.mem_map.mpr ⟨q, hq, rfl⟩, rfl⟩
    rw [← e7] at this
    obtain ⟨i, _, hi⟩ := List.mem_map.mp this
    exact c2 i q.2.1 q.2.2 hi
  have keep1 : ∀ b o, h.get? b = some o → h1.get? b = some o := fun b o hb' => by
    by_cases hm : b ∈ (S.pre.map (·.2)).map (·.1)
    · obtain ⟨x, hx, rfl⟩ := List.mem_map.mp hm
      obtain ⟨q, hq, rfl⟩ := List.mem_map.mp hx
      have := hpre q hq
      rw [show (Shared.heap ⟨h, ⟨gens⟩, d, toks, os⟩).get? q.2.1 = h.get? q.2.1 from rfl, hb'] at this
      cases this
      exact hpre1 q hq
    · exact c4 b o hb' hm
  obtain ⟨pos2, C0⟩ := comes_mid (c := S.code) (f := f) (pos' := out0.pos) hb' (hm ⟨h1, ⟨gens⟩, d, toks, os⟩ hpre1 rfl)
  have hs1 : h1.objs.size = sz := c1.trans e4
  clear e1 e2 e3 e5 e6 e7 c1 c2 c3 c4
  obtain ⟨out, h', e1, C, c1, c2, c3, c4⟩ := go (d := d) (os := os) (bot := st) rfl hb (fun a o q => keep1 a o (hK a o q)) hK' (fun q hq => by
      obtain ⟨x, hx, rfl⟩ := List.mem_map.mp hq
      exact hpre1 x hx) nd (fun x hx => absurd hx (List.not_mem_nil)) hs1 rfl hi ok (e k g l code pos pos2 kp (st.map Frame.where_) gens hsh)
  simp only [ends, Prod.mk.injEq, appG_eq, addZ_eq] at e1
  obtain ⟨e1, e2, e3, e4, e5, e6, e7, e8, e9, e10⟩ := e1
  rw [e1, e2, e3, e4, e6, e7, hY] at C
  have hfinget : ∀ q ∈ fin, h'.get? q.1 = some q.2 := fun q hq => by
    have : some q ∈ fin.map some := List.mem_map.mpr ⟨q, hq, rfl⟩
    rw [← e9] at this
    obtain ⟨i, _, hi⟩ := List.mem_map.mp this
    exact c2 i q.1 q.2 hi
  have eg : (⟨gens⟩ : Array GenState) ++ ⟨S.newg⟩ = ⟨gens ++ S.newg⟩ := by simp
  refine ⟨h', ?_, c1.trans e5, fun q hq => hfinget _ (hpost q hq), fun q hq => ?_, fun x hx q hq => ⟨c3 x (by rw [e8]; exact hx) q hq, hfa x hx q hq⟩, fun b o hb' hn => ?_⟩
  · show Comes _ _ _ ⟨h', (⟨gens⟩ : Array GenState) ++ ⟨S.newg⟩, d, _, os⟩ _
    rw [eg]
    rw [hX] at C1
    exact C1.trans (C0.trans C)
  · have : some (sz + q.1, q.2) ∈ S.new.map (fun q => some (sz + q.1, q.2)) := List.mem_map.mpr ⟨q, hq, rfl⟩
    rw [← e10] at this
    obtain ⟨i, _, hi⟩ := List.mem_map.mp this
    exact c2 i _ _ hi
  · have hb2 := keep1 b o hb'
    by_cases hm : b ∈ (S.pre.map (·.2)).map (·.1)
    · rw [← hfin] at hm
      obtain ⟨q, hq, rfl⟩ := List.mem_map.mp hm
      rcases hsame q hq with z | ⟨r, hr, z⟩
      · obtain ⟨x, hx, rfl⟩ := List.mem_map.mp z
        have := hpre1 x hx
        rw [hb2] at this
        cases this
        exact hfinget _ hq
      · exact absurd z (hn r hr)
    · exact c4 b o hb2 hm
end Mine
set_option linter.all false
namespace Mine
open PySem PySem.W
variable {b c : Bool} {w : World}
noncomputable abbrev tDel := PySem.W.Fast.tw1901668478037276550
theorem tDel_eq : tDel = delTail := PySem.W.Fast.te1901668478037276550.symm
noncomputable abbrev tPopT := PySem.W.Fast.tw13925372724528927973
theorem tPopT_eq : tPopT = popT := PySem.W.Fast.te13925372724528927973.symm
noncomputable abbrev tPopK := PySem.W.Fast.tw1358340951270386746
theorem tPopK_eq : tPopK = popK := PySem.W.Fast.te1358340951270386746.symm
/-- dict.__delitem__ at a key that stands there, in a Counter -/
noncomputable def sDel (dd i d : Nat) (es : List E) (ep : Nat) (x : Int) (t : Nat) : Summ :=
  { code := .builtin "dict.__delitem__" ⟨[.ref d, .int x t], []⟩, res := .ok (.ret .none), pre := [(i, d, dObj clsC (some dd) es ep)], post := [(i, d, dObj clsC (some dd) (esDel es x) (ep + 1))], dtok := 1 }
theorem sDel_run (i d dd : Nat) (es : List E) (ep : Nat) (x : Int) (t : Nat) (sz tok : Nat) (k : Result → Sem PySem.Fin) (g : Bool) (l : List Value) (code : Code) (pos pos' : Pos) (kp : List Value) (W : List (Code × Pos)) (gens : List GenState) :
    chk (tR tP (tW b c w) (KK (tW b c w)) W 3 [.s 0, .s 0, .k 0] (mkT [(d, dObj clsC (some dd) es ep)]) 1 sz gens tok [] (tD (sDel dd i d es ep x t).code) (sDel dd i d es ep x t).code pos' [.ret k none g l code pos kp] [] []) (mids 1) =
    chk' (tR tP (tW b c w) (KK (tW b c w)) W 3 [.s 0, .s 0, .k 0] (mkT [(d, dObj clsC (some dd) es ep)]) 1 sz gens tok [] (tD (sDel dd i d es ep x t).code) (sDel dd i d es ep x t).code pos' [.ret k none g l code pos kp] [] [])
      (tDel d (.int x t), (sDel dd i d es ep x t).code, [.ret k none g l code pos kp], sz, tok, gens, [(d, dObj clsC (some dd) es ep)].map some) := by kernel_rfl
theorem sDel_ok {i d dd : Nat} {es : List E} {ep : Nat} {x : Int} {t : Nat} {f : E} (hf : esFind es x = some f) (hz : es.length ≤ sizeLine) (hd : 1113 ≤ d) (sz tok : Nat) : (sDel dd i d es ep x t).Valid (mdl tP (tW b c w)) (KK (tW b c w)) sz tok := by
  refine Summ.ofPre [(d, dObj clsC (some dd) es ep)] (tDel d (.int x t)) 3 [.s 0, .s 0, .k 0] 1 rfl rfl rfl rfl rfl (by simp) (fun q hq => by rw [List.mem_singleton.mp hq]; exact KK_none hd) rfl trivial
    (fun k g l code pos pos' kp W gens _ => sDel_run i d dd es ep x t sz tok k g l code pos pos' kp W gens) (fun s hpre hs ht => ?_)
  have h1 : s.heap.get? d = some (dObj clsC (some dd) es ep) := hpre (i, d, dObj clsC (some dd) es ep) List.mem_cons_self
  have hsb : Heap.SameBut d s.heap (s.heap.update d (delF x es)) := Heap.SameBut.update ..
  refine ⟨s.heap.update d (delF x es), fun A hA => ?_, by rw [hsb.1, hs]; exact (Nat.zero_add _).symm, fun q hq => ?_, (fun q hq => nomatch hq), fun b o hb hn => ?_⟩
  · rw [tDel_eq]
    exact any_delTail h1 hz hf ⟨_, rfl, rfl, by subst ht; rfl⟩
  · have hq' : q = (i, d, dObj clsC (some dd) (esDel es x) (ep + 1)) := List.mem_singleton.mp hq
    subst hq'
    have := Heap.get?_update_self (delF x es) h1 (by rw [delF_eq _ _ hf]; rfl)
    rw [delF_eq _ _ hf] at this
    exact this
  · exact (hsb.2 b fun z => hn (i, d, _) (List.mem_singleton.mpr rfl) z.symm).trans hb
/-- dict.pop at a key that stands there -/
noncomputable def sPopH (dd i d : Nat) (es : List E) (ep : Nat) (x : Int) (t : Nat) (v : Int) (u : Nat) : Summ :=
  { code := .builtin "dict.pop" ⟨[.ref d, .int x t], []⟩, res := .ok (.ret (.int v u)), pre := [(i, d, dObj clsC (some dd) es ep)], post := [(i, d, dObj clsC (some dd) (esDel es x) (ep + 1))], dtok := 1 }
theorem sPop_run (d dd : Nat) (es : List E) (ep : Nat) (x : Int) (t : Nat) (sz tok : Nat) (k : Result → Sem PySem.Fin) (g : Bool) (l : List Value) (code : Code) (pos pos' : Pos) (kp : List Value) (W : List (Code × Pos)) (gens : List GenState) :
    chk (tR tP (tW b c w) (KK (tW b c w)) W 3 [.s 0, .s 0, .k 0] (mkT [(d, dObj clsC (some dd) es ep)]) 1 sz gens tok [] (tD (.builtin "dict.pop" ⟨[.ref d, .int x t], []⟩)) (.builtin "dict.pop" ⟨[.ref d, .int x t], []⟩) pos' [.ret k none g l code pos kp] [] []) (mids 1) =
    chk' (tR tP (tW b c w) (KK (tW b c w)) W 3 [.s 0, .s 0, .k 0] (mkT [(d, dObj clsC (some dd) es ep)]) 1 sz gens tok [] (tD (.builtin "dict.pop" ⟨[.ref d, .int x t], []⟩)) (.builtin "dict.pop" ⟨[.ref d, .int x t], []⟩) pos' [.ret k none g l code pos kp] [] [])
      (tPopT d (.int x t), .builtin "dict.pop" ⟨[.ref d, .int x t], []⟩, [.ret k none g l code pos kp], sz, tok, gens, [(d, dObj clsC (some dd) es ep)].map some) := by kernel_rfl
theorem sPopH_ok {i d dd : Nat} {es : List E} {ep : Nat} {x : Int} {t : Nat} {f : E} (hf : esFind es x = some f) (hz : es.length ≤ sizeLine) (hd : 1113 ≤ d) (sz tok : Nat) : (sPopH dd i d es ep x t f.v f.u).Valid (mdl tP (tW b c w)) (KK (tW b c w)) sz tok := by
  refine Summ.ofPre [(d, dObj clsC (some dd) es ep)] (tPopT d (.int x t)) 3 [.s 0, .s 0, .k 0] 1 rfl rfl rfl rfl rfl (by simp) (fun q hq => by rw [List.mem_singleton.mp hq]; exact KK_none hd) rfl trivial
    (fun k g l code pos pos' kp W gens _ => sPop_run d dd es ep x t sz tok k g l code pos pos' kp W gens) (fun s hpre hs ht => ?_)
  have h1 : s.heap.get? d = some (dObj clsC (some dd) es ep) := hpre (i, d, dObj clsC (some dd) es ep) List.mem_cons_self
  have hsb : Heap.SameBut d s.heap (s.heap.update d (delF x es)) := Heap.SameBut.update ..
  refine ⟨s.heap.update d (delF x es), fun A hA => ?_, by rw [hsb.1, hs]; exact (Nat.zero_add _).symm, fun q hq => ?_, (fun q hq => nomatch hq), fun b o hb hn => ?_⟩
  · rw [tPopT_eq]
    exact any_popHit h1 hz hf ⟨_, rfl, rfl, by subst ht; rfl⟩
  · have hq' : q = (i, d, dObj clsC (some dd) (esDel es x) (ep + 1)) := List.mem_singleton.mp hq
    subst hq'
    have := Heap.get?_update_self (delF x es) h1 (by rw [delF_eq _ _ hf]; rfl)
    rw [delF_eq _ _ hf] at this
    exact this
  · exact (hsb.2 b fun z => hn (i, d, _) (List.mem_singleton.mpr rfl) z.symm).trans hb
/-- dict.pop at a key that does not stand there -/
noncomputable def keyErr (a : Nat) : Obj := ⟨.type "KeyError", none, .fields ⟨[.ref a, .none, .none, .none, .bool false, .none]⟩, #[]⟩
noncomputable def sPopM (dd i d : Nat) (es : List E) (ep : Nat) (x : Int) (t sz : Nat) : Summ :=
  { code := .builtin "dict.pop" ⟨[.ref d, .int x t], []⟩, res := .error (.ref (sz + 1)), pre := [(i, d, dObj clsC (some dd) es ep)], new := [(0, tupObj [.int x t]), (1, keyErr sz)], dl := 2, dtok := 1 }
theorem sPopM_run (d dd : Nat) (es : List E) (ep : Nat) (x : Int) (t : Nat) (sz tok : Nat) (k : Result → Sem PySem.Fin) (g : Bool) (l : List Value) (code : Code) (pos pos' : Pos) (kp : List Value) (W : List (Code × Pos)) (gens : List GenState) :
    chk (tR tP (tW b c w) (KK (tW b c w)) W 5 [] (mkT [(d + 1113, dObj clsC (some dd) es ep)]) 1 sz gens (tok + 1) [] (tPopK (d + 1113) (.int x t) none none) (.builtin "dict.pop" ⟨[.ref (d + 1113), .int x t], []⟩) pos' [.ret k none g l code pos kp] [] []) (ends 1 [1, 2]) =
    chk' (tR tP (tW b c w) (KK (tW b c w)) W 5 [] (mkT [(d + 1113, dObj clsC (some dd) es ep)]) 1 sz gens (tok + 1) [] (tPopK (d + 1113) (.int x t) none none) (.builtin "dict.pop" ⟨[.ref (d + 1113), .int x t], []⟩) pos' [.ret k none g l code pos kp] [] [])
      (k (.error (.ref (sz + 1))), code, pos, [], sz + 2, tok + 1, appG gens [], [], [(d + 1113, dObj clsC (some dd) es ep)].map some, [some (sz + 0, tupObj [.int x t]), some (sz + 1, keyErr sz)]) := by kernel_rfl
theorem sPopM_ok {i d dd : Nat} {es : List E} {ep : Nat} {x : Int} {t : Nat} (hf : esFind es x = none) (hd : 1113 ≤ d) (sz tok : Nat) : (sPopM dd i d es ep x t sz).Valid (mdl tP (tW b c w)) (KK (tW b c w)) sz tok := by
  obtain ⟨d, rfl⟩ : ∃ d', d = d' + 1113 := ⟨d - 1113, by omega⟩
  refine Summ.ofPreMid (Builtin.Dict.takeOut (d + 1113) (.int x t)) (popK (d + 1113) (.int x t) none) none 1 (tPopK (d + 1113) (.int x t) none none) [(d + 1113, dObj clsC (some dd) es ep)] [(d + 1113, dObj clsC (some dd) es ep)] [1, 2] 5 [] 1 3 [.s 0, .s 0, .k 0] (tPopT (d + 1113) (.int x t)) (by rw [tPopT_eq]; rfl) (by rw [tPopK_eq])
    (fun s hpre ht A hA => ?_) rfl rfl rfl rfl (fun q hq => nomatch hq) (fun q hq => .inl hq) (by simp) (fun q hq => by rw [List.mem_singleton.mp hq]; exact KK_none hd) rfl (fun l hl => nomatch hl) trivial
    (fun k g l code pos pos' kp W gens _ => sPop_run (d + 1113) dd es ep x t sz tok k g l code pos pos' kp W gens) trivial
    (fun k g l code pos pos' kp W gens _ => sPopM_run d dd es ep x t sz tok k g l code pos pos' kp W gens)
  have h1 : s.heap.get? (d + 1113) = some (dObj clsC (some dd) es ep) := hpre (i, d + 1113, _) List.mem_cons_self
  exact any_takeNone h1 hf ⟨rfl, by subst ht; rfl⟩
/-- dict.get of a key alone -/
noncomputable def sGetN (dd i d : Nat) (es : List E) (ep : Nat) (x : Int) (t : Nat) (r : Value) : Summ :=
  { code := .builtin "dict.get" ⟨[.ref d, .int x t], []⟩, res := .ok (.ret r), pre := [(i, d, dObj clsC (some dd) es ep)], dtok := 1 }
theorem sGetN_ok {i d dd : Nat} {es : List E} {ep : Nat} {x : Int} {t : Nat} {r : Value} (hr : (esVal es x).getD .none = r) (hd : (d == sysModules) = false) (sz tok : Nat) : (sGetN dd i d es ep x t r).Valid (mdl tP (tW b c w)) (KK (tW b c w)) sz tok := by
  refine Summ.ofAny rfl rfl fun s hpre hs ht => ?_
  have h1 : s.heap.get? d = some (dObj clsC (some dd) es ep) := hpre (i, d, _) (List.mem_singleton.mpr rfl)
  refine ⟨s.heap, fun A hA => ?_, by rw [hs]; exact (Nat.zero_add _).symm, (fun q hq => nomatch hq), (fun q hq => nomatch hq), fun b o hb _ => hb⟩
  show wpAny _ _ (denote table (.builtin "dict.get" ⟨[.ref d, .int x t], []⟩)) _ _ _
  rw [denote_builtin F.entry_dict_get]
  refine wpAny_bind (m := dictGet d (.int x t)) (any_dictGet h1 ?_)
  subst hr
  cases esVal es x with
  | some v => exact wpAny_pure ⟨_, rfl, rfl, by subst ht; rfl⟩
  | none =>
    show wpAny _ _ (Builtin.Dict.missed d (.int x t) >>= _) _ _ _
    unfold Builtin.Dict.missed
    rw [if_neg (by rw [hd]; exact Bool.false_ne_true)]
    exact wpAny_bind (wpAny_pure (wpAny_pure ⟨_, rfl, rfl, by subst ht; rfl⟩))
/-- the statement in `if ..: HERE`, the first one of a body -/
noncomputable def selDel (b : List Stmt) : Stmt × List (List Stmt) := (hdS (ifBody (hdS b)), [(ifBody (hdS b)).tail, b.tail])
end Mine
set_option linter.all false
namespace Mine
open PySem PySem.W
variable {b c : Bool} {w : World}
/-- dict.__getitem__ of a Counter: the key there -/
noncomputable def sGH (dd i d : Nat) (es : List E) (ep : Nat) (x : Int) (t : Nat) (v : Int) (u : Nat) : Summ :=
  { code := .builtin "dict.__getitem__" ⟨[.ref d, .int x t], []⟩, res := .ok (.ret (.int v u)), pre := [(i, d, dObj clsC (some dd) es ep)], dtok := 1 }
theorem sGH_ok {dd i d : Nat} {es : List E} {ep : Nat} {x : Int} {t : Nat} {e : E} (hf : esFind es x = some e) (sz tok : Nat) : (sGH dd i d es ep x t e.v e.u).Valid (mdl tP (tW b c w)) (KK (tW b c w)) sz tok := by
  intro s k g l code pos pos' kp st hK hpre hpo hne1 hne' hs' ht hb hsh
  exact sHit_ok hf sz tok s k g l code pos pos' kp st hK hpre hpo hne1 hne' hs' ht hb rfl
/-- .. the key not there -/
noncomputable def sGM (dd i d : Nat) (es : List E) (ep : Nat) (x : Int) (t tok : Nat) : Summ :=
  { code := .builtin "dict.__getitem__" ⟨[.ref d, .int x t], []⟩, res := .ok (.ret (.int 0 (tok + 3))), pre := [(i, d, dObj clsC (some dd) es ep)], dl := 1, dtok := 4, shape := sh [1, 0, 2] }
theorem sGM_ok {dd i d : Nat} {es : List E} {ep : Nat} {x : Int} {t : Nat} (hf : esFind es x = none) (hd : 1113 ≤ d) (sz tok : Nat) (hs : 1113 ≤ sz) : (sGM dd i d es ep x t tok).Valid (mdl tP (tW b c w)) (KK (tW b c w)) sz tok := by
  have h := sGI_ok (b := b) (c := c) (w := w) (dd := dd) (i := i) (es := es) (ep := ep) (x := x) (t := t) hd sz tok hs
  unfold sGI at h
  have e1 : esv es x = 0 := by unfold esv; rw [hf]
  have e2 : esu es x tok = tok + 3 := by unfold esu; rw [hf]
  have e3 : esz es x = 1 := by unfold esz; rw [hf]
  have e4 : est es x = 4 := by unfold est; rw [hf]
  rw [e1, e2, e3, e4] at h
  exact h.resize (o := none) (l := 1) (by show 1 + sz + 0 = 0 + sz + 1; omega) rfl
/-- the sum of a list of one number -/
noncomputable def sSum1 (i j jf it S l lep : Nat) (v : Int) (u tA su : Nat) : Summ :=
  { code := .builtin "sum.loop" ⟨[.ref it, .ref S, rawInt 0, rawInt 0], []⟩, res := .ok (.ret (.int (0 + v) su)), pre := [(i, it, liObj l 0), (j, S, lsObj [.int 0 tA] 0), (jf, l, lsObj [.int v u] lep)],
    post := [(i, it, liEnd (liObj l 1)), (j, S, lsObj [.int (0 + v) su] 0)], dl := 2, dtok := 1 }
theorem sSum1_ok {i j jf it S l lep : Nat} {v : Int} {u tA sz tok : Nat} (h1 : it ≠ S) (h2 : l ≠ it) (h3 : l ≠ S) : (sSum1 i j jf it S l lep v u tA tok).Valid (mdl tP (tW b c w)) (KK (tW b c w)) sz tok := by
  exact sSum_ok (K := KK (tW b c w)) (i := i) (j := j) (c := 0) (jf := jf) (a := 0) (tA := tA) (srcLi (p := tP) (w := tW b c w) it l lep [(v, u)]) h1 (fun q hq => by rw [List.mem_singleton.mp hq]; exact h2) (fun q hq => by rw [List.mem_singleton.mp hq]; exact h3) sz tok
noncomputable def frG (P : Params) (l : List (Str × Nat × Value)) (ep : Nat) (sl : Array (Option Value)) : Obj := ⟨.type "frame", none, .dict ⟨l.map fun x => de P x.1 x.2.1 x.2.2⟩ ep, sl⟩
/-- the slots of the law's frame once an exception has passed -/
noncomputable def fsR : Array (Option Value) := #[some (.ref 1111), some (.ref 3), none, some .notImplemented, none, some (.ref 1112), some (.ref 0), some (.ref 1116), some (.ref 1115)]
end Mine
set_option linter.all false
namespace Mine
open PySem PySem.W
/-- a summary from a run that lays objects which nobody asks for, and then the library's rules -/
theorem Summ.ofPreN {p : Program} {w : World} {K : Nat → Option Obj} {S : Summ} {sz tok : Nat} (sz1 tok1 : Nat) (ini : List (Nat × Obj)) (X : Sem Fin) (n : Nat) (ops : List Op) (N : Nat)
    (hnw : S.new = []) (hg : S.newg = []) (hfa : S.facts = []) (hne : S.needs = []) (hini : S.pre.map (·.2) = ini) (hN : ini.length = N) (nd : (ini.map (·.1)).Nodup) (hK' : ∀ q ∈ ini, K q.1 = none) (hi : iniOk ini .nil 0 = true)
    (ok : OpsOk (mdl p w) K ops)
    (e : ∀ (k : Result → Sem Fin) (g : Bool) (l : List Value) (code : Code) (pos pos' : Pos) (kp : List Value) (W : List (Code × Pos)) (gens : List GenState), S.shape ((code, pos) :: W) = true →
      chk (tR p w K W n ops (mkT ini) N sz gens tok [] (tD S.code) S.code pos' [.ret k none g l code pos kp] [] []) (mids N) =
      chk' (tR p w K W n ops (mkT ini) N sz gens tok [] (tD S.code) S.code pos' [.ret k none g l code pos kp] [] [])
        (X, S.code, [.ret k none g l code pos kp], sz1, tok1, gens, ini.map some))
    (H : ∀ s : Shared, (∀ q ∈ S.pre, s.heap.get? q.2.1 = some q.2.2) → s.heap.objs.size = sz1 → s.toks = tok1 → ∃ h' : Heap,
      (∀ A : Around, A.handled = none → wpAny (model p w) A X (fun fin s' => ∃ f, fin = .done f ∧ S.res = .ok f ∧ s' = { s with heap := h', toks := tok + S.dtok }) (fun e s' => S.res = .error e ∧ s' = { s with heap := h', toks := tok + S.dtok }) s) ∧
      h'.objs.size = S.dsz.getD 0 + sz + S.dl ∧ (∀ q ∈ S.post, h'.get? q.2.1 = some q.2.2) ∧
      ∀ b o, s.heap.get? b = some o → (∀ q ∈ S.post, q.2.1 ≠ b) → h'.get? b = some o) : S.Valid (mdl p w) K sz tok := by
  intro s k g l code pos pos' kp st hK hpre hpo hne1 hne' hs ht hb hsh
  obtain ⟨h, ⟨gens⟩, d, toks, os⟩ := s
  replace ht : toks = tok := ht
  subst ht hini hN
  obtain ⟨out, h1, e1, C, c1, c2, c3, c4⟩ := go (d := d) (os := os) (bot := st) rfl hb hK hK' (fun q hq => by
      obtain ⟨x, hx, rfl⟩ := List.mem_map.mp hq
      exact hpre x hx) nd (fun x hx => absurd hx (List.not_mem_nil)) hs rfl hi ok (e k g l code pos pos' kp (st.map Frame.where_) gens hsh)
  simp only [mids, Prod.mk.injEq] at e1
  obtain ⟨e1, e2, e3, e4, e5, e6, e7⟩ := e1
  rw [tD_eq] at C
  rw [e1, e2, e3, e5, e6] at C
  have hini : ∀ q ∈ S.pre, h1.get? q.2.1 = some q.2.2 := fun q hq => by
    have : some q.2 ∈ (S.pre.map (·.2)).map some := List.mem_map.mpr ⟨q.2, List.mem_map.mpr ⟨q, hq, rfl⟩, rfl⟩
    rw [← e7] at this
    obtain ⟨i, _, hi⟩ := List.mem_map.mp this
    exact c2 i q.2.1 q.2.2 hi
  have keep : ∀ b o, h.get? b = some o → h1.get? b = some o := fun b o hb' => by
    by_cases hm : b ∈ (S.pre.map (·.2)).map (·.1)
    · obtain ⟨x, hx, rfl⟩ := List.mem_map.mp hm
      obtain ⟨q, hq, rfl⟩ := List.mem_map.mp hx
      have := hpre q hq
      rw [show (Shared.heap ⟨h, ⟨gens⟩, d, toks, os⟩).get? q.2.1 = h.get? q.2.1 from rfl, hb'] at this
      cases this
      exact hini q hq
    · exact c4 b o hb' hm
  obtain ⟨h', w1, w2, w3, w5⟩ := H ⟨h1, ⟨gens⟩, d, tok1, os⟩ hini (c1.trans e4) rfl
  have C2 := comes_tree (c := S.code) (code := code) (k := k) (g := g) (l := l) (kp := kp) (pos := pos) (pos' := out.pos) hb w1
  refine ⟨h', ?_, w2, w3, (by rw [hnw]; exact fun _ z => nomatch z), (by rw [hfa]; exact fun _ z => nomatch z), fun b o hb' hn => w5 b o (keep b o hb') hn⟩
  rw [hg]
  have C3 := C.trans C2
  simpa using C3

end Mine
set_option linter.all false
namespace Mine
open PySem PySem.W
variable {b c : Bool} {w : World}
/-- the copy of a Counter into an empty Counter -/
noncomputable def sUpC (de dd : Nat) (i j l d o : Nat) (es : List E) (ep : Nat) : Summ :=
  { code := .builtin "dict.update" ⟨[.ref d, .ref o], []⟩, res := .ok (.ret .none), pre := [(i, d, dObj clsC (some de) [] 0), (j, o, dObj clsC (some dd) es ep), (l, dd, dObj clsD none [] 0)], post := [(i, d, dObj clsC (some de) es es.length)], dl := 1, dtok := 1 }
noncomputable def oUpC : List Op := [.s 0, .s 0, .k 0, .s 1, .s 1, .k 6, .s 1, .k 0, .s 1, .k 2, .s 1, .s 1, .k 0, .s 2, .k 0, .s 1, .k 0, .s 1, .k 0, .s 1, .k 2]
theorem sUpC_run (de dd d o : Nat) (es : List E) (ep : Nat) (sz tok : Nat) (k : Result → Sem PySem.Fin) (g : Bool) (l : List Value) (code : Code) (pos pos' : Pos) (kp : List Value) (W : List (Code × Pos)) (gens : List GenState) :
    chk (tR tP (tW b c w) (KK (tW b c w)) W 38 oUpC (mkT [(d + 1113, dObj clsC (some de) [] 0), (o + 1113, dObj clsC (some (dd + 1113)) es ep), (dd + 1113, dObj clsD none [] 0)]) 3 (sz + 1113) gens tok [] (tD (.builtin "dict.update" ⟨[.ref (d + 1113), .ref (o + 1113)], []⟩)) (.builtin "dict.update" ⟨[.ref (d + 1113), .ref (o + 1113)], []⟩) pos' [.ret k none g l code pos kp] [] []) (mids 3) =
    chk' (tR tP (tW b c w) (KK (tW b c w)) W 38 oUpC (mkT [(d + 1113, dObj clsC (some de) [] 0), (o + 1113, dObj clsC (some (dd + 1113)) es ep), (dd + 1113, dObj clsD none [] 0)]) 3 (sz + 1113) gens tok [] (tD (.builtin "dict.update" ⟨[.ref (d + 1113), .ref (o + 1113)], []⟩)) (.builtin "dict.update" ⟨[.ref (d + 1113), .ref (o + 1113)], []⟩) pos' [.ret k none g l code pos kp] [] [])
      (xUpd (d + 1113) (o + 1113), .builtin "dict.update" ⟨[.ref (d + 1113), .ref (o + 1113)], []⟩, [.ret k none g l code pos kp], sz + 1113 + 1, tok + 1, gens, [(d + 1113, dObj clsC (some de) [] 0), (o + 1113, dObj clsC (some (dd + 1113)) es ep), (dd + 1113, dObj clsD none [] 0)].map some) := by cases b <;> kernel_rfl
theorem xUpC_any {A : Around} {EE : Value → Shared → Prop} {s : Shared} {dd de d o : Nat} {es : List E} {ep : Nat} {Q : PySem.Fin → Shared → Prop} (hne : d ≠ o) (hoS : (o == sysModules) = false) (hd : s.heap.get? d = some (dObj clsC (some de) [] 0))
    (ho : s.heap.get? o = some (dObj clsC (some dd) es ep)) (hz : es.length ≤ 8) (h8 : 8 ≤ sizeLine) (nd : (es.map (·.k)).Nodup)
    (h : Q (Fin.done (.ret .none)) { s with heap := cpH d s.heap [] es }) : wpAny (model tP w) A (xUpd d o) Q EE s := by
  unfold xUpd
  rw [← PySem.W.Fast.te3262940954092997956, ← PySem.W.Fast.te7919365801931557858, ← PySem.W.Fast.te6905046200447255374, ← PySem.W.R.bindR_eq]
  exact wpAny_bind (m := Builtin.Dict.mergeDict _ d o) (f := fun _ => (Builtin.Dict.addKeywords d [] >>= fun _ => pure (Fin.done (.ret .none)))) (any_mergeDict hne hoS hd ho hz h8 nd (wpAny_bind (m := Builtin.Dict.addKeywords d []) (wpAny_pure (wpAny_pure h))))
theorem sUpC_ok {de dd i j l d o : Nat} {es : List E} {ep : Nat} (ndd : [d, o, dd].Nodup) (hz : es.length ≤ 8) (nd : (es.map (·.k)).Nodup) (hd : 1113 ≤ d) (ho : 1113 ≤ o) (hdd : 1113 ≤ dd) (sz tok : Nat) (hs : 1113 ≤ sz) : (sUpC de dd i j l d o es ep).Valid (mdl tP (tW b c w)) (KK (tW b c w)) sz tok := by
  obtain ⟨d, rfl⟩ : ∃ x, d = x + 1113 := ⟨d - 1113, by omega⟩
  obtain ⟨o, rfl⟩ : ∃ x, o = x + 1113 := ⟨o - 1113, by omega⟩
  obtain ⟨dd, rfl⟩ : ∃ x, dd = x + 1113 := ⟨dd - 1113, by omega⟩
  obtain ⟨sz, rfl⟩ : ∃ x, sz = x + 1113 := ⟨sz - 1113, by omega⟩
  have hne : d + 1113 ≠ o + 1113 := fun z => by simp [z] at ndd
  refine Summ.ofPreN (sz + 1113 + 1) (tok + 1) [(d + 1113, dObj clsC (some de) [] 0), (o + 1113, dObj clsC (some (dd + 1113)) es ep), (dd + 1113, dObj clsD none [] 0)] (xUpd (d + 1113) (o + 1113)) 38 oUpC 3 rfl rfl rfl rfl rfl rfl ndd (all_cons (KK_none hd) (all_cons (KK_none ho) (all_cons (KK_none hdd) all_nil))) rfl trivial
    (fun k g l code pos pos' kp W gens _ => sUpC_run de dd d o es ep sz tok k g l code pos pos' kp W gens) (fun s hpre hs ht => ?_)
  have h1 : s.heap.get? (d + 1113) = some (dObj clsC (some de) [] 0) := hpre (i, d + 1113, _) List.mem_cons_self
  have h2 : s.heap.get? (o + 1113) = some (dObj clsC (some (dd + 1113)) es ep) := hpre (j, o + 1113, _) (List.mem_cons_of_mem _ List.mem_cons_self)
  obtain ⟨g1, g2⟩ := cpH_get (d := d + 1113) es [] s.heap 0 h1 (by simpa using nd)
  refine ⟨cpH (d + 1113) s.heap [] es, fun A hA => xUpC_any hne ?_ h1 h2 hz (by size_fits) nd ⟨_, rfl, rfl, by rw [ht]; rfl⟩, by rw [g2.1, hs]; show _ = 0 + (sz + 1113) + 1; omega, fun q hq => ?_, fun b o' hb hn => ?_⟩
  · have : o + 1113 ≠ sysModules := fun z => by rw [z] at ho; exact absurd ho (by decide)
    simpa using this
  · rw [List.mem_singleton.mp hq]
    show (cpH (d + 1113) s.heap [] es).get? (d + 1113) = _
    rw [g1]; simp
  · exact (g2.2 b fun z => hn (i, d + 1113, _) (List.mem_singleton.mpr rfl) z.symm).trans hb
end Mine
set_option linter.all false
namespace Mine
open PySem PySem.W
variable {b c : Bool} {w : World}
noncomputable def sCp (P : Params) (i0 i1 : Nat) (d dd : Nat) (es : List E) (ep : Nat) (sz : Nat) : Summ :=
  { code := .call (.ref 951) ⟨[.ref d], []⟩, res := .ok (.ret (.ref (sz + 2))), pre := [(i0, d, dObj clsC (some dd) es ep), (i1, dd, dObj clsD none [] 0)], post := [], new := [(1, dObj clsD none [] 0), (2, dObj clsC (some (sz + 1)) es es.length)], dsz := none, dl := 16, dtok := 23, shape := sh [1, 0, 2] }
noncomputable def oCp (P : Params) (d dd : Nat) (es : List E) (ep : Nat) (s0 t : Nat) : List Op := [.k 1, .s 2, .s 2, .k 0, .s 2, .s 0, .k 2, .s 0, .k 2, .s 0, .k 2, .s 0, .k 6, .s 0, .k 0, .s 0, .k 3, .s 0, .k 0, .s 0, .s 2, .k 20, .s 4, .k 0, .s 4, .k 7, .s 6, .s 6, .s 6, .s 6, .s 6, .s 6, .k 5, .q (fun acts sz tok => mSupA sel0 (.ref 1093) (str "self") acts sz tok), .s 6, .k 3, .s 7, .s 7, .k 0, .s 7, .k 0, .s 4, .s 4, .k 0, .s 7, .s 7, .s 7, .s 7, .s 7, .s 7, .s 7, .s 7, .k 0, .s 7, .s 7, .s 7, .s 7, .k 2, .s 4, .k 0, .s 8, .k 0, .s 8, .s 4, .s 4, .k 0, .s 6, .s 4, .k 6, .s 4, .k 0, .s 4, .k 5, .s 4, .s 4, .k 0, .s 3, .k 1, .s 6, .s 6, .s 5, .s 5, .s 10, .s 5, .s 5, .s 5, .s 10, .s 9, .k 1, .s 9, .k 2, .s 12, .s 12, .s 12, .s 12, .s 12, .s 12, .k 0, .s 12, .k 1, .s 12, .k 1, .s 0, .k 11, .s 13, .s 13, .s 13, .s 13, .k 2, .s 13, .k 0, .s 0, .s 13, .s 13, .s 13, .s 0, .k 6, .s 0, .k 0, .s 0, .k 3, .s 0, .k 0, .s 0, .s 13, .s 13, .k 30, .s 13, .s 13, .k 3, .s 14, .s 14, .s 14, .s 14, .k 0, .s 14, .k 2, .s 14, .k 4, .s 12, .s 4, .k 2, .s 4, .k 3, .s 4, .k 3, .s 4, .k 0, .s 4, .k 4, .q (fun acts sz tok => mSupA selUpd (.ref 1093) (str "self") acts sz tok), .s 12, .k 3, .s 15, .s 15, .k 0, .s 15, .k 0, .s 4, .s 4, .k 0, .s 15, .s 15, .s 15, .s 15, .s 15, .s 15, .s 15, .s 15, .k 0, .s 15, .s 15, .s 15, .s 15, .k 2, .s 4, .k 0, .s 12, .s 16, .k 0, .s 16, .s 4, .k 0, .s 4, .s 4, .k 1, .a (fun _ sz _ => guard sz (sUpC (s0 + 1114) (dd + 1113) 4 0 1 (s0 + 1115) (d + 1113) es ep)), .s 12, .s 11, .s 11, .k 0, .s 11, .k 0, .s 11, .s 11]
noncomputable def qCp (b c : Bool) (w : World) (d dd : Nat) (es : List E) (ep : Nat) (s0 t : Nat) (k : Result → Sem PySem.Fin) (g : Bool) (l : List Value) (code : Code) (pos pos' : Pos) (kp : List Value) (W : List (Code × Pos)) (gens : List GenState) : Prop :=
    chk (tR tP (tW b c w) (KK (tW b c w)) W 559 (oCp (tW b c w).params d dd es ep s0 t) (mkT [((d + 1113), dObj clsC (some (dd + 1113)) es ep), ((dd + 1113), dObj clsD none [] 0)]) 2 (s0 + 1113) gens t [] (tD (.call (.ref 951) ⟨[.ref (d + 1113)], []⟩)) (.call (.ref 951) ⟨[.ref (d + 1113)], []⟩) pos' [.ret k none g l code pos kp] [] []) (ends 2 [3, 4]) =
    chk' (tR tP (tW b c w) (KK (tW b c w)) W 559 (oCp (tW b c w).params d dd es ep s0 t) (mkT [((d + 1113), dObj clsC (some (dd + 1113)) es ep), ((dd + 1113), dObj clsD none [] 0)]) 2 (s0 + 1113) gens t [] (tD (.call (.ref 951) ⟨[.ref (d + 1113)], []⟩)) (.call (.ref 951) ⟨[.ref (d + 1113)], []⟩) pos' [.ret k none g l code pos kp] [] [])
      (k (.ok (.ret (.ref ((s0 + 1113) + 2)))), code, pos, [], (s0 + 1129), (t + 23), appG gens [], [], [((d + 1113), dObj clsC (some (dd + 1113)) es ep), ((dd + 1113), dObj clsD none [] 0)].map some, [((s0 + 1113) + 1, dObj clsD none [] 0), ((s0 + 1113) + 2, dObj clsC (some ((s0 + 1113) + 1)) es es.length)].map some)
theorem rCp (d dd : Nat) (es : List E) (ep : Nat) (s0 t : Nat) (k : Result → Sem PySem.Fin) (g : Bool) (l : List Value) (lt0 : PySem.Expr) (li0 : Value) (lb0 : List Stmt) (lo0 : List Stmt) (le0 : Env) (pos pos' : Pos) (kp : List Value) (fb1 : List Stmt) (fe1 : Env) (ps1 : Pos) (ca2 : Args) (ps2 : Pos) (gens : List GenState) : qCp b c w d dd es ep s0 t k g l (.forLoop lt0 li0 lb0 lo0 le0) pos pos' kp [((.func fb1 fe1), ps1), ((.builtin "claim.caller" ca2), ps2)] gens := by
  show chk _ _ = chk' _ _
  cases b <;> kernel_rfl
theorem sCp_ok {i0 i1 : Nat} {d dd : Nat} {es : List E} {ep : Nat} (h8 : es.length ≤ 8) (hnd : (es.map (·.k)).Nodup) (nd : [d, dd].Nodup) (hge : ∀ x ∈ [d, dd], 1113 ≤ x) (sz tok : Nat) (hs : 1113 ≤ sz) (hlt : ∀ x ∈ [d, dd], x < sz) : (sCp (tW b c w).params i0 i1 d dd es ep sz).Valid (mdl tP (tW b c w)) (KK (tW b c w)) sz tok := by
  obtain ⟨d, rfl⟩ : ∃ x, d = x + 1113 := ⟨d - 1113, by have := hge d (by simp); omega⟩
  obtain ⟨dd, rfl⟩ : ∃ x, dd = x + 1113 := ⟨dd - 1113, by have := hge dd (by simp); omega⟩
  obtain ⟨s0, rfl⟩ : ∃ x, sz = x + 1113 := ⟨sz - 1113, by omega⟩
  refine Summ.ofRunZ [((d + 1113), dObj clsC (some (dd + 1113)) es ep), ((dd + 1113), dObj clsD none [] 0)] [((d + 1113), dObj clsC (some (dd + 1113)) es ep), ((dd + 1113), dObj clsD none [] 0)] [3, 4] [((s0 + 1113) + 1, dObj clsD none [] 0), ((s0 + 1113) + 2, dObj clsC (some ((s0 + 1113) + 1)) es es.length)] 559 (oCp (tW b c w).params d dd es ep s0 tok) 2 [] (s0 + 1129) (tok + 23) rfl rfl rfl rfl f2_nil ((all_cons (.inl m0) (all_cons (.inl (mt m0)) all_nil))) nd (all_cons (KK_none (hge _ m0)) (all_cons (KK_none (hge _ (mt m0))) all_nil)) rfl (fun l hl => nomatch hl) (fun l hl => nomatch hl) (by show (s0 + 1113) + 16 = _; omega) (by show tok + (23) = _; omega) rfl ⟨fun acts sz tok => mSupA_ok acts sz tok, fun acts sz tok => mSupA_ok acts sz tok, fun cc sz tok _ _ => ⟨guard_ok (fun h => sUpC_ok (by have q0 := hlt _ m0; have q1 := hlt _ (mt m0); have q2 := nd; simp only [List.nodup_cons, List.mem_cons, List.not_mem_nil, or_false, List.nodup_nil, not_or, not_false_eq_true, and_true, and_self] at q2 ⊢; omega) h8 hnd (by omega) (by omega) (by omega) sz tok h), guard_nd nd0⟩, trivial⟩ (fun k g l code pos pos' kp W gens hsh => ?_)
  exact el102 (P := fun code W => qCp b c w d dd es ep s0 tok k g l code pos pos' kp W gens) (fun lt0 li0 lb0 lo0 le0 fb1 fe1 ps1 ca2 ps2 => rCp d dd es ep s0 tok k g l lt0 li0 lb0 lo0 le0 pos pos' kp fb1 fe1 ps1 ca2 ps2 gens) hsh
end Mine
set_option linter.all false
namespace Mine
open PySem PySem.W
noncomputable def turnsL (n : Nat) (newi : List Nat) (o : Out) := (o.cur, o.code, o.st, o.sz, o.toks, o.gens, (List.range n).map o.T.get, newi.map o.T.get, o.F)
end Mine
set_option linter.all false
namespace Mine
open PySem PySem.W
/-- the loops' variables after some turns -/
noncomputable def heO : List (Nat × E) → Nat → Option (Nat × Value × Nat × Value) → Option (Nat × Value × Nat × Value)
  | [], _, o => o
  | e :: r, t, o => heO r (t + 2) (loc2Set t (.int e.2.k e.2.t) (t + 1) (.int e.2.v e.2.u) o)
noncomputable def wiO : List (Nat × E) → Nat → Option (Nat × Value) → Option (Nat × Value)
  | [], _, o => o
  | e :: r, t, o => wiO r (t + 2) (locSet t (.ref e.1) o)
theorem heO_some : ∀ (l : List (Nat × E)) (t : Nat) (o : Nat × Value × Nat × Value), ∃ o', heO l t (some o) = some o'
  | [], _, o => ⟨o, rfl⟩
  | e :: r, t, (a, _, b, _) => heO_some r (t + 2) (a, .int e.2.k e.2.t, b, .int e.2.v e.2.u)
theorem wiO_some : ∀ (l : List (Nat × E)) (t : Nat) (o : Nat × Value), ∃ o', wiO l t (some o) = some o'
  | [], _, o => ⟨o, rfl⟩
  | e :: r, t, (a, _) => wiO_some r (t + 2) (a, .ref e.1)
theorem heO_ne {l : List (Nat × E)} (h : l ≠ []) (t : Nat) : ∃ o', heO l t none = some o' := by
  cases l with
  | nil => exact absurd rfl h
  | cons e r => exact heO_some r (t + 2) (t, .int e.2.k e.2.t, t + 1, .int e.2.v e.2.u)
theorem wiO_ne {l : List (Nat × E)} (h : l ≠ []) (t : Nat) : ∃ o', wiO l t none = some o' := by
  cases l with
  | nil => exact absurd rfl h
  | cons e r => exact wiO_some r (t + 2) (t, .ref e.1)
noncomputable def hvs (key : Int) (l : List (Nat × E)) : List (Nat × E) := l.filter fun e => e.2.k == key
noncomputable def wos (key : Int) (l : List (Nat × E)) : List (Nat × E) := l.filter fun e => e.2.k != key
noncomputable def wjR (key : Int) (kt : Nat) (cn : Int) (ct : Nat) : List (Nat × E) → Nat → List (Nat × E)
  | [], _ => []
  | e :: r, z => if e.2.k == key then (z, ⟨key, kt, cn, ct⟩) :: wjR key kt cn ct r (z + 1) else e :: wjR key kt cn ct r (z + 0)
noncomputable def wjF (key : Int) (kt : Nat) (cn : Int) (ct : Nat) : List (Nat × E) → Nat → List (Nat × Obj)
  | [], _ => []
  | e :: r, z => if e.2.k == key then (z, tupObj [.int key kt, .int cn ct]) :: wjF key kt cn ct r (z + 1) else wjF key kt cn ct r (z + 0)
theorem go_he (P : Params) (i0 i1 i2 i3 i4 : Nat) (it ls M acc lep kt : Nat) (key : Int) (ps : List (Nat × E)) : ∀ (rem : List (Nat × E)) (o) (av : List Value) (n z t : Nat), (heL P i0 i1 i2 i3 i4 it ls M acc lep kt key ps).go rem ⟨o, av, n⟩ z t = (⟨heO rem t o, av ++ (hvs key rem).map (fun e => Value.int e.2.v e.2.u), n + (hvs key rem).length⟩, 3 * rem.length, 2 * rem.length, [])
  | [], o, av, n, z, t => by
    show ((⟨o, av, n⟩ : heSt), 0, 0, ([] : List (Nat × Obj))) = (⟨o, av ++ [], n + 0⟩, _, _, [])
    rw [List.append_nil]; rfl
  | e :: r, o, av, n, z, t => by
    rw [LoopW.go]
    cases h : e.2.k == key with
    | true =>
      have hs : (heL P i0 i1 i2 i3 i4 it ls M acc lep kt key ps).step e ⟨o, av, n⟩ z t = ⟨loc2Set t (.int e.2.k e.2.t) (t + 1) (.int e.2.v e.2.u) o, av ++ [.int e.2.v e.2.u], n + 1⟩ := by simp only [heL, h]
      have hF : (heL P i0 i1 i2 i3 i4 it ls M acc lep kt key ps).fact e ⟨o, av, n⟩ z t = [] := by simp only [heL, h]
      have hd : (heL P i0 i1 i2 i3 i4 it ls M acc lep kt key ps).sdl e ⟨o, av, n⟩ t = 3 := by simp only [heL, h]
      have ht : (heL P i0 i1 i2 i3 i4 it ls M acc lep kt key ps).sdt e ⟨o, av, n⟩ t = 2 := by simp only [heL, h]
      rw [hs, hd, ht, hF, go_he P i0 i1 i2 i3 i4 it ls M acc lep kt key ps r]
      simp only [hvs, List.filter_cons, h, if_true, Bool.false_eq_true, if_false, List.map_cons, List.length_cons, List.append_assoc, List.singleton_append, heO, List.nil_append, Prod.mk.injEq, heSt.mk.injEq, true_and, and_true]
      omega
    | false =>
      have hs : (heL P i0 i1 i2 i3 i4 it ls M acc lep kt key ps).step e ⟨o, av, n⟩ z t = ⟨loc2Set t (.int e.2.k e.2.t) (t + 1) (.int e.2.v e.2.u) o, av, n⟩ := by simp only [heL, h]
      have hF : (heL P i0 i1 i2 i3 i4 it ls M acc lep kt key ps).fact e ⟨o, av, n⟩ z t = [] := by simp only [heL, h]
      have hd : (heL P i0 i1 i2 i3 i4 it ls M acc lep kt key ps).sdl e ⟨o, av, n⟩ t = 3 := by simp only [heL, h]
      have ht : (heL P i0 i1 i2 i3 i4 it ls M acc lep kt key ps).sdt e ⟨o, av, n⟩ t = 2 := by simp only [heL, h]
      rw [hs, hd, ht, hF, go_he P i0 i1 i2 i3 i4 it ls M acc lep kt key ps r]
      simp only [hvs, List.filter_cons, h, if_true, Bool.false_eq_true, if_false, List.map_cons, List.length_cons, List.append_assoc, List.singleton_append, heO, List.nil_append, Prod.mk.injEq, heSt.mk.injEq, true_and, and_true]
      omega
theorem go_wi (P : Params) (i0 i1 i2 i3 i4 : Nat) (it ls M acc L cl lep kt : Nat) (key : Int) (ps : List (Nat × E)) : ∀ (rem : List (Nat × E)) (o) (av : List Value) (n z t : Nat), (wiL P i0 i1 i2 i3 i4 it ls M acc L cl lep kt key ps).go rem ⟨o, av, n⟩ z t = (⟨wiO rem t o, av ++ (hvs key rem).map rfD, n + (hvs key rem).length⟩, 0, 2 * rem.length, [])
  | [], o, av, n, z, t => by
    show ((⟨o, av, n⟩ : wiSt), 0, 0, ([] : List (Nat × Obj))) = (⟨o, av ++ [], n + 0⟩, _, _, [])
    rw [List.append_nil]; rfl
  | e :: r, o, av, n, z, t => by
    rw [LoopW.go]
    cases h : e.2.k == key with
    | true =>
      have hs : (wiL P i0 i1 i2 i3 i4 it ls M acc L cl lep kt key ps).step e ⟨o, av, n⟩ z t = ⟨locSet t (.ref e.1) o, av ++ [.ref e.1], n + 1⟩ := by simp only [wiL, h]
      have hF : (wiL P i0 i1 i2 i3 i4 it ls M acc L cl lep kt key ps).fact e ⟨o, av, n⟩ z t = [] := by simp only [wiL, h]
      have hd : (wiL P i0 i1 i2 i3 i4 it ls M acc L cl lep kt key ps).sdl e ⟨o, av, n⟩ t = 0 := by simp only [wiL, h]
      have ht : (wiL P i0 i1 i2 i3 i4 it ls M acc L cl lep kt key ps).sdt e ⟨o, av, n⟩ t = 2 := by simp only [wiL, h]
      rw [hs, hd, ht, hF, go_wi P i0 i1 i2 i3 i4 it ls M acc L cl lep kt key ps r]
      simp only [hvs, List.filter_cons, h, if_true, Bool.false_eq_true, if_false, List.map_cons, rfD, List.length_cons, List.append_assoc, List.singleton_append, wiO, List.nil_append, Prod.mk.injEq, wiSt.mk.injEq, true_and, and_true]
      omega
    | false =>
      have hs : (wiL P i0 i1 i2 i3 i4 it ls M acc L cl lep kt key ps).step e ⟨o, av, n⟩ z t = ⟨locSet t (.ref e.1) o, av, n⟩ := by simp only [wiL, h]
      have hF : (wiL P i0 i1 i2 i3 i4 it ls M acc L cl lep kt key ps).fact e ⟨o, av, n⟩ z t = [] := by simp only [wiL, h]
      have hd : (wiL P i0 i1 i2 i3 i4 it ls M acc L cl lep kt key ps).sdl e ⟨o, av, n⟩ t = 0 := by simp only [wiL, h]
      have ht : (wiL P i0 i1 i2 i3 i4 it ls M acc L cl lep kt key ps).sdt e ⟨o, av, n⟩ t = 2 := by simp only [wiL, h]
      rw [hs, hd, ht, hF, go_wi P i0 i1 i2 i3 i4 it ls M acc L cl lep kt key ps r]
      simp only [hvs, List.filter_cons, h, if_true, Bool.false_eq_true, if_false, List.map_cons, rfD, List.length_cons, List.append_assoc, List.singleton_append, wiO, List.nil_append, Prod.mk.injEq, wiSt.mk.injEq, true_and, and_true]
      omega
theorem go_wo (P : Params) (i0 i1 i2 i3 i4 : Nat) (it ls M acc L cl lep kt : Nat) (key : Int) (ps : List (Nat × E)) : ∀ (rem : List (Nat × E)) (o) (av : List Value) (n z t : Nat), (woL P i0 i1 i2 i3 i4 it ls M acc L cl lep kt key ps).go rem ⟨o, av, n⟩ z t = (⟨wiO rem t o, av ++ (wos key rem).map rfD, n + (wos key rem).length⟩, 0, 2 * rem.length, [])
  | [], o, av, n, z, t => by
    show ((⟨o, av, n⟩ : woSt), 0, 0, ([] : List (Nat × Obj))) = (⟨o, av ++ [], n + 0⟩, _, _, [])
    rw [List.append_nil]; rfl
  | e :: r, o, av, n, z, t => by
    rw [LoopW.go]
    cases h : e.2.k != key with
    | true =>
      have hs : (woL P i0 i1 i2 i3 i4 it ls M acc L cl lep kt key ps).step e ⟨o, av, n⟩ z t = ⟨locSet t (.ref e.1) o, av ++ [.ref e.1], n + 1⟩ := by simp only [woL, h]
      have hF : (woL P i0 i1 i2 i3 i4 it ls M acc L cl lep kt key ps).fact e ⟨o, av, n⟩ z t = [] := by simp only [woL, h]
      have hd : (woL P i0 i1 i2 i3 i4 it ls M acc L cl lep kt key ps).sdl e ⟨o, av, n⟩ t = 0 := by simp only [woL, h]
      have ht : (woL P i0 i1 i2 i3 i4 it ls M acc L cl lep kt key ps).sdt e ⟨o, av, n⟩ t = 2 := by simp only [woL, h]
      rw [hs, hd, ht, hF, go_wo P i0 i1 i2 i3 i4 it ls M acc L cl lep kt key ps r]
      simp only [wos, List.filter_cons, h, if_true, Bool.false_eq_true, if_false, List.map_cons, rfD, List.length_cons, List.append_assoc, List.singleton_append, wiO, List.nil_append, Prod.mk.injEq, woSt.mk.injEq, true_and, and_true]
      omega
    | false =>
      have hs : (woL P i0 i1 i2 i3 i4 it ls M acc L cl lep kt key ps).step e ⟨o, av, n⟩ z t = ⟨locSet t (.ref e.1) o, av, n⟩ := by simp only [woL, h]
      have hF : (woL P i0 i1 i2 i3 i4 it ls M acc L cl lep kt key ps).fact e ⟨o, av, n⟩ z t = [] := by simp only [woL, h]
      have hd : (woL P i0 i1 i2 i3 i4 it ls M acc L cl lep kt key ps).sdl e ⟨o, av, n⟩ t = 0 := by simp only [woL, h]
      have ht : (woL P i0 i1 i2 i3 i4 it ls M acc L cl lep kt key ps).sdt e ⟨o, av, n⟩ t = 2 := by simp only [woL, h]
      rw [hs, hd, ht, hF, go_wo P i0 i1 i2 i3 i4 it ls M acc L cl lep kt key ps r]
      simp only [wos, List.filter_cons, h, if_true, Bool.false_eq_true, if_false, List.map_cons, rfD, List.length_cons, List.append_assoc, List.singleton_append, wiO, List.nil_append, Prod.mk.injEq, woSt.mk.injEq, true_and, and_true]
      omega
theorem go_wj (P : Params) (i0 i1 i2 i3 i4 i5 : Nat) (it ls M acc L ck cq lep kt ct : Nat) (key cn : Int) (ps : List (Nat × E)) : ∀ (rem : List (Nat × E)) (o) (av : List Value) (n z t : Nat), (wjL P i0 i1 i2 i3 i4 i5 it ls M acc L ck cq lep kt ct key cn ps).go rem ⟨o, av, n⟩ z t = (⟨wiO rem t o, av ++ (wjR key kt cn ct rem z).map rfD, n + rem.length⟩, (hvs key rem).length, 2 * rem.length, wjF key kt cn ct rem z)
  | [], o, av, n, z, t => by
    show ((⟨o, av, n⟩ : wjSt), 0, 0, ([] : List (Nat × Obj))) = (⟨o, av ++ [], n + 0⟩, _, _, [])
    rw [List.append_nil]; rfl
  | e :: r, o, av, n, z, t => by
    rw [LoopW.go]
    cases h : e.2.k == key with
    | true =>
      have hs : (wjL P i0 i1 i2 i3 i4 i5 it ls M acc L ck cq lep kt ct key cn ps).step e ⟨o, av, n⟩ z t = ⟨locSet t (.ref e.1) o, av ++ [.ref z], n + 1⟩ := by simp only [wjL, h]
      have hF : (wjL P i0 i1 i2 i3 i4 i5 it ls M acc L ck cq lep kt ct key cn ps).fact e ⟨o, av, n⟩ z t = [(z, tupObj [.int key kt, .int cn ct])] := by simp only [wjL, h]
      have hd : (wjL P i0 i1 i2 i3 i4 i5 it ls M acc L ck cq lep kt ct key cn ps).sdl e ⟨o, av, n⟩ t = 1 := by simp only [wjL, h]
      have ht : (wjL P i0 i1 i2 i3 i4 i5 it ls M acc L ck cq lep kt ct key cn ps).sdt e ⟨o, av, n⟩ t = 2 := by simp only [wjL, h]
      rw [hs, hd, ht, hF, go_wj P i0 i1 i2 i3 i4 i5 it ls M acc L ck cq lep kt ct key cn ps r]
      simp only [hvs, wjR, wjF, rfD, List.filter_cons, h, if_true, Bool.false_eq_true, if_false, List.map_cons, List.length_cons, List.append_assoc, List.singleton_append, wiO, List.nil_append, Prod.mk.injEq, wjSt.mk.injEq, true_and, and_true]
      omega
    | false =>
      have hs : (wjL P i0 i1 i2 i3 i4 i5 it ls M acc L ck cq lep kt ct key cn ps).step e ⟨o, av, n⟩ z t = ⟨locSet t (.ref e.1) o, av ++ [.ref e.1], n + 1⟩ := by simp only [wjL, h]
      have hF : (wjL P i0 i1 i2 i3 i4 i5 it ls M acc L ck cq lep kt ct key cn ps).fact e ⟨o, av, n⟩ z t = [] := by simp only [wjL, h]
      have hd : (wjL P i0 i1 i2 i3 i4 i5 it ls M acc L ck cq lep kt ct key cn ps).sdl e ⟨o, av, n⟩ t = 0 := by simp only [wjL, h]
      have ht : (wjL P i0 i1 i2 i3 i4 i5 it ls M acc L ck cq lep kt ct key cn ps).sdt e ⟨o, av, n⟩ t = 2 := by simp only [wjL, h]
      rw [hs, hd, ht, hF, go_wj P i0 i1 i2 i3 i4 i5 it ls M acc L ck cq lep kt ct key cn ps r]
      simp only [hvs, wjR, wjF, rfD, List.filter_cons, h, if_true, Bool.false_eq_true, if_false, List.map_cons, List.length_cons, List.append_assoc, List.singleton_append, wiO, List.nil_append, Prod.mk.injEq, wjSt.mk.injEq, true_and, and_true]
      omega
/-- the pairs and the Counter hold the same -/
noncomputable def kvp (ps : List (Nat × E)) : List (Int × Int) := ps.map fun e => (e.2.k, e.2.v)
noncomputable def kve (es : List E) : List (Int × Int) := es.map fun e => (e.k, e.v)
structure Same (es : List E) (ps : List (Nat × E)) : Prop where
  eq : kvp ps = kve es
  good : Good 4 es
theorem Same.keys {es : List E} {ps : List (Nat × E)} (h : kvp ps = kve es) : ps.map (fun e => e.2.k) = es.map (fun e => e.k) := by
  have := congrArg (List.map Prod.fst) h
  simpa only [kvp, kve, List.map_map, Function.comp_def] using this
theorem hvs_none {key : Int} : ∀ {ps : List (Nat × E)}, key ∉ ps.map (fun e => e.2.k) → hvs key ps = [] ∧ wos key ps = ps
  | [], _ => ⟨rfl, rfl⟩
  | e :: r, h => by
    rw [List.map_cons, List.mem_cons, not_or] at h
    obtain ⟨h1, h2⟩ := hvs_none h.2
    have hk : (e.2.k == key) = false := by
      rw [beq_eq_false_iff_ne]
      exact fun z => h.1 z.symm
    have hk' : (e.2.k != key) = true := by unfold bne; rw [hk]; rfl
    unfold hvs wos at *
    simp only [List.filter_cons, hk, hk', if_true, Bool.false_eq_true, if_false]
    exact ⟨h1, congrArg _ h2⟩
theorem wjR_none {key : Int} {kt : Nat} {cn : Int} {ct : Nat} : ∀ {ps : List (Nat × E)} {z : Nat}, key ∉ ps.map (fun e => e.2.k) → wjR key kt cn ct ps z = ps
  | [], _, _ => rfl
  | e :: r, z, h => by
    rw [List.map_cons, List.mem_cons, not_or] at h
    have hk : (e.2.k == key) = false := by
      rw [beq_eq_false_iff_ne]
      exact fun z => h.1 z.symm
    unfold wjR
    rw [if_neg (by rw [hk]; exact Bool.false_ne_true), wjR_none h.2]
/-- the key is there, or not -/
theorem same_cases {key : Int} : ∀ {es : List E} {ps : List (Nat × E)}, kvp ps = kve es → (es.map (·.k)).Nodup →
    (esFind es key = none ∧ hvs key ps = [] ∧ wos key ps = ps ∧ key ∉ es.map (·.k)) ∨
    (∃ e p, esFind es key = some e ∧ hvs key ps = [p] ∧ p ∈ ps ∧ p.2.v = e.v ∧ kvp (wos key ps) = kve (esDel es key) ∧
      ∀ kt cn ct z t u, kvp (wjR key kt cn ct ps z) = kve (esSet es key t cn u))
  | [], [], _, _ => .inl ⟨rfl, rfl, rfl, List.not_mem_nil⟩
  | [], p :: ps, h, _ => nomatch h
  | e :: es, [], h, _ => nomatch h
  | e :: es, p :: ps, h, nd => by
    rw [show kvp (p :: ps) = (p.2.k, p.2.v) :: kvp ps from rfl, show kve (e :: es) = (e.k, e.v) :: kve es from rfl] at h
    obtain ⟨h1, h2⟩ := List.cons.inj h
    obtain ⟨hk, hv⟩ := Prod.mk.inj h1
    rw [List.map_cons, List.nodup_cons] at nd
    have hkeys := Same.keys h2
    by_cases hx : e.k = key
    · subst hx
      have hn : e.k ∉ ps.map (fun e => e.2.k) := hkeys ▸ nd.1
      obtain ⟨n1, n2⟩ := hvs_none hn
      have b1 : (p.2.k == e.k) = true := by rw [hk]; exact beq_self_eq_true _
      have b2 : (p.2.k != e.k) = false := by unfold bne; rw [b1]; rfl
      refine .inr ⟨e, p, by unfold esFind; rw [if_pos rfl], ?_, List.mem_cons_self, hv, ?_, fun kt cn ct z t u => ?_⟩
      · unfold hvs at *; rw [List.filter_cons, if_pos b1, n1]
      · unfold wos at *; rw [List.filter_cons, if_neg (by rw [b2]; exact Bool.false_ne_true), n2]; unfold esDel; rw [if_pos rfl]; exact h2
      · unfold wjR esSet
        rw [if_pos b1, if_pos rfl, wjR_none hn]
        show (e.k, cn) :: kvp ps = (e.k, cn) :: kve es
        rw [h2]
    · have b1 : (p.2.k == key) = false := by rw [hk, beq_eq_false_iff_ne]; exact hx
      have b2 : (p.2.k != key) = true := by unfold bne; rw [b1]; rfl
      rcases same_cases (key := key) h2 nd.2 with ⟨c1, c2, c3, c4⟩ | ⟨f, q, c1, c2, c3, c4, c5, c6⟩
      · refine .inl ⟨by unfold esFind; rw [if_neg hx]; exact c1, ?_, ?_, ?_⟩
        · unfold hvs at *; rw [List.filter_cons, if_neg (by rw [b1]; exact Bool.false_ne_true), c2]
        · unfold wos at *; rw [List.filter_cons, if_pos b2, c3]
        · rw [List.map_cons, List.mem_cons, not_or]
          exact ⟨fun z => hx z.symm, c4⟩
      · refine .inr ⟨f, q, by unfold esFind; rw [if_neg hx]; exact c1, ?_, List.mem_cons_of_mem _ c3, c4, ?_, fun kt cn ct z t u => ?_⟩
        · unfold hvs at *; rw [List.filter_cons, if_neg (by rw [b1]; exact Bool.false_ne_true), c2]
        · unfold wos at *; rw [List.filter_cons, if_pos b2]; unfold esDel; rw [if_neg hx]
          show (p.2.k, p.2.v) :: _ = (e.k, e.v) :: _
          rw [hk, hv]
          exact congrArg _ c5
        · unfold wjR esSet
          rw [if_neg (by rw [b1]; exact Bool.false_ne_true), if_neg hx]
          show (p.2.k, p.2.v) :: kvp _ = (e.k, e.v) :: kve _
          rw [hk, hv, c6]
theorem esDel_sub : ∀ {es : List E} {key : Int}, (esDel es key).Sublist es
  | [], _ => List.Sublist.refl _
  | e :: r, key => by
    unfold esDel
    by_cases h : e.k = key
    · rw [if_pos h]; exact List.sublist_cons_self _ _
    · rw [if_neg h]; exact esDel_sub.cons_cons _
theorem Good.del {es : List E} {key : Int} (h : Good 4 es) : Good 4 (esDel es key) :=
  ⟨h.1.sublist (esDel_sub.map _), fun e he => h.2 e (esDel_sub.subset he)⟩
theorem esSet_keys : ∀ {es : List E} {key : Int} {t : Nat} {y : Int} {u : Nat} {e : E}, esFind es key = some e → (esSet es key t y u).map (·.k) = es.map (·.k)
  | [], _, _, _, _, _, h => nomatch h
  | f :: r, key, t, y, u, e, h => by
    unfold esFind at h
    unfold esSet
    by_cases hk : f.k = key
    · rw [if_pos hk]; rfl
    · rw [if_neg hk] at h ⊢
      rw [List.map_cons, List.map_cons, esSet_keys h]
theorem Good.keys {es fs : List E} (h : Good 4 es) (hk : fs.map (·.k) = es.map (·.k)) : Good 4 fs := by
  refine ⟨hk ▸ h.1, fun e he => ?_⟩
  have : e.k ∈ es.map (·.k) := hk ▸ List.mem_map.mpr ⟨e, he, rfl⟩
  obtain ⟨f, hf, hfk⟩ := List.mem_map.mp this
  rw [← hfk]
  exact h.2 f hf
theorem Good.new {es : List E} {key : Int} {t : Nat} {y : Int} {u : Nat} (h : Good 4 es) (hn : key ∉ es.map (·.k)) (h0 : 0 ≤ key) (h4 : key < 4) : Good 4 (es ++ [⟨key, t, y, u⟩]) := by
  refine ⟨?_, fun e he => ?_⟩
  · rw [List.map_append, List.nodup_append]
    refine ⟨h.1, List.nodup_cons.mpr ⟨List.not_mem_nil, List.nodup_nil⟩, fun a ha b hb z => ?_⟩
    rw [List.mem_singleton.mp hb] at z
    exact hn (show key ∈ _ from (show a = key from z) ▸ ha)
  · rcases List.mem_append.mp he with he | he
    · exact h.2 e he
    · rw [List.mem_singleton.mp he]
      exact ⟨h0, h4⟩
/-- each pair of the new list is an old one or a new one -/
theorem wjR_mem {key : Int} {kt : Nat} {cn : Int} {ct : Nat} : ∀ {ps : List (Nat × E)} {z : Nat}, ∀ q ∈ (wjR key kt cn ct ps z).map tpD, q ∈ ps.map tpD ∨ q ∈ wjF key kt cn ct ps z
  | [], _, q, h => nomatch h
  | e :: r, z, q, h => by
    unfold wjR at h
    unfold wjF
    by_cases hk : (e.2.k == key) = true
    · rw [if_pos hk] at h ⊢
      rw [List.map_cons, List.mem_cons] at h
      rcases h with rfl | h
      · exact .inr List.mem_cons_self
      · rcases wjR_mem q h with h | h
        · exact .inl (List.mem_cons_of_mem _ h)
        · exact .inr (List.mem_cons_of_mem _ h)
    · rw [if_neg hk] at h ⊢
      rw [List.map_cons, List.mem_cons] at h
      rcases h with rfl | h
      · exact .inl List.mem_cons_self
      · rcases wjR_mem q h with h | h
        · exact .inl (List.mem_cons_of_mem _ h)
        · exact .inr h
theorem wjF_ge {key : Int} {kt : Nat} {cn : Int} {ct : Nat} : ∀ {ps : List (Nat × E)} {z : Nat}, ∀ q ∈ wjF key kt cn ct ps z, z ≤ q.1
  | [], _, q, h => nomatch h
  | e :: r, z, q, h => by
    unfold wjF at h
    by_cases hk : (e.2.k == key) = true
    · rw [if_pos hk, List.mem_cons] at h
      rcases h with rfl | h
      · exact Nat.le_refl _
      · exact Nat.le_of_succ_le (wjF_ge q h)
    · rw [if_neg hk] at h
      exact wjF_ge (z := z + 0) q h
theorem wjF_lt {key : Int} {kt : Nat} {cn : Int} {ct : Nat} : ∀ {ps : List (Nat × E)} {z : Nat}, ∀ q ∈ wjF key kt cn ct ps z, q.1 < z + (hvs key ps).length
  | [], _, q, h => nomatch h
  | e :: r, z, q, h => by
    unfold wjF at h
    unfold hvs
    by_cases hk : (e.2.k == key) = true
    · rw [if_pos hk, List.mem_cons] at h
      rw [List.filter_cons, if_pos hk, List.length_cons]
      rcases h with rfl | h
      · exact Nat.lt_add_of_pos_right (Nat.succ_pos _)
      · have := wjF_lt q h
        unfold hvs at this
        omega
    · rw [if_neg hk] at h
      rw [List.filter_cons, if_neg hk]
      exact wjF_lt (z := z + 0) q h
theorem same_len {es : List E} {ps : List (Nat × E)} (h : kvp ps = kve es) : ps.length = es.length := by
  have := congrArg List.length h
  simpa only [kvp, kve, List.length_map] using this
end Mine
set_option linter.all false
namespace Mine
open PySem PySem.W
variable {b c : Bool} {w : World}
theorem good4_len {es : List E} (h : Good 4 es) : es.length ≤ 4 := by
  obtain ⟨nd, hk⟩ := h
  have h1 := pigeon 4 (es.map (·.k)) nd fun k hk' => by
    obtain ⟨e, he, rfl⟩ := List.mem_map.mp hk'
    exact hk e he
  simpa using h1
/-- the Counter and the row of pairs beside it -/
structure Cur where
  d : Nat
  dd : Nat
  l : Nat
  ep : Nat
  lep : Nat
  es : List E
  ps : List (Nat × E)
structure AE where
  ta : Nat
  c : Cur
noncomputable def Cur.objs (G : Cur) : List (Nat × Obj) := [(G.d, dObj clsC (some G.dd) G.es G.ep), (G.dd, dObj clsD none [] 0), (G.l, lsObj (G.ps.map rfD) G.lep)] ++ G.ps.map tpD
noncomputable def AE.objs (a : AE) : List (Nat × Obj) := (a.ta, tupObj [.ref a.c.d, .ref a.c.l]) :: a.c.objs
/-- an address of the script's own objects -/
noncomputable def Adr (x : Nat) : Prop := 1134 ≤ x ∨ x = 1117 ∨ x = 1118 ∨ x = 1127
theorem Adr.ge {x : Nat} (h : Adr x) : 1113 ≤ x := by unfold Adr at h; omega
theorem Adr.ne {x : Nat} (h : Adr x) : x ≠ 1133 ∧ x ≠ 1113 ∧ x ≠ 1114 ∧ x ≠ 1116 ∧ x ≠ 1128 := by unfold Adr at h; omega
structure Cd (G : Cur) : Prop where
  same : kvp G.ps = kve G.es
  good : Good 4 G.es
  n1 : G.d ≠ G.dd
  n2 : G.d ≠ G.l
  n3 : G.l ≠ G.dd
  np : ∀ q ∈ G.ps.map tpD, q.1 ≠ G.d ∧ q.1 ≠ G.l ∧ q.1 ≠ G.dd
structure Inv (sz : Nat) (G : Cur) (as : List AE) : Prop where
  cd : Cd G
  lt : ∀ q ∈ G.objs, Adr q.1 ∧ q.1 < sz
  big : 1134 ≤ sz
  al : ∀ a ∈ as, Cd a.c ∧ ∀ q ∈ a.objs, Adr q.1 ∧ q.1 < sz ∧ q.1 ≠ G.d
theorem Cd.len {G : Cur} (h : Cd G) : G.es.length ≤ 4 := good4_len h.good
theorem Cd.plen {G : Cur} (h : Cd G) : G.ps.length ≤ 8 := by rw [same_len h.same]; exact Nat.le_trans h.len (by decide)
theorem Cd.len8 {G : Cur} (h : Cd G) : G.es.length ≤ 8 := Nat.le_trans h.len (by decide)
theorem Cd.lenz {G : Cur} (h : Cd G) : G.es.length ≤ sizeLine := Nat.le_trans h.len (by size_fits)
/-- the frame of the law: what stands behind its first seven entries -/
inductive Tl where
  | no
  | yes (u5 : Nat) (v5 : Value) (r : Bool)
noncomputable def slF (r : Bool) : Array (Option Value) := match r with | true => fsR | false => #[]
noncomputable def Tl.ex : Tl → List (Str × Nat × Value) | .no => [] | .yes u v _ => [(str "told", u, v)]
noncomputable def Tl.ep : Tl → Nat | .no => 7 | .yes _ _ _ => 8
noncomputable def Tl.sl : Tl → Array (Option Value) | .no => #[] | .yes _ _ r => slF r
inductive Fr where
  | N
  | S (u1 : Nat) (v1 : Value) (u2 : Nat) (v2 : Value) (u3 : Nat) (v3 : Value) (u4 : Nat) (v4 : Value) (tl : Tl)
noncomputable def Fr.obj (P : Params) (t1 t2 t3 l d : Nat) : Fr → Obj
  | .N => frG P [(str "aside", t1, .ref 1128), (str "state", t2, .ref l), (str "bag", t3, .ref d)] 3 #[]
  | .S u1 v1 u2 v2 u3 v3 u4 v4 tl => frG P ([(str "aside", t1, .ref 1128), (str "state", t2, .ref l), (str "bag", t3, .ref d), (str "x", u1, v1), (str "kind", u2, v2), (str "amount", u3, v3), (str "held", u4, v4)] ++ tl.ex) tl.ep tl.sl
noncomputable def asV (as : List AE) : List Value := as.map fun a => .ref a.ta
/-- where the loop stands -/
structure LS where
  n : Nat
  G : Cur
  fr : Fr
  cv : Option Value
  as : List AE
  aep : Nat
  sz : Nat
  tok : Nat
noncomputable def LS.all (S : LS) : List (Nat × Obj) := S.G.objs ++ S.as.flatMap AE.objs
noncomputable def LS.I (P : Params) (xs : List Value) (t1 t2 t3 : Nat) (S : LS) : List (Nat × Obj) :=
  [(1133, liObj 1113 S.n), (1113, lsObj xs 0), (1114, S.fr.obj P t1 t2 t3 S.G.l S.G.d), (1116, ceObj S.cv), (S.G.d, dObj clsC (some S.G.dd) S.G.es S.G.ep), (S.G.l, lsObj (S.G.ps.map rfD) S.G.lep), (1128, lsObj (asV S.as) S.aep), (S.G.dd, dObj clsD none [] 0)]
/-- the same slots behind the turn -/
noncomputable def LS.J (P : Params) (xs : List Value) (t1 t2 t3 : Nat) (S S' : LS) (es : List E) (ep : Nat) : List (Nat × Obj) :=
  [(1133, liObj 1113 (S.n + 1)), (1113, lsObj xs 0), (1114, S'.fr.obj P t1 t2 t3 S'.G.l S'.G.d), (1116, ceObj S'.cv), (S.G.d, dObj clsC (some S.G.dd) es ep), (S.G.l, lsObj (S.G.ps.map rfD) S.G.lep), (1128, lsObj (asV S'.as) S'.aep), (S.G.dd, dObj clsD none [] 0)]
structure LS.Ok (S : LS) : Prop where
  inv : Inv S.sz S.G S.as
  len : S.as.length ≤ S.n
  nps : S.fr = .N → S.G.ps = []
/-- one turn as an equation of the kernel -/
noncomputable def Turn (b c : Bool) (w : World) (I J PF NW : List (Nat × Obj)) (FF : List (List (Nat × Obj))) (sz tok sz' tok' : Nat) : Prop :=
  ∃ (N : Nat) (ops : List Op) (newi : List Nat), OpsOk (mdl tP (tW b c w)) (KK (tW b c w)) ops ∧
    ∀ (k : Result → Sem PySem.Fin) (g : Bool) (lv : List Value) (fb0 : List Stmt) (pos pos' : Pos) (kp : List Value) (ca1 : Args) (ps1 : Pos) (gens : List GenState),
      chk (tR tP (tW b c w) (KK (tW b c w)) [((.builtin "claim.caller" ca1), ps1)] N ops (mkT I) 8 sz gens tok [PF] (tD cLaw) cLaw pos' [.ret k none g lv (.func fb0 envL) pos kp] [] []) (turnsL 8 newi) =
      chk' (tR tP (tW b c w) (KK (tW b c w)) [((.builtin "claim.caller" ca1), ps1)] N ops (mkT I) 8 sz gens tok [PF] (tD cLaw) cLaw pos' [.ret k none g lv (.func fb0 envL) pos kp] [] [])
        (tD cLaw, cLaw, [.ret k none g lv (.func fb0 envL) pos kp], sz', tok', appG gens [], J.map some, NW.map some, FF)
/-- .. and in the heap -/
theorem Turn.heap {I J PF NW : List (Nat × Obj)} {FF : List (List (Nat × Obj))} {sz tok sz' tok' : Nat} (T : Turn b c w I J PF NW FF sz tok sz' tok') (hl : I.length = 8) (nd : (I.map (·.1)).Nodup) (hi : iniOk I .nil 0 = true) (hK' : ∀ q ∈ I, 1113 ≤ q.1) (hPF : ∀ q ∈ PF, q.1 ∉ I.map (·.1))
    {s : Shared} {k : Result → Sem PySem.Fin} {g : Bool} {lv : List Value} {fb0 : List Stmt} {pos pos' : Pos} {kp : List Value} {ca1 : Args} {ps1 : Pos} {st : List Frame} (hW : st.map Frame.where_ = [((.builtin "claim.caller" ca1), ps1)]) (hb : topHandled st = none)
    (hK : ∀ a o, KK (tW b c w) a = some o → s.heap.get? a = some o) (hI : ∀ q ∈ I, s.heap.get? q.1 = some q.2) (hP : ∀ q ∈ PF, s.heap.get? q.1 = some q.2) (hs : s.heap.objs.size = sz) (ht : s.toks = tok) :
    ∃ h' pos'', Comes (mdl tP (tW b c w)) s ⟨tD cLaw, cLaw, pos', .ret k none g lv (.func fb0 envL) pos kp :: st⟩ { s with heap := h', toks := tok' } ⟨tD cLaw, cLaw, pos'', .ret k none g lv (.func fb0 envL) pos kp :: st⟩ ∧ h'.objs.size = sz' ∧
      (∀ q ∈ J, h'.get? q.1 = some q.2) ∧ (∀ q ∈ NW, h'.get? q.1 = some q.2) ∧ (∀ l ∈ FF, ∀ q ∈ l, h'.get? q.1 = some q.2) ∧ ∀ x o, s.heap.get? x = some o → x ∉ I.map (·.1) → h'.get? x = some o := by
  obtain ⟨N, ops, newi, ok, e⟩ := T
  obtain ⟨h, ⟨gens⟩, d, toks, os⟩ := s
  replace ht : toks = tok := ht
  subst ht
  obtain ⟨out, h1, e1, C, c1, c2, c3, c4⟩ := go (d := d) (os := os) (bot := st) hW hb hK (fun q hq => KK_none (hK' q hq)) hI nd (fun l hl q hq => by
      rw [List.mem_singleton.mp hl] at hq
      exact ⟨hP q hq, hPF q hq⟩) hs hl.symm hi ok (e k g lv fb0 pos pos' kp ca1 ps1 gens)
  simp only [turnsL, Prod.mk.injEq, appG_eq, List.append_nil] at e1
  obtain ⟨e1, e2, e3, e4, e5, e6, e7, e8, e9⟩ := e1
  rw [tD_eq] at C e1
  rw [e1, e2, e3, e5, e6] at C
  refine ⟨h1, out.pos, ?_, c1.trans e4, fun q hq => ?_, fun q hq => ?_, fun l hl => c3 l (by rw [e9]; exact hl), c4⟩
  · rw [tD_eq]
    exact C
  · have : some q ∈ J.map some := List.mem_map.mpr ⟨q, hq, rfl⟩
    rw [← e7] at this
    obtain ⟨i, _, hi⟩ := List.mem_map.mp this
    exact c2 i q.1 q.2 hi
  · have : some q ∈ NW.map some := List.mem_map.mpr ⟨q, hq, rfl⟩
    rw [← e8] at this
    obtain ⟨i, _, hi⟩ := List.mem_map.mp this
    exact c2 i q.1 q.2 hi
section
variable {ps : List (Nat × E)} {key : Int}
theorem vHs {i0 i1 i2 i3 i4 j0 l s0 t lep kt aep : Nat} {o : Option (Nat × Value × Nat × Value)} {av : List Value} (h8 : ps.length ≤ 8) (hl : Adr (l + 1113)) (hls : l + 1113 < s0 + 1134) (hn : ∀ q ∈ ps.map tpD, Adr q.1 ∧ q.1 < s0 + 1134 ∧ q.1 ≠ l + 1113) (ho : heO ps t none = o) (hav : (hvs key ps).map (fun e => Value.int e.2.v e.2.u) = av) (haep : (hvs key ps).length = aep) :
    (sHs (tW b c w).params i0 i1 i2 i3 i4 (s0 + 1138) (l + 1113) (s0 + 1140) (s0 + 1139) lep kt j0 key ps o av aep (3 * ps.length) (2 * ps.length) (s0 + 1141)).Valid (mdl tP (tW b c w)) (KK (tW b c w)) (s0 + 1141) t := by
  have hn1 := hl.ne
  refine sHs_ok h8 ?_ ?_ _ _ (by omega) ?_ (fun q hq => ?_) (fun P i0 i1 i2 i3 i4 it M acc z => ?_)
  · simp only [List.nodup_cons, List.mem_cons, List.not_mem_nil, or_false, List.nodup_nil, not_or, not_false_eq_true, and_true]
    omega
  · exact all_cons (by omega) (all_cons (by omega) (all_cons (by omega) (all_cons (by omega) (all_cons (by omega) all_nil))))
  · exact all_cons (by omega) (all_cons (by omega) (all_cons (by omega) (all_cons (by omega) (all_cons (by omega) all_nil))))
  · obtain ⟨h1, h2, h3⟩ := hn q hq
    have := h1.ne
    have := h1.ge
    refine ⟨by omega, by omega, ?_⟩
    simp only [List.mem_cons, List.not_mem_nil, or_false, not_or]
    omega
  · rw [go_he, ho, hav, haep, List.nil_append, Nat.zero_add]
theorem vWo {i0 j0 l lep kt sz tok : Nat} {o : Option (Nat × Value)} (h8 : ps.length ≤ 8) (hl : 1113 ≤ l) (hls : l < sz) (hn : ∀ q ∈ ps.map tpD, 1113 ≤ q.1 ∧ q.1 < sz ∧ q.1 ≠ l) (ho : wiO ps (tok + 1) none = o) :
    (sWo (tW b c w).params i0 l lep kt j0 key ps o ((wos key ps).map rfD) (wos key ps).length 0 (2 * ps.length) sz).Valid (mdl tP (tW b c w)) (KK (tW b c w)) sz tok :=
  sWo_ok h8 (List.nodup_cons.mpr ⟨List.not_mem_nil, List.nodup_nil⟩) (all_cons hl all_nil) _ _ (by omega) (all_cons hls all_nil) hn fun P i0 i1 i2 i3 i4 it M acc L cl z => by
    rw [go_wo, ho, List.nil_append, Nat.zero_add]
theorem vWm {i0 j0 l lep kt ct sz tok : Nat} {cn : Int} {o : Option (Nat × Value)} {zs : List Value} (h8 : ps.length ≤ 8) (hl : 1113 ≤ l) (hls : l < sz) (hn : ∀ q ∈ ps.map tpD, 1113 ≤ q.1 ∧ q.1 < sz ∧ q.1 ≠ l) (hh : hvs key ps = []) (hzs : zs = ps.map rfD ++ [.ref (0 + (sz + 9))]) (ho : wiO ps (tok + 1) none = o) :
    (sWm (tW b c w).params i0 l lep kt ct j0 key cn ps o zs 0 (2 * ps.length) sz).Valid (mdl tP (tW b c w)) (KK (tW b c w)) sz tok :=
  sWm_ok h8 (List.nodup_cons.mpr ⟨List.not_mem_nil, List.nodup_nil⟩) (all_cons hl all_nil) _ _ (by omega) (all_cons hls all_nil) hn hzs fun P i0 i1 i2 i3 i4 it M acc L cl z => by
    rw [go_wi, ho, hh]; rfl
theorem vWh {i0 j0 l lep kt ct sz tok : Nat} {cn : Int} {u1 u2 : Nat × Value} {p : Nat × E} (h8 : ps.length ≤ 8) (hl : 1113 ≤ l) (hls : l < sz) (hn : ∀ q ∈ ps.map tpD, 1113 ≤ q.1 ∧ q.1 < sz ∧ q.1 ≠ l) (hh : hvs key ps = [p]) (ho1 : wiO ps (tok + 1) none = some u1) (ho2 : wiO ps (tok + 1 + 2 * ps.length) none = some u2) :
    (sWh (tW b c w).params i0 l lep kt ct j0 p.1 key cn ps u1 u2 ((wjR key kt cn ct ps (0 + (sz + 12))).map rfD) ps.length 0 (2 * ps.length) 1 (2 * ps.length) (wjF key kt cn ct ps (0 + (sz + 12))) sz).Valid (mdl tP (tW b c w)) (KK (tW b c w)) sz tok :=
  sWh_ok h8 (List.nodup_cons.mpr ⟨List.not_mem_nil, List.nodup_nil⟩) (all_cons hl all_nil) _ _ (by omega) (all_cons hls all_nil) hn (fun q hq => wjF_ge q hq) (fun P i0 i1 i2 i3 i4 it M acc L cl z => by
    rw [go_wi, ho1, hh]; rfl) fun P i0 i1 i2 i3 i4 i5 it M acc L ck cq => by
    rw [go_wj, ho2, hh, List.nil_append]; simp only [Nat.zero_add, List.length_singleton]
end
end Mine
set_option linter.all false
namespace Mine
open PySem PySem.W PySem.Calls PyProof.Rows PySem.Spec
variable {b c : Bool} {w : World}
noncomputable def tab0 : Obj := ⟨.none, none, .fields ⟨[]⟩, #[]⟩
noncomputable def oA : List Op := [.k 3, .s 3, .s 3, .k 22, .s 6, .k 0, .s 6, .k 7, .s 8, .s 8, .s 8, .s 8, .s 8, .s 8, .k 5, .s 8, .k 3, .s 9, .s 9, .k 0, .s 9, .k 0, .s 6, .s 6, .k 0, .s 9, .s 9, .s 9, .s 9, .s 9, .s 9, .s 9, .s 9, .k 0, .s 9, .s 9, .s 9, .s 9, .k 2, .s 6, .k 0, .s 10, .k 0, .s 10, .s 6, .s 6, .k 0, .s 8, .s 6, .k 6, .s 6, .k 0, .s 6, .k 5, .s 6, .s 6, .k 0, .s 5, .k 1, .s 8, .s 8, .s 7, .s 7, .s 12, .s 7, .s 7, .s 7, .s 12, .s 11, .k 1, .s 11, .k 2, .s 14, .s 14, .s 14, .s 14, .s 14, .s 14, .k 0, .s 14, .s 14, .s 13, .s 13, .k 0, .s 13, .k 0, .s 13, .s 13, .s 17, .s 17, .s 17, .k 0, .s 17, .s 18, .s 18, .k 0, .s 18, .s 18, .s 18, .s 17, .s 18, .s 18, .s 18, .k 0, .s 18, .s 18, .s 18, .s 17, .s 18, .s 18, .s 18, .k 0, .s 18, .s 18, .s 18, .s 17, .s 18, .s 18, .s 18, .k 0, .s 18, .s 18, .s 18, .s 17, .s 18, .s 18, .s 20, .s 2, .s 2, .s 2, .s 2, .s 2, .s 2, .s 3, .s 0, .s 0, .k 0, .s 0, .s 21, .k 0, .s 21, .k 0, .s 21, .s 21, .s 21, .s 0]
noncomputable def IA (xs : List Value) : List (Nat × Obj) := [(1113, lsObj xs 0), (1109, tab0)]
noncomputable def stOf (r : Option Out) : List Frame := match r with | some o => o.st | none => []
noncomputable def runA (b c : Bool) (w : World) (xs : List Value) (t : Nat) : Option Out := tR tP (tW b c w) (KK (tW b c w)) [] 332 oA (mkT (IA xs)) 2 1114 [] t [] (callStub PySem.Challenge.rw_io0001_04.name [.ref 1113]).cur (.builtin "claim.caller" {}) default [] [] []
noncomputable def stA (b c : Bool) (w : World) (xs : List Value) (t : Nat) : List Frame := stOf (runA b c w xs t)
noncomputable def endA (o : Out) := (o.cur, o.code, o.st, o.sz, o.toks, o.gens, [0, 1, 2, 3, 4, 5, 6, 15, 16, 21].map o.T.get)
theorem tA (xs : List Value) (t : Nat) : chk (runA b c w xs t) endA = chk' (runA b c w xs t) (tD cLaw, cLaw, stA b c w xs t, 1134, t + 13, [], [some (1113, lsObj xs 0), some (1109, tab0), some (1114, Fr.N.obj (tW b c w).params (t + 10) (t + 11) (t + 12) 1127 1118), some (1115, ceObj (some (.ref 1113))), some (1116, ceObj none), some (1117, dObj clsD none [] 0), some (1118, dObj clsC (some 1117) [] 0), some (1127, lsObj [] 0), some (1128, lsObj [] 0), some (1133, liObj 1113 0)]) := by
  cases b <;> kernel_rfl
noncomputable def fk : Frame → Result → Sem PySem.Fin
  | .ret k .. => k
  | _ => fun _ => .unsupported ""
noncomputable def fg : Frame → Bool
  | .ret _ _ g .. => g
  | _ => false
noncomputable def fl : Frame → List Value
  | .ret _ _ _ l .. => l
  | _ => []
noncomputable def fb : Frame → List Stmt
  | .ret _ _ _ _ (.func b _) .. => b
  | _ => []
noncomputable def fa : Frame → Args
  | .ret _ _ _ _ (.builtin _ a) .. => a
  | _ => ⟨[], []⟩
noncomputable def fp : Frame → Pos
  | .ret _ _ _ _ _ p _ => p
  | _ => default
noncomputable def fkp : Frame → List Value
  | .ret _ _ _ _ _ _ k => k
  | _ => []
noncomputable def fN (l : List Frame) (i : Nat) : Frame := match l[i]? with | some f => f | none => .ret (fun _ => .unsupported "") none false [] (.func [] envL) default []
noncomputable def shA (st : List Frame) : List Frame := [.ret (fk (fN st 0)) none (fg (fN st 0)) (fl (fN st 0)) (.func (fb (fN st 0)) envL) (fp (fN st 0)) (fkp (fN st 0)), .ret (fk (fN st 1)) none (fg (fN st 1)) (fl (fN st 1)) (.builtin "claim.caller" (fa (fN st 1))) (fp (fN st 1)) (fkp (fN st 1))]
theorem stA_eq (xs : List Value) (t : Nat) : stA b c w xs t = shA (stA b c w xs t) := by
  cases b <;> kernel_rfl
end Mine
set_option linter.all false
namespace Mine
open PySem PySem.W PySem.Calls PyProof.Rows PySem.Spec
variable {b c : Bool} {w : World}
noncomputable def cLaw2 (it : Nat) : Code := sFor (tstm (sBody (fnS 48)) 3) (.ref it) envL
noncomputable def itemsO (d : Nat) : Obj := ⟨.type "dict_items", none, .fields ⟨[.ref d]⟩, #[]⟩
noncomputable def oB (xs as : List Value) (n s0 aep : Nat) : List Op := [.s 0, .k 0, .s 0, .a (fun _ sz _ => sLiEnd 0 1 1133 1113 n xs 0 sz), .s 6, .s 2, .s 4, .s 4, .s 4, .s 4, .s 2, .s 2, .k 0, .s 4, .a (fun _ _ _ => sApp 4 1128 as (.ref (s0 + 1136)) aep), .s 2, .s 4, .s 4, .k 0, .s 4, .s 8, .k 0, .s 8, .k 0, .s 8, .s 8, .s 8, .s 4]
/-- the law's frame from its first three entries -/
noncomputable def fr3 (P : Params) (t1 t2 t3 l d : Nat) (ex : List (Str × Nat × Value)) (fep : Nat) (sl : Array (Option Value)) : Obj := frG P ([(str "aside", t1, .ref 1128), (str "state", t2, .ref l), (str "bag", t3, .ref d)] ++ ex) fep sl
noncomputable def IB (P : Params) (xs as : List Value) (n t1 t2 t3 l d aep : Nat) (ex : List (Str × Nat × Value)) (fep : Nat) (sl : Array (Option Value)) : List (Nat × Obj) :=
  [(1133, liObj 1113 n), (1113, lsObj xs 0), (1114, fr3 P t1 t2 t3 l d ex fep sl), (1115, ceObj (some (.ref 1113))), (1128, lsObj as aep)]
noncomputable def runB (b c : Bool) (w : World) (xs as : List Value) (t0 n t1 t2 t3 l d aep : Nat) (ex : List (Str × Nat × Value)) (fep : Nat) (sl : Array (Option Value)) (s0 t : Nat) (pos' : Pos) : Option Out :=
  tR tP (tW b c w) (KK (tW b c w)) [] 42 (oB xs as n s0 aep) (mkT (IB (tW b c w).params xs as n t1 t2 t3 l d aep ex fep sl)) 5 (s0 + 1134) [] t [] (tD cLaw) cLaw pos' (stA b c w xs t0) [] []
noncomputable def stB (b c : Bool) (w : World) (xs as : List Value) (t0 n t1 t2 t3 l d aep : Nat) (ex : List (Str × Nat × Value)) (fep : Nat) (sl : Array (Option Value)) (s0 t : Nat) (pos' : Pos) : List Frame := stOf (runB b c w xs as t0 n t1 t2 t3 l d aep ex fep sl s0 t pos')
noncomputable def endB (o : Out) := (o.cur, o.code, o.st, o.sz, o.toks, o.gens, [1, 2, 3, 4, 7, 8].map o.T.get)
theorem tB (xs as : List Value) (t0 n t1 t2 t3 l d aep : Nat) (ex : List (Str × Nat × Value)) (fep : Nat) (sl : Array (Option Value)) (s0 t : Nat) (pos' : Pos) : chk (runB b c w xs as t0 n t1 t2 t3 l d aep ex fep sl s0 t pos') endB = chk' (runB b c w xs as t0 n t1 t2 t3 l d aep ex fep sl s0 t pos')
    (tD (cLaw2 (s0 + 1137)), cLaw2 (s0 + 1137), stB b c w xs as t0 n t1 t2 t3 l d aep ex fep sl s0 t pos', s0 + 1138, t, [], [some (1113, lsObj xs 0), some (1114, fr3 (tW b c w).params t1 t2 t3 l d ex fep sl), some (1115, ceObj (some (.ref 1113))), some (1128, lsObj (as ++ [.ref (s0 + 1136)]) (aep + 1)), some (s0 + 1136, tupObj [.ref d, .ref l]), some (s0 + 1137, liObj 1128 0)]) := by
  cases b <;> kernel_rfl
theorem stB_eq (xs as : List Value) (t0 n t1 t2 t3 l d aep : Nat) (ex : List (Str × Nat × Value)) (fep : Nat) (sl : Array (Option Value)) (s0 t : Nat) (pos' : Pos) : stB b c w xs as t0 n t1 t2 t3 l d aep ex fep sl s0 t pos' = shA (stB b c w xs as t0 n t1 t2 t3 l d aep ex fep sl s0 t pos') := by
  cases b <;> kernel_rfl
end Mine
set_option linter.all false
namespace Mine
open PySem PySem.W
/-- an exception leaves a lambda's frame: behind the first look at the stack -/
noncomputable def lvX (x : Value) (f : Addr) (fr : List Env) : Sem PySem.Fin := do
  ret (← ((do
    (do setField x 1 (← EntryCells.newEntry .none (← (do
      match ← frameObject fr with
      | some f => pure f
      | none => unsupported "internal:frame-not-on-the-stack" : Sem Value)) .none (rawInt f) .none (← entryPlaceOf f false)) : Sem Unit)
    setFlight x none : Sem Unit).bind fun _ => .raise x))
/-- behind the second look -/
noncomputable def lvZ (x : Value) (f : Addr) (fo : Value) (r : Option (Code × Pos)) (cs : List Value) : Sem PySem.Fin := do
  ret (← ((do
    (do setField x 1 (← EntryCells.newEntry .none fo .none (rawInt f) .none (← (do
      match r with
      | some (_, pos) => pure (if pos.line == 0 then [] else [rawInt pos.line, rawInt pos.endLine, rawInt pos.col, rawInt pos.endCol] ++ cs)
      | none => pure [] : Sem (List Value)))) : Sem Unit)
    setFlight x none : Sem Unit).bind fun _ => .raise x))
noncomputable def lvFr (acts : List (Code × Pos)) : List Env := (acts.filter (·.1.isFrame)).filterMap (·.1.env?)
noncomputable def lvDr (fr : Option Addr) (l : List Env) : List Env := l.dropWhile (·.frame != fr)
noncomputable def lvFd (f : Addr) (acts : List (Code × Pos)) : Option (Code × Pos) := acts.find? fun (c, _) => c.env?.bind (·.frame) == some f
noncomputable def lvCl (f : Addr) (acts : List (Code × Pos)) : List Value := EntryCells.cells f false acts
noncomputable def lvCu (acts : List (Code × Pos)) : List Value :=
  let ids := (acts.tail.filterMap fun (c, _) => match c with | .builtin id _ => some id | _ => none).eraseDups
  [if (EntryCells.make ids).length > sizeLine then .none else .str (EntryCells.make ids) 0, .bool false]
end Mine
lay_quick Mine.lvX
lay_quick Mine.lvZ
lay_quick Mine.lvFr
lay_quick Mine.lvDr
lay_quick Mine.lvFd
lay_quick Mine.lvCl
lay_quick Mine.lvCu
set_option linter.all false
namespace Mine
open PySem PySem.W
noncomputable abbrev tLvFr := PySem.W.Fast.tw9457906124532712231
noncomputable abbrev tLvFd := PySem.W.Fast.tw1604390342784004238
noncomputable abbrev tLvCl := PySem.W.Fast.tw15843284335322440713
noncomputable abbrev tLvCu := PySem.W.Fast.tw10253124428149573055
theorem tLvFr_eq : tLvFr = lvFr := PySem.W.Fast.te9457906124532712231.symm
theorem tLvFd_eq : tLvFd = lvFd := PySem.W.Fast.te1604390342784004238.symm
theorem tLvCl_eq : tLvCl = lvCl := PySem.W.Fast.te15843284335322440713.symm
theorem tLvCu_eq : tLvCu = lvCu := PySem.W.Fast.te10253124428149573055.symm
theorem Mid.same {M : Model} {K : Nat → Option Obj} {D : Mid} {sz tok : Nat} (h : D.X = D.Y) (hp : D.post = []) : D.Valid M K sz tok := by
  intro s code pos st hK hpre hpo hs ht hb
  refine ⟨s.heap, ?_, hs, (by rw [hp]; exact fun q hq => nomatch hq), fun b o h _ => h⟩
  rw [h]
  exact .refl _ _
end Mine
set_option linter.all false
namespace Mine
open PySem PySem.W
/-- an exception leaves a function's frame: behind the first look at the stack -/
noncomputable def lfX (x : Value) (f : Addr) (fr : List Env) : Sem PySem.Fin := do
  match ← ((do
    (do setField x 1 (← EntryCells.newEntry .none (← (do
      match ← frameObject fr with
      | some f => pure f
      | none => unsupported "internal:frame-not-on-the-stack" : Sem Value)) .none (rawInt f) .none (← entryPlaceOf f false)) : Sem Unit)
    setFlight x none : Sem Unit).bind fun _ => (.raise x : Sem Flow)) with
  | .ret v => ret v
  | _ => ret .none
/-- behind the second look -/
noncomputable def lfZ (x : Value) (f : Addr) (fo : Value) (r : Option (Code × Pos)) (cs : List Value) : Sem PySem.Fin := do
  match ← ((do
    (do setField x 1 (← EntryCells.newEntry .none fo .none (rawInt f) .none (← (do
      match r with
      | some (_, pos) => pure (if pos.line == 0 then [] else [rawInt pos.line, rawInt pos.endLine, rawInt pos.col, rawInt pos.endCol] ++ cs)
      | none => pure [] : Sem (List Value)))) : Sem Unit)
    setFlight x none : Sem Unit).bind fun _ => (.raise x : Sem Flow)) with
  | .ret v => ret v
  | _ => ret .none
/-- an exception with a traceback leaves a lambda's frame -/
noncomputable def leX (h x : Value) (f : Addr) (fr : List Env) : Sem PySem.Fin := do
  ret (← ((do
    (do setField x 1 (← EntryCells.newEntry h (← (do
      match ← frameObject fr with
      | some f => pure f
      | none => unsupported "internal:frame-not-on-the-stack" : Sem Value)) .none (rawInt f) .none (← entryPlaceOf f true)) : Sem Unit)
    setFlight x none : Sem Unit).bind fun _ => .raise x))
noncomputable def leZ (h x : Value) (f : Addr) (fo : Value) (r : Option (Code × Pos)) (cs : List Value) : Sem PySem.Fin := do
  ret (← ((do
    (do setField x 1 (← EntryCells.newEntry h fo .none (rawInt f) .none (← (do
      match r with
      | some (_, pos) => pure (if pos.line == 0 then [] else [rawInt pos.line, rawInt pos.endLine, rawInt pos.col, rawInt pos.endCol] ++ cs)
      | none => pure [] : Sem (List Value)))) : Sem Unit)
    setFlight x none : Sem Unit).bind fun _ => .raise x))
noncomputable def leCl (f : Addr) (acts : List (Code × Pos)) : List Value := EntryCells.cells f true acts
noncomputable def leCu (acts : List (Code × Pos)) : List Value :=
  let ids := (acts.tail.filterMap fun (c, _) => match c with | .builtin id _ => some id | _ => none).eraseDups
  [if (EntryCells.make ids).length > sizeLine then .none else .str (EntryCells.make ids) 0, .bool true]
end Mine
lay_quick Mine.lfX
lay_quick Mine.lfZ
lay_quick Mine.leX
lay_quick Mine.leZ
lay_quick Mine.leCl
lay_quick Mine.leCu
set_option linter.all false
namespace Mine
open PySem PySem.W
noncomputable abbrev tLeX := PySem.W.Fast.tw2223670343102185887
noncomputable abbrev tLeZ := PySem.W.Fast.tw10426349999906543270
noncomputable abbrev tLfX := PySem.W.Fast.tw9412447511483002188
noncomputable abbrev tLfZ := PySem.W.Fast.tw15630091255220996763
noncomputable abbrev tLeCl := PySem.W.Fast.tw11931551131769880824
noncomputable abbrev tLeCu := PySem.W.Fast.tw13856186922782050095
theorem tLeCl_eq : tLeCl = leCl := PySem.W.Fast.te11931551131769880824.symm
theorem tLeCu_eq : tLeCu = leCu := PySem.W.Fast.te13856186922782050095.symm
/-- an exception without a traceback leaves a function: the first look at the stack, the second -/
noncomputable def mLfA (x : Value) : List (Code × Pos) → Nat → Nat → Mid := fun acts _ _ => match acts with
  | (.func e env, p) :: r => (match env.frame with
    | some f => { X := tLfX x f (lvDr env.frame (tLvFr ((.func e env, p) :: r))), Y := tLfX x f (tLvFr ((.func e env, p) :: r)) }
    | none => { X := .unsupported "", Y := .unsupported "" })
  | _ => { X := .unsupported "", Y := .unsupported "" }
noncomputable def mLfB (x fo : Value) : List (Code × Pos) → Nat → Nat → Mid := fun acts _ _ => match acts with
  | (.func e env, p) :: r => (match env.frame with
    | some f => { X := tLfZ x f fo (tLvFd f ((.func e env, p) :: r)) (tLvCl f ((.func e env, p) :: r)), Y := tLfZ x f fo (some (.func e env, p)) (tLvCu ((.func e env, p) :: r)) }
    | none => { X := .unsupported "", Y := .unsupported "" })
  | _ => { X := .unsupported "", Y := .unsupported "" }
/-- .. with a traceback, a lambda -/
noncomputable def mLeA (h x : Value) : List (Code × Pos) → Nat → Nat → Mid := fun acts _ _ => match acts with
  | (.expr e env, p) :: r => (match env.frame with
    | some f => { X := tLeX h x f (lvDr env.frame (tLvFr ((.expr e env, p) :: r))), Y := tLeX h x f (tLvFr ((.expr e env, p) :: r)) }
    | none => { X := .unsupported "", Y := .unsupported "" })
  | _ => { X := .unsupported "", Y := .unsupported "" }
noncomputable def mLeB (h x fo : Value) : List (Code × Pos) → Nat → Nat → Mid := fun acts _ _ => match acts with
  | (.expr e env, p) :: r => (match env.frame with
    | some f => { X := tLeZ h x f fo (tLvFd f ((.expr e env, p) :: r)) (tLeCl f ((.expr e env, p) :: r)), Y := tLeZ h x f fo (some (.expr e env, p)) (tLeCu ((.expr e env, p) :: r)) }
    | none => { X := .unsupported "", Y := .unsupported "" })
  | _ => { X := .unsupported "", Y := .unsupported "" }
theorem dr_self {c : Code} {env : Env} {p : Pos} {r : List (Code × Pos)} {f : Addr} (hc : c.isFrame = true) (he : c.env? = some env) (h : env.frame = some f) : lvDr (some f) (tLvFr ((c, p) :: r)) = tLvFr ((c, p) :: r) := by
  rw [tLvFr_eq]
  have : lvFr ((c, p) :: r) = env :: lvFr r := by
    unfold lvFr
    rw [List.filter_cons_of_pos (by exact hc), List.filterMap_cons, he]
  rw [this]
  unfold lvDr
  rw [List.dropWhile_cons_of_neg (by rw [h]; simp)]
theorem fd_self {c : Code} {env : Env} {p : Pos} {r : List (Code × Pos)} {f : Addr} (he : c.env? = some env) (h : env.frame = some f) : tLvFd f ((c, p) :: r) = some (c, p) := by
  rw [tLvFd_eq]
  unfold lvFd
  rw [List.find?_cons_of_pos (by show (c.env?.bind (·.frame) == some f) = true; rw [he, Option.bind_some, h]; simp)]
theorem cl_drop {c : Code} {env : Env} {p : Pos} {r : List (Code × Pos)} {f : Addr} (hc : c.isFrame = true) (he : c.env? = some env) (h : env.frame = some f) : (((c, p) :: r).dropWhile fun (c, _) => !(c.isFrame && c.env?.bind (·.frame) == some f)) = (c, p) :: r := by
  rw [List.dropWhile_cons_of_neg]
  show ¬ ((!(c.isFrame && c.env?.bind (·.frame) == some f)) = true)
  rw [hc, he, Option.bind_some, h]
  simp
theorem lv_self {c : Code} {env : Env} {p : Pos} {r : List (Code × Pos)} {f : Addr} (hc : c.isFrame = true) (he : c.env? = some env) (h : env.frame = some f) : tLvCl f ((c, p) :: r) = tLvCu ((c, p) :: r) := by
  rw [tLvCl_eq, tLvCu_eq]
  unfold lvCl lvCu EntryCells.cells EntryCells.beneath
  rw [cl_drop hc he h]
  rfl
theorem le_self {c : Code} {env : Env} {p : Pos} {r : List (Code × Pos)} {f : Addr} (hc : c.isFrame = true) (he : c.env? = some env) (h : env.frame = some f) : tLeCl f ((c, p) :: r) = tLeCu ((c, p) :: r) := by
  rw [tLeCl_eq, tLeCu_eq]
  unfold leCl leCu EntryCells.cells EntryCells.beneath
  rw [cl_drop hc he h]
  rfl
section
variable {M : Model} {K : Nat → Option Obj} {x h fo : Value}
theorem mLfA_ok (acts : List (Code × Pos)) (sz tok : Nat) : (mLfA x acts sz tok).Valid M K sz tok := by
  refine Mid.same ?_ ?_
  · unfold mLfA
    split
    · rename_i e env p r
      cases h : env.frame with
      | none => rfl
      | some f => exact congrArg (tLfX x f) (dr_self rfl rfl h)
    · rfl
  · unfold mLfA
    split
    · split <;> rfl
    · rfl
theorem mLfB_ok (acts : List (Code × Pos)) (sz tok : Nat) : (mLfB x fo acts sz tok).Valid M K sz tok := by
  refine Mid.same ?_ ?_
  · unfold mLfB
    split
    · rename_i e env p r
      cases h : env.frame with
      | none => rfl
      | some f =>
        dsimp only
        rw [fd_self rfl h, lv_self rfl rfl h]
    · rfl
  · unfold mLfB
    split
    · split <;> rfl
    · rfl
theorem mLeA_ok (acts : List (Code × Pos)) (sz tok : Nat) : (mLeA h x acts sz tok).Valid M K sz tok := by
  refine Mid.same ?_ ?_
  · unfold mLeA
    split
    · rename_i e env p r
      cases h' : env.frame with
      | none => rfl
      | some f => exact congrArg (tLeX h x f) (dr_self rfl rfl h')
    · rfl
  · unfold mLeA
    split
    · split <;> rfl
    · rfl
theorem mLeB_ok (acts : List (Code × Pos)) (sz tok : Nat) : (mLeB h x fo acts sz tok).Valid M K sz tok := by
  refine Mid.same ?_ ?_
  · unfold mLeB
    split
    · rename_i e env p r
      cases h' : env.frame with
      | none => rfl
      | some f =>
        dsimp only
        rw [fd_self rfl h', le_self rfl rfl h']
    · rfl
  · unfold mLeB
    split
    · split <;> rfl
    · rfl
end
end Mine
namespace Mine
open PySem PySem.W
/-- a summary from a run that turns the tokens alone, and then the library's rules -/
theorem Summ.ofPreT {p : Program} {w : World} {K : Nat → Option Obj} {S : Summ} {sz tok : Nat} (dt0 : Nat) (ini : List (Nat × Obj)) (X : Sem Fin) (n : Nat) (ops : List Op) (N : Nat)
    (hg : S.newg = []) (hfa : S.facts = []) (hini : S.pre.map (·.2) = ini) (hN : ini.length = N) (nd : (ini.map (·.1)).Nodup) (hK' : ∀ q ∈ ini, K q.1 = none) (hi : iniOk ini .nil 0 = true)
    (ok : OpsOk (mdl p w) K ops)
    (e : ∀ (k : Result → Sem Fin) (g : Bool) (l : List Value) (code : Code) (pos pos' : Pos) (kp : List Value) (W : List (Code × Pos)) (gens : List GenState), S.shape ((code, pos) :: W) = true →
      chk (tR p w K W n ops (mkT ini) N sz gens tok [] (tD S.code) S.code pos' [.ret k none g l code pos kp] [] []) (mids N) =
      chk' (tR p w K W n ops (mkT ini) N sz gens tok [] (tD S.code) S.code pos' [.ret k none g l code pos kp] [] [])
        (X, S.code, [.ret k none g l code pos kp], sz, tok + dt0, gens, ini.map some))
    (H : ∀ s : Shared, (∀ q ∈ S.pre, s.heap.get? q.2.1 = some q.2.2) → s.heap.objs.size = sz → s.toks = tok + dt0 → ∃ h' : Heap,
      (∀ A : Around, A.handled = none → wpAny (model p w) A X (fun fin s' => ∃ f, fin = .done f ∧ S.res = .ok f ∧ s' = { s with heap := h', toks := tok + S.dtok }) (fun e s' => S.res = .error e ∧ s' = { s with heap := h', toks := tok + S.dtok }) s) ∧
      h'.objs.size = S.dsz.getD 0 + sz + S.dl ∧ (∀ q ∈ S.post, h'.get? q.2.1 = some q.2.2) ∧ (∀ q ∈ S.new, h'.get? (sz + q.1) = some q.2) ∧
      ∀ b o, s.heap.get? b = some o → (∀ q ∈ S.post, q.2.1 ≠ b) → h'.get? b = some o) : S.Valid (mdl p w) K sz tok := by
  intro s k g l code pos pos' kp st hK hpre hpo hne1 hne' hs ht hb hsh
  obtain ⟨h, ⟨gens⟩, d, toks, os⟩ := s
  replace ht : toks = tok := ht
  subst ht hini hN
  obtain ⟨out, h1, e1, C, c1, c2, c3, c4⟩ := go (d := d) (os := os) (bot := st) rfl hb hK hK' (fun q hq => by
      obtain ⟨x, hx, rfl⟩ := List.mem_map.mp hq
      exact hpre x hx) nd (fun x hx => absurd hx (List.not_mem_nil)) hs rfl hi ok (e k g l code pos pos' kp (st.map Frame.where_) gens hsh)
  simp only [mids, Prod.mk.injEq] at e1
  obtain ⟨e1, e2, e3, e4, e5, e6, e7⟩ := e1
  rw [tD_eq] at C
  rw [e1, e2, e3, e5, e6] at C
  have hini : ∀ q ∈ S.pre, h1.get? q.2.1 = some q.2.2 := fun q hq => by
    have : some q.2 ∈ (S.pre.map (·.2)).map some := List.mem_map.mpr ⟨q.2, List.mem_map.mpr ⟨q, hq, rfl⟩, rfl⟩
    rw [← e7] at this
    obtain ⟨i, _, hi⟩ := List.mem_map.mp this
    exact c2 i q.2.1 q.2.2 hi
  have keep : ∀ b o, h.get? b = some o → h1.get? b = some o := fun b o hb' => by
    by_cases hm : b ∈ (S.pre.map (·.2)).map (·.1)
    · obtain ⟨x, hx, rfl⟩ := List.mem_map.mp hm
      obtain ⟨q, hq, rfl⟩ := List.mem_map.mp hx
      have := hpre q hq
      rw [show (Shared.heap ⟨h, ⟨gens⟩, d, toks, os⟩).get? q.2.1 = h.get? q.2.1 from rfl, hb'] at this
      cases this
      exact hini q hq
    · exact c4 b o hb' hm
  obtain ⟨h', w1, w2, w3, w4, w5⟩ := H ⟨h1, ⟨gens⟩, d, toks + dt0, os⟩ hini (c1.trans e4) rfl
  have C2 := comes_tree (c := S.code) (code := code) (k := k) (g := g) (l := l) (kp := kp) (pos := pos) (pos' := out.pos) hb w1
  refine ⟨h', ?_, w2, w3, w4, (by rw [hfa]; exact fun _ z => nomatch z), fun b o hb' hn => w5 b o (keep b o hb') hn⟩
  rw [hg]
  have C3 := C.trans C2
  simpa using C3
/-- the end of len -/
noncomputable def lenX (n : Int) : Sem PySem.Fin := do
  if n < 0 then rule "len.negative"; raiseError "ValueError" "__len__() should return >= 0"
  if n ≥ 2 ^ 63 then
    rule "len.overflow"; raiseError "OverflowError" "cannot fit 'int' into an index-sized integer"
  retInt n
end Mine
lay_quick Mine.lenX
namespace Mine
open PySem PySem.W
noncomputable abbrev tLenX := PySem.W.Fast.tw6974716749724759948
theorem tLenX_eq : tLenX = lenX := PySem.W.Fast.te6974716749724759948.symm
variable {b c : Bool} {w : World}
/-- len of a list -/
noncomputable def sLenL (i l : Nat) (xs : List Value) (tok : Nat) : Summ :=
  { code := .builtin "len" ⟨[.ref l], []⟩, res := .ok (.ret (.int (xs.length : Int) (tok + 1))), pre := [(i, l, lsObj xs 0)], dtok := 2 }
theorem lenX_any {p : Program} {A : Around} {EE : Value → Shared → Prop} {s : Shared} {n : Nat} {Q : PySem.Fin → Shared → Prop} (hn : n ≤ 64) (h : Q (Fin.done (.ret (.int (n : Int) s.toks))) { s with toks := s.toks + 1 }) : wpAny (model p w) A (lenX n) Q EE s := by
  unfold lenX
  rw [if_neg (by omega), if_neg (by omega)]
  exact wpAny_bind (wpAny_mkInt (wpAny_pure h))
theorem sLenL_run (d : Nat) (xs : List Value) (sz tok : Nat) (k : Result → Sem PySem.Fin) (g : Bool) (l : List Value) (code : Code) (pos pos' : Pos) (kp : List Value) (W : List (Code × Pos)) (gens : List GenState) :
    chk (tR tP (tW b c w) (KK (tW b c w)) W 8 [.s 0, .k 0, .s 0, .s 0] (mkT [(d + 1113, lsObj xs 0)]) 1 sz gens tok [] (tD (.builtin "len" ⟨[.ref (d + 1113)], []⟩)) (.builtin "len" ⟨[.ref (d + 1113)], []⟩) pos' [.ret k none g l code pos kp] [] []) (mids 1) =
    chk' (tR tP (tW b c w) (KK (tW b c w)) W 8 [.s 0, .k 0, .s 0, .s 0] (mkT [(d + 1113, lsObj xs 0)]) 1 sz gens tok [] (tD (.builtin "len" ⟨[.ref (d + 1113)], []⟩)) (.builtin "len" ⟨[.ref (d + 1113)], []⟩) pos' [.ret k none g l code pos kp] [] [])
      (tLenX (xs.length : Int), .builtin "len" ⟨[.ref (d + 1113)], []⟩, [.ret k none g l code pos kp], sz, tok + 1, gens, [(d + 1113, lsObj xs 0)].map some) := by
  kernel_rfl
theorem sLenL_ok {i d : Nat} {xs : List Value} (h8 : xs.length ≤ 64) (hd : 1113 ≤ d) (sz tok : Nat) : (sLenL i d xs tok).Valid (mdl tP (tW b c w)) (KK (tW b c w)) sz tok := by
  obtain ⟨d, rfl⟩ : ∃ d', d = d' + 1113 := ⟨d - 1113, by omega⟩
  refine Summ.ofPreT 1 [(d + 1113, lsObj xs 0)] (tLenX (xs.length : Int)) 8 [.s 0, .k 0, .s 0, .s 0] 1 rfl rfl rfl rfl (by simp) (fun q hq => by rw [List.mem_singleton.mp hq]; exact KK_none hd) rfl trivial
    (fun k g l code pos pos' kp W gens _ => sLenL_run d xs sz tok k g l code pos pos' kp W gens) fun s hpre hs ht => ⟨s.heap, fun A hA => ?_, by rw [hs]; exact (Nat.zero_add _).symm, (fun q hq => nomatch hq), (fun q hq => nomatch hq), fun b o hb _ => hb⟩
  rw [tLenX_eq]
  refine lenX_any h8 ⟨_, rfl, ?_, ?_⟩
  · rw [ht]; rfl
  · rw [ht]; rfl
end Mine
set_option linter.all false
namespace Mine
open PySem PySem.W
variable {b c : Bool} {w : World}
noncomputable def oDN (xs as : List Value) (it n aep s0 : Nat) : List Op := [.s 0, .k 0, .s 0, .a (fun _ sz _ => sLiEnd 0 4 (it + 1113) 1128 n as aep sz), .s 7, .k 0, .s 5, .s 5, .s 5, .s 5, .k 3, .s 5, .s 5, .s 5, .s 5, .k 2, .s 24, .s 24, .k 0, .s 24, .s 25, .k 0, .s 25, .k 0, .s 25, .s 25, .s 25, .s 24, .s 25, .s 25, .s 2, .s 2, .s 2, .s 15, .k 0, .s 15, .s 14, .k 15, .s 3, .s 27, .k 1, .s 27, .k 2, .s 28, .s 28, .s 28, .s 28, .s 28, .s 28, .k 4, .s 30, .s 30, .k 0, .s 30, .s 30, .s 30, .s 30, .s 30, .s 30, .s 30, .s 30, .s 30, .s 30, .s 30, .q (fun acts sz tok => mLfA (.ref (s0 + 1158)) acts sz tok), .s 28, .s 28, .s 26, .s 26, .s 2, .s 2, .q (fun acts sz tok => mLfB (.ref (s0 + 1158)) (.ref (s0 + 1156)) acts sz tok), .s 30, .s 30, .s 30, .s 32, .s 32, .s 30, .s 32, .s 32, .s 32, .q (fun acts sz tok => mLeA (.ref (s0 + 1160)) (.ref (s0 + 1158)) acts sz tok), .s 26, .q (fun acts sz tok => mLeB (.ref (s0 + 1160)) (.ref (s0 + 1158)) (.ref (s0 + 1154)) acts sz tok), .s 30, .s 30, .s 30, .s 33, .s 33, .s 30, .s 33, .s 33, .s 33, .s 2, .s 30, .s 30, .s 30, .s 34, .s 34, .k 2, .s 30, .k 0, .s 30, .s 34, .s 34, .s 25, .k 0, .s 25, .s 25, .s 25, .s 24, .s 25, .s 25, .s 2, .s 2, .s 2, .s 23, .k 0, .s 23, .s 22, .k 15, .s 3, .k 1, .s 3, .k 0, .a (fun _ _ tok => sLenL 1 1113 xs tok), .s 36, .k 1, .s 36, .k 2, .s 37, .s 37, .s 37, .s 37, .s 37, .s 37, .k 4, .s 39, .s 39, .k 0, .s 39, .s 39, .s 39, .s 39, .s 39, .s 39, .s 39, .s 39, .s 39, .s 39, .s 39, .q (fun acts sz tok => mLfA (.ref (s0 + 1167)) acts sz tok), .s 37, .s 37, .s 35, .s 35, .s 2, .q (fun acts sz tok => mLfB (.ref (s0 + 1167)) (.ref (s0 + 1165)) acts sz tok), .s 39, .s 39, .s 39, .s 41, .s 41, .s 39, .s 41, .s 41, .s 41, .q (fun acts sz tok => mLeA (.ref (s0 + 1169)) (.ref (s0 + 1167)) acts sz tok), .s 35, .q (fun acts sz tok => mLeB (.ref (s0 + 1169)) (.ref (s0 + 1167)) (.ref (s0 + 1163)) acts sz tok), .s 39, .s 39, .s 39, .s 42, .s 42, .s 39, .s 42, .s 42, .s 42, .s 2, .s 39, .s 39, .s 39, .s 43, .s 43, .k 2, .s 39, .k 0, .s 39, .s 43, .s 43, .s 25, .k 0, .s 25, .s 25, .s 25, .s 24, .s 25, .s 25, .s 45]
noncomputable def oDR (xs as : List Value) (it n aep s0 : Nat) : List Op := [.s 0, .k 0, .s 0, .a (fun _ sz _ => sLiEnd 0 4 (it + 1113) 1128 n as aep sz), .s 7, .k 0, .s 5, .s 5, .s 5, .s 5, .k 3, .s 5, .s 5, .s 5, .s 5, .k 2, .s 24, .s 24, .k 0, .s 24, .s 25, .k 0, .s 25, .k 0, .s 25, .s 25, .s 25, .s 24, .s 25, .s 25, .s 2, .s 2, .s 2, .s 15, .k 0, .s 15, .s 14, .k 15, .s 3, .s 27, .k 1, .s 27, .k 2, .s 28, .s 28, .s 28, .s 28, .s 28, .s 28, .k 4, .s 30, .s 30, .k 0, .s 30, .s 30, .s 30, .s 30, .s 30, .s 30, .s 30, .s 30, .s 30, .s 30, .s 30, .q (fun acts sz tok => mLfA (.ref (s0 + 1158)) acts sz tok), .s 28, .s 28, .s 26, .s 26, .s 2, .q (fun acts sz tok => mLfB (.ref (s0 + 1158)) (.ref (s0 + 1156)) acts sz tok), .s 30, .s 30, .s 30, .s 32, .s 32, .s 30, .s 32, .s 32, .s 32, .q (fun acts sz tok => mLeA (.ref (s0 + 1160)) (.ref (s0 + 1158)) acts sz tok), .s 26, .q (fun acts sz tok => mLeB (.ref (s0 + 1160)) (.ref (s0 + 1158)) (.ref (s0 + 1154)) acts sz tok), .s 30, .s 30, .s 30, .s 33, .s 33, .s 30, .s 33, .s 33, .s 33, .s 2, .s 30, .s 30, .s 30, .s 34, .s 34, .k 2, .s 30, .k 0, .s 30, .s 34, .s 34, .s 25, .k 0, .s 25, .s 25, .s 25, .s 24, .s 25, .s 25, .s 2, .s 2, .s 2, .s 23, .k 0, .s 23, .s 22, .k 15, .s 3, .k 1, .s 3, .k 0, .a (fun _ _ tok => sLenL 1 1113 xs tok), .s 36, .k 1, .s 36, .k 2, .s 37, .s 37, .s 37, .s 37, .s 37, .s 37, .k 4, .s 39, .s 39, .k 0, .s 39, .s 39, .s 39, .s 39, .s 39, .s 39, .s 39, .s 39, .s 39, .s 39, .s 39, .q (fun acts sz tok => mLfA (.ref (s0 + 1167)) acts sz tok), .s 37, .s 37, .s 35, .s 35, .s 2, .q (fun acts sz tok => mLfB (.ref (s0 + 1167)) (.ref (s0 + 1165)) acts sz tok), .s 39, .s 39, .s 39, .s 41, .s 41, .s 39, .s 41, .s 41, .s 41, .q (fun acts sz tok => mLeA (.ref (s0 + 1169)) (.ref (s0 + 1167)) acts sz tok), .s 35, .q (fun acts sz tok => mLeB (.ref (s0 + 1169)) (.ref (s0 + 1167)) (.ref (s0 + 1163)) acts sz tok), .s 39, .s 39, .s 39, .s 42, .s 42, .s 39, .s 42, .s 42, .s 42, .s 2, .s 39, .s 39, .s 39, .s 43, .s 43, .k 2, .s 39, .k 0, .s 39, .s 43, .s 43, .s 25, .k 0, .s 25, .s 25, .s 25, .s 24, .s 25, .s 25, .s 45]
noncomputable def ID (xs as : List Value) (it n aep : Nat) (fr : Obj) : List (Nat × Obj) := [(it + 1113, liObj 1128 n), (1113, lsObj xs 0), (1114, fr), (1115, ceObj (some (.ref 1113))), (1128, lsObj as aep), (1109, tab0)]
noncomputable def endD (o : Out) := (o.cur, o.code, o.st, o.gens, [1, 5].map o.T.get)
noncomputable def tabE (s0 : Nat) : Obj := ⟨.none, none, .fields ⟨[.int 738 0, .int 0 0, .ref (s0 + 1142), .int 739 0, .int 0 0, .ref (s0 + 1150)]⟩, #[]⟩
noncomputable def qD (b c : Bool) (w : World) (N : Nat) (ops : List Op) (xs as : List Value) (it n aep s0 : Nat) (fr : Obj) (as0 : List Value) (t0 n0 t1 t2 t3 l0 d0 aep0 : Nat) (ex0 : List (Str × Nat × Value)) (fep0 : Nat) (sl0 : Array (Option Value)) (s1 t' : Nat) (pos0 : Pos) (t : Nat) (pos' : Pos) : Prop :=
  chk (tR tP (tW b c w) (KK (tW b c w)) [] N ops (mkT (ID xs as it n aep fr)) 6 (s0 + 1134) [] t [] (tD (cLaw2 (it + 1113))) (cLaw2 (it + 1113)) pos' (stB b c w xs as0 t0 n0 t1 t2 t3 l0 d0 aep0 ex0 fep0 sl0 s1 t' pos0) [] []) endD =
  chk' (tR tP (tW b c w) (KK (tW b c w)) [] N ops (mkT (ID xs as it n aep fr)) 6 (s0 + 1134) [] t [] (tD (cLaw2 (it + 1113))) (cLaw2 (it + 1113)) pos' (stB b c w xs as0 t0 n0 t1 t2 t3 l0 d0 aep0 ex0 fep0 sl0 s1 t' pos0) [] [])
    (.pure (.done (.ret (.bool true))), .builtin "claim.caller" {}, [], [], [some (1113, lsObj xs 0), some (1109, tabE s0)])
theorem rDN (xs as : List Value) (it n aep s0 : Nat) (as0 : List Value) (t0 n0 t1 t2 t3 l0 d0 aep0 : Nat) (ex0 : List (Str × Nat × Value)) (fep0 : Nat) (sl0 : Array (Option Value)) (s1 t' : Nat) (pos0 : Pos) (u1 u2 u3 u4 u5 u6 u7 : Nat) (v1 v2 v3 v4 v5 v6 v7 : Value) (t : Nat) (pos' : Pos) : qD b c w 449 (oDN xs as it n aep s0) xs as it n aep s0 (frG (tW b c w).params [(str "aside", t1, .ref 1128), (str "state", t2, .ref l0), (str "bag", t3, .ref d0), (str "one", u6, v6), (str "due", u7, v7)] 5 #[]) as0 t0 n0 t1 t2 t3 l0 d0 aep0 ex0 fep0 sl0 s1 t' pos0 t pos' := by
  show chk _ _ = chk' _ _
  cases b <;> kernel_rfl
theorem rDE (xs as : List Value) (it n aep s0 : Nat) (as0 : List Value) (t0 n0 t1 t2 t3 l0 d0 aep0 : Nat) (ex0 : List (Str × Nat × Value)) (fep0 : Nat) (sl0 : Array (Option Value)) (s1 t' : Nat) (pos0 : Pos) (u1 u2 u3 u4 u5 u6 u7 : Nat) (v1 v2 v3 v4 v5 v6 v7 : Value) (t : Nat) (pos' : Pos) : qD b c w 449 (oDN xs as it n aep s0) xs as it n aep s0 (frG (tW b c w).params [(str "aside", t1, .ref 1128), (str "state", t2, .ref l0), (str "bag", t3, .ref d0), (str "x", u1, v1), (str "kind", u2, v2), (str "amount", u3, v3), (str "held", u4, v4), (str "one", u6, v6), (str "due", u7, v7)] 9 #[]) as0 t0 n0 t1 t2 t3 l0 d0 aep0 ex0 fep0 sl0 s1 t' pos0 t pos' := by
  show chk _ _ = chk' _ _
  cases b <;> kernel_rfl
theorem rDT (xs as : List Value) (it n aep s0 : Nat) (as0 : List Value) (t0 n0 t1 t2 t3 l0 d0 aep0 : Nat) (ex0 : List (Str × Nat × Value)) (fep0 : Nat) (sl0 : Array (Option Value)) (s1 t' : Nat) (pos0 : Pos) (u1 u2 u3 u4 u5 u6 u7 : Nat) (v1 v2 v3 v4 v5 v6 v7 : Value) (t : Nat) (pos' : Pos) : qD b c w 449 (oDN xs as it n aep s0) xs as it n aep s0 (frG (tW b c w).params [(str "aside", t1, .ref 1128), (str "state", t2, .ref l0), (str "bag", t3, .ref d0), (str "x", u1, v1), (str "kind", u2, v2), (str "amount", u3, v3), (str "held", u4, v4), (str "told", u5, v5), (str "one", u6, v6), (str "due", u7, v7)] 10 #[]) as0 t0 n0 t1 t2 t3 l0 d0 aep0 ex0 fep0 sl0 s1 t' pos0 t pos' := by
  show chk _ _ = chk' _ _
  cases b <;> kernel_rfl
theorem rDR (xs as : List Value) (it n aep s0 : Nat) (as0 : List Value) (t0 n0 t1 t2 t3 l0 d0 aep0 : Nat) (ex0 : List (Str × Nat × Value)) (fep0 : Nat) (sl0 : Array (Option Value)) (s1 t' : Nat) (pos0 : Pos) (u1 u2 u3 u4 u5 u6 u7 : Nat) (v1 v2 v3 v4 v5 v6 v7 : Value) (t : Nat) (pos' : Pos) : qD b c w 447 (oDR xs as it n aep s0) xs as it n aep s0 (frG (tW b c w).params [(str "aside", t1, .ref 1128), (str "state", t2, .ref l0), (str "bag", t3, .ref d0), (str "x", u1, v1), (str "kind", u2, v2), (str "amount", u3, v3), (str "held", u4, v4), (str "told", u5, v5), (str "one", u6, v6), (str "due", u7, v7)] 10 fsR) as0 t0 n0 t1 t2 t3 l0 d0 aep0 ex0 fep0 sl0 s1 t' pos0 t pos' := by
  show chk _ _ = chk' _ _
  cases b <;> kernel_rfl
end Mine
set_option linter.all false
namespace Mine
open PySem PySem.W
variable {b c : Bool} {w : World}
noncomputable def oC (as : List Value) (it n aep ta d dd l ep lep : Nat) (es : List E) (ps : List (Nat × E)) (s0 : Nat) : List Op := [.s 0, .k 0, .s 0, .a (fun _ _ _ => sLiNext 0 1 (it + 1113) 1128 n as aep (.ref (ta + 1113))), .s 0, .s 3, .s 3, .s 3, .k 0, .s 3, .s 7, .s 7, .k 0, .s 7, .s 7, .s 7, .s 3, .s 7, .s 7, .s 7, .k 0, .s 7, .s 7, .s 7, .s 3, .s 7, .s 7, .s 7, .k 0, .s 7, .s 7, .s 7, .s 3, .s 7, .s 7, .s 9, .s 2, .s 2, .s 2, .s 2, .k 1, .s 2, .s 4, .k 2, .s 4, .k 2, .s 4, .k 2, .s 4, .s 6, .k 0, .s 4, .k 0, .s 4, .s 4, .k 2, .s 11, .s 11, .k 0, .s 11, .s 11, .s 11, .s 11, .s 11, .m (fun _ _ => mExt 10 (s0 + 1138) (s0 + 1137) .none (itemsO (d + 1113)) true), .s 10, .s 10, .k 0, .s 10, .s 10, .s 4, .s 4, .s 12, .s 10, .s 10, .s 10, .s 11, .s 11, .s 11, .s 11, .s 11, .s 11, .a (fun _ sz _ => sItems 11 12 4 (s0 + 1138) (s0 + 1139) (d + 1113) 2 clsC (some (dd + 1113)) es ep .none .none sz), .s 2, .s 11, .s 5, .s 11, .k 0, .s 11, .a (fun _ _ _ => sLsCmp "list.__ne__" 11 5 (s0 + 1138) (l + 1113) (refs (s0 + 1140) es) (ps.map rfD) (2 + es.length) lep [(0, tupF (s0 + 1140) es), (1, ps.map tpD)] false)]
noncomputable def slC (as : List Value) (it n aep ta d dd l ep lep : Nat) (es : List E) (ps : List (Nat × E)) (fr : Obj) : List (Nat × Obj) :=
  [(it + 1113, liObj 1128 n), (1128, lsObj as aep), (1114, fr), (ta + 1113, tupObj [.ref (d + 1113), .ref (l + 1113)]), (d + 1113, dObj clsC (some (dd + 1113)) es ep), (l + 1113, lsObj (ps.map rfD) lep), (dd + 1113, dObj clsD none [] 0)]
noncomputable def qC (b c : Bool) (w : World) (as : List Value) (it n aep ta d dd l ep lep : Nat) (es : List E) (ps : List (Nat × E)) (s0 : Nat) (fr fr' : Obj) (t : Nat) (k : Result → Sem PySem.Fin) (g : Bool) (lv : List Value) (fb0 : List Stmt) (pos pos' : Pos) (kp : List Value) (ca1 : Args) (ps1 : Pos) (gens : List GenState) : Prop :=
  chk (tR tP (tW b c w) (KK (tW b c w)) [((.builtin "claim.caller" ca1), ps1)] 155 (oC as it n aep ta d dd l ep lep es ps s0) (mkT (slC as it n aep ta d dd l ep lep es ps fr)) 7 (s0 + 1134) gens t [ps.map tpD] (tD (cLaw2 (it + 1113))) (cLaw2 (it + 1113)) pos' [.ret k none g lv (.func fb0 envL) pos kp] [] []) (turns 7) =
  chk' (tR tP (tW b c w) (KK (tW b c w)) [((.builtin "claim.caller" ca1), ps1)] 155 (oC as it n aep ta d dd l ep lep es ps s0) (mkT (slC as it n aep ta d dd l ep lep es ps fr)) 7 (s0 + 1134) gens t [ps.map tpD] (tD (cLaw2 (it + 1113))) (cLaw2 (it + 1113)) pos' [.ret k none g lv (.func fb0 envL) pos kp] [] [])
    (tD (cLaw2 (it + 1113)), cLaw2 (it + 1113), [.ret k none g lv (.func fb0 envL) pos kp], es.length + (s0 + 1142), t + 2, appG gens [], (slC as it (n + 1) aep ta d dd l ep lep es ps fr').map some)
theorem rCN0 (as : List Value) (it n aep ta d dd l ep lep : Nat) (es : List E) (ps : List (Nat × E)) (s0 : Nat) (t1 t2 t3 l0 d0 u1 u2 u3 u4 u5 u6 u7 : Nat) (v1 v2 v3 v4 v5 v6 v7 : Value) (sl : Array (Option Value)) (t : Nat) (k : Result → Sem PySem.Fin) (g : Bool) (lv : List Value) (fb0 : List Stmt) (pos pos' : Pos) (kp : List Value) (ca1 : Args) (ps1 : Pos) (gens : List GenState) : qC b c w as it n aep ta d dd l ep lep es ps s0 (frG (tW b c w).params [(str "aside", t1, .ref 1128), (str "state", t2, .ref l0), (str "bag", t3, .ref d0)] 3 sl) (frG (tW b c w).params [(str "aside", t1, .ref 1128), (str "state", t2, .ref l0), (str "bag", t3, .ref d0), (str "one", t, (.ref (d + 1113))), (str "due", (t + 1), (.ref (l + 1113)))] 5 sl) t k g lv fb0 pos pos' kp ca1 ps1 gens := by
  show chk _ _ = chk' _ _
  cases b <;> kernel_rfl
theorem rCN1 (as : List Value) (it n aep ta d dd l ep lep : Nat) (es : List E) (ps : List (Nat × E)) (s0 : Nat) (t1 t2 t3 l0 d0 u1 u2 u3 u4 u5 u6 u7 : Nat) (v1 v2 v3 v4 v5 v6 v7 : Value) (sl : Array (Option Value)) (t : Nat) (k : Result → Sem PySem.Fin) (g : Bool) (lv : List Value) (fb0 : List Stmt) (pos pos' : Pos) (kp : List Value) (ca1 : Args) (ps1 : Pos) (gens : List GenState) : qC b c w as it n aep ta d dd l ep lep es ps s0 (frG (tW b c w).params [(str "aside", t1, .ref 1128), (str "state", t2, .ref l0), (str "bag", t3, .ref d0), (str "one", u6, v6), (str "due", u7, v7)] 5 sl) (frG (tW b c w).params [(str "aside", t1, .ref 1128), (str "state", t2, .ref l0), (str "bag", t3, .ref d0), (str "one", u6, (.ref (d + 1113))), (str "due", u7, (.ref (l + 1113)))] 5 sl) t k g lv fb0 pos pos' kp ca1 ps1 gens := by
  show chk _ _ = chk' _ _
  cases b <;> kernel_rfl
theorem rCE0 (as : List Value) (it n aep ta d dd l ep lep : Nat) (es : List E) (ps : List (Nat × E)) (s0 : Nat) (t1 t2 t3 l0 d0 u1 u2 u3 u4 u5 u6 u7 : Nat) (v1 v2 v3 v4 v5 v6 v7 : Value) (sl : Array (Option Value)) (t : Nat) (k : Result → Sem PySem.Fin) (g : Bool) (lv : List Value) (fb0 : List Stmt) (pos pos' : Pos) (kp : List Value) (ca1 : Args) (ps1 : Pos) (gens : List GenState) : qC b c w as it n aep ta d dd l ep lep es ps s0 (frG (tW b c w).params [(str "aside", t1, .ref 1128), (str "state", t2, .ref l0), (str "bag", t3, .ref d0), (str "x", u1, v1), (str "kind", u2, v2), (str "amount", u3, v3), (str "held", u4, v4)] 7 sl) (frG (tW b c w).params [(str "aside", t1, .ref 1128), (str "state", t2, .ref l0), (str "bag", t3, .ref d0), (str "x", u1, v1), (str "kind", u2, v2), (str "amount", u3, v3), (str "held", u4, v4), (str "one", t, (.ref (d + 1113))), (str "due", (t + 1), (.ref (l + 1113)))] 9 sl) t k g lv fb0 pos pos' kp ca1 ps1 gens := by
  show chk _ _ = chk' _ _
  cases b <;> kernel_rfl
theorem rCE1 (as : List Value) (it n aep ta d dd l ep lep : Nat) (es : List E) (ps : List (Nat × E)) (s0 : Nat) (t1 t2 t3 l0 d0 u1 u2 u3 u4 u5 u6 u7 : Nat) (v1 v2 v3 v4 v5 v6 v7 : Value) (sl : Array (Option Value)) (t : Nat) (k : Result → Sem PySem.Fin) (g : Bool) (lv : List Value) (fb0 : List Stmt) (pos pos' : Pos) (kp : List Value) (ca1 : Args) (ps1 : Pos) (gens : List GenState) : qC b c w as it n aep ta d dd l ep lep es ps s0 (frG (tW b c w).params [(str "aside", t1, .ref 1128), (str "state", t2, .ref l0), (str "bag", t3, .ref d0), (str "x", u1, v1), (str "kind", u2, v2), (str "amount", u3, v3), (str "held", u4, v4), (str "one", u6, v6), (str "due", u7, v7)] 9 sl) (frG (tW b c w).params [(str "aside", t1, .ref 1128), (str "state", t2, .ref l0), (str "bag", t3, .ref d0), (str "x", u1, v1), (str "kind", u2, v2), (str "amount", u3, v3), (str "held", u4, v4), (str "one", u6, (.ref (d + 1113))), (str "due", u7, (.ref (l + 1113)))] 9 sl) t k g lv fb0 pos pos' kp ca1 ps1 gens := by
  show chk _ _ = chk' _ _
  cases b <;> kernel_rfl
theorem rCT0 (as : List Value) (it n aep ta d dd l ep lep : Nat) (es : List E) (ps : List (Nat × E)) (s0 : Nat) (t1 t2 t3 l0 d0 u1 u2 u3 u4 u5 u6 u7 : Nat) (v1 v2 v3 v4 v5 v6 v7 : Value) (sl : Array (Option Value)) (t : Nat) (k : Result → Sem PySem.Fin) (g : Bool) (lv : List Value) (fb0 : List Stmt) (pos pos' : Pos) (kp : List Value) (ca1 : Args) (ps1 : Pos) (gens : List GenState) : qC b c w as it n aep ta d dd l ep lep es ps s0 (frG (tW b c w).params [(str "aside", t1, .ref 1128), (str "state", t2, .ref l0), (str "bag", t3, .ref d0), (str "x", u1, v1), (str "kind", u2, v2), (str "amount", u3, v3), (str "held", u4, v4), (str "told", u5, v5)] 8 sl) (frG (tW b c w).params [(str "aside", t1, .ref 1128), (str "state", t2, .ref l0), (str "bag", t3, .ref d0), (str "x", u1, v1), (str "kind", u2, v2), (str "amount", u3, v3), (str "held", u4, v4), (str "told", u5, v5), (str "one", t, (.ref (d + 1113))), (str "due", (t + 1), (.ref (l + 1113)))] 10 sl) t k g lv fb0 pos pos' kp ca1 ps1 gens := by
  show chk _ _ = chk' _ _
  cases b <;> kernel_rfl
theorem rCT1 (as : List Value) (it n aep ta d dd l ep lep : Nat) (es : List E) (ps : List (Nat × E)) (s0 : Nat) (t1 t2 t3 l0 d0 u1 u2 u3 u4 u5 u6 u7 : Nat) (v1 v2 v3 v4 v5 v6 v7 : Value) (sl : Array (Option Value)) (t : Nat) (k : Result → Sem PySem.Fin) (g : Bool) (lv : List Value) (fb0 : List Stmt) (pos pos' : Pos) (kp : List Value) (ca1 : Args) (ps1 : Pos) (gens : List GenState) : qC b c w as it n aep ta d dd l ep lep es ps s0 (frG (tW b c w).params [(str "aside", t1, .ref 1128), (str "state", t2, .ref l0), (str "bag", t3, .ref d0), (str "x", u1, v1), (str "kind", u2, v2), (str "amount", u3, v3), (str "held", u4, v4), (str "told", u5, v5), (str "one", u6, v6), (str "due", u7, v7)] 10 sl) (frG (tW b c w).params [(str "aside", t1, .ref 1128), (str "state", t2, .ref l0), (str "bag", t3, .ref d0), (str "x", u1, v1), (str "kind", u2, v2), (str "amount", u3, v3), (str "held", u4, v4), (str "told", u5, v5), (str "one", u6, (.ref (d + 1113))), (str "due", u7, (.ref (l + 1113)))] 10 sl) t k g lv fb0 pos pos' kp ca1 ps1 gens := by
  show chk _ _ = chk' _ _
  cases b <;> kernel_rfl
end Mine
set_option linter.all false
namespace Mine
open PySem PySem.W
variable {b c : Bool} {w : World}
noncomputable def oT0h (P : Params) (xs as : List Value) (n t1 t2 t3 d l dd ep lep aep : Nat) (es : List E) (ps : List (Nat × E)) (x : Int) (xt : Nat) (cv : Option Value) (o : Nat × Value × Nat × Value) (dz dt : Nat) (u1 u2 u3 u4 u5 fep : Nat) (v1 v2 v3 v4 v5 : Value) (ex : List (Str × Nat × Value)) (sl : Array (Option Value)) (v v' : Int) (u u' a1 : Nat) (w1 w2 : Nat × Value) (av : List Value) (aep2 dz1 dt1 dz2 dt2 : Nat) (FJ : List (Nat × Obj)) (s0 t : Nat) : List Op := [.s 0, .k 0, .s 0, .a (fun _ _ _ => sLiNext 0 1 1133 1113 n xs 0 (.int x xt)), .s 2, .s 2, .s 2, .k 0, .s 2, .k 1, .s 2, .k 0, .s 8, .s 8, .s 8, .k 0, .s 8, .s 9, .s 9, .k 0, .s 9, .s 9, .s 9, .s 8, .s 9, .s 9, .s 9, .k 0, .s 9, .s 9, .s 9, .s 8, .s 9, .s 9, .s 9, .k 0, .s 9, .s 9, .s 9, .s 8, .s 9, .s 9, .s 9, .k 0, .s 9, .s 9, .s 9, .s 8, .s 9, .s 9, .s 11, .s 2, .s 2, .s 3, .s 3, .s 2, .s 2, .s 2, .s 5, .s 5, .k 0, .s 5, .s 12, .u (fun _ _ _ => (sHs P 12 5 14 3 13 (s0 + 1138) (l + 1113) (s0 + 1140) (s0 + 1139) lep (t + 6) 0 ((x.fdiv 5).fmod 4) ps (some o) [.int v' u'] 1 dz dt (s0 + 1141)).at (s0 + 1141) (t + 11)), .s 2, .s 2, .s 14, .s 14, .s 14, .s 14, .s 14, .s 14, .s 2, .k 0, .a (fun cc _ _ => sCmp "int.__eq__" (x.fmod 5) 0 true cc), .s 2, .s 3, .s 4, .k 0, .s 4, .k 3, .s 4, .k 0, .a (fun cc _ _ => sGH (dd + 1113) 4 (d + 1113) es ep ((x.fdiv 5).fmod 4) (argTok cc 1) v u), .s 2, .k 0, .s 4, .k 0, .s 4, .k 3, .s 4, .k 0, .a (fun cc _ _ => sSet clsC (some (dd + 1113)) 4 (d + 1113) es ep ((x.fdiv 5).fmod 4) (argTok cc 1) (v + x.fdiv 20) (argTok cc 2)), .k 0, .s 2, .s 3, .k 1, .s 2, .k 0, .s 13, .s 13, .k 0, .s 13, .s 15, .a (fun _ _ tok => sSum1 15 16 13 (dz + (s0 + 1143)) (dz + (s0 + 1144)) (s0 + 1139) 1 v' u' (t + 11 + dt + 5) tok), .s 2, .k 1, .u (fun _ _ _ => (sWh P 5 (l + 1113) lep (t + 6) (t + 11 + dt + 7) 1 a1 ((x.fdiv 5).fmod 4) (0 + v' + x.fdiv 20) ps w1 w2 av aep2 dz1 dt1 dz2 dt2 FJ (dz + (s0 + 1147))).at (dz + (s0 + 1147)) (t + 11 + dt + 8)), .s 2, .s 2]
noncomputable def iT0h (P : Params) (xs as : List Value) (n t1 t2 t3 d l dd ep lep aep : Nat) (es : List E) (ps : List (Nat × E)) (x : Int) (xt : Nat) (cv : Option Value) (o : Nat × Value × Nat × Value) (dz dt : Nat) (u1 u2 u3 u4 u5 fep : Nat) (v1 v2 v3 v4 v5 : Value) (ex : List (Str × Nat × Value)) (sl : Array (Option Value)) (v v' : Int) (u u' a1 : Nat) (w1 w2 : Nat × Value) (av : List Value) (aep2 dz1 dt1 dz2 dt2 : Nat) (FJ : List (Nat × Obj)) (s0 t : Nat) : List (Nat × Obj) := [(1133, liObj 1113 n), (1113, lsObj xs 0), (1114, frG P ([(str "aside", t1, .ref 1128), (str "state", t2, .ref (l + 1113)), (str "bag", t3, .ref (d + 1113)), (str "x", u1, v1), (str "kind", u2, v2), (str "amount", u3, v3), (str "held", u4, v4)] ++ ex) fep sl), (1116, ceObj cv), (d + 1113, dObj clsC (some (dd + 1113)) es ep), (l + 1113, lsObj (ps.map rfD) lep), (1128, lsObj as aep), (dd + 1113, dObj clsD none [] 0)]
noncomputable def jT0h (P : Params) (xs as : List Value) (n t1 t2 t3 d l dd ep lep aep : Nat) (es : List E) (ps : List (Nat × E)) (x : Int) (xt : Nat) (cv : Option Value) (o : Nat × Value × Nat × Value) (dz dt : Nat) (u1 u2 u3 u4 u5 fep : Nat) (v1 v2 v3 v4 v5 : Value) (ex : List (Str × Nat × Value)) (sl : Array (Option Value)) (v v' : Int) (u u' a1 : Nat) (w1 w2 : Nat × Value) (av : List Value) (aep2 dz1 dt1 dz2 dt2 : Nat) (FJ : List (Nat × Obj)) (s0 t : Nat) : List (Nat × Obj) := [(1133, liObj 1113 (n + 1)), (1113, lsObj xs 0), (1114, frG P ([(str "aside", t1, .ref 1128), (str "state", t2, .ref (dz1 + (dz + (s0 + 1157)))), (str "bag", t3, .ref (d + 1113)), (str "x", u1, .int x xt), (str "kind", u2, .int (x.fmod 5) (t + 2)), (str "amount", u3, .int (x.fdiv 20) (t + 8)), (str "held", u4, .ref (s0 + 1139))] ++ ex) fep sl), (1116, ceObj (some (.int ((x.fdiv 5).fmod 4) (t + 6)))), (d + 1113, dObj clsC (some (dd + 1113)) (esSet es ((x.fdiv 5).fmod 4) (t + 6) (v + x.fdiv 20) (t + 11 + dt + 3)) (match esFind es ((x.fdiv 5).fmod 4) with | some _ => ep | none => ep + 1)), (l + 1113, lsObj (ps.map rfD) lep), (1128, lsObj as aep), (dd + 1113, dObj clsD none [] 0)]
noncomputable def nT0h (xs as : List Value) (n t1 t2 t3 d l dd ep lep aep : Nat) (es : List E) (ps : List (Nat × E)) (x : Int) (xt : Nat) (cv : Option Value) (o : Nat × Value × Nat × Value) (dz dt : Nat) (u1 u2 u3 u4 u5 fep : Nat) (v1 v2 v3 v4 v5 : Value) (ex : List (Str × Nat × Value)) (sl : Array (Option Value)) (v v' : Int) (u u' a1 : Nat) (w1 w2 : Nat × Value) (av : List Value) (aep2 dz1 dt1 dz2 dt2 : Nat) (FJ : List (Nat × Obj)) (s0 t : Nat) : List (Nat × Obj) := [((dz + (s0 + 1147)) + (dz1 + 10), lsObj av aep2)]
theorem rT0h (xs as : List Value) (n t1 t2 t3 d l dd ep lep aep : Nat) (es : List E) (ps : List (Nat × E)) (x : Int) (xt : Nat) (cv : Option Value) (o : Nat × Value × Nat × Value) (dz dt : Nat) (u1 u2 u3 u4 u5 fep : Nat) (v1 v2 v3 v4 v5 : Value) (ex : List (Str × Nat × Value)) (sl : Array (Option Value)) (v v' : Int) (u u' a1 : Nat) (w1 w2 : Nat × Value) (av : List Value) (aep2 dz1 dt1 dz2 dt2 : Nat) (FJ : List (Nat × Obj)) (s0 t : Nat) (k : Result → Sem PySem.Fin) (g : Bool) (lv : List Value) (fb0 : List Stmt) (pos pos' : Pos) (kp : List Value) (ca1 : Args) (ps1 : Pos) (gens : List GenState) : chk (tR tP (tW b c w) (KK (tW b c w)) [((.builtin "claim.caller" ca1), ps1)] 244 (oT0h (tW b c w).params xs as n t1 t2 t3 d l dd ep lep aep es ps x xt cv o dz dt u1 u2 u3 u4 u5 fep v1 v2 v3 v4 v5 ex sl v v' u u' a1 w1 w2 av aep2 dz1 dt1 dz2 dt2 FJ s0 t) (mkT (iT0h (tW b c w).params xs as n t1 t2 t3 d l dd ep lep aep es ps x xt cv o dz dt u1 u2 u3 u4 u5 fep v1 v2 v3 v4 v5 ex sl v v' u u' a1 w1 w2 av aep2 dz1 dt1 dz2 dt2 FJ s0 t)) 8 (s0 + 1134) gens t [ps.map tpD] (tD cLaw) cLaw pos' [.ret k none g lv (.func fb0 envL) pos kp] [] []) (turnsL 8 [17]) = chk' (tR tP (tW b c w) (KK (tW b c w)) [((.builtin "claim.caller" ca1), ps1)] 244 (oT0h (tW b c w).params xs as n t1 t2 t3 d l dd ep lep aep es ps x xt cv o dz dt u1 u2 u3 u4 u5 fep v1 v2 v3 v4 v5 ex sl v v' u u' a1 w1 w2 av aep2 dz1 dt1 dz2 dt2 FJ s0 t) (mkT (iT0h (tW b c w).params xs as n t1 t2 t3 d l dd ep lep aep es ps x xt cv o dz dt u1 u2 u3 u4 u5 fep v1 v2 v3 v4 v5 ex sl v v' u u' a1 w1 w2 av aep2 dz1 dt1 dz2 dt2 FJ s0 t)) 8 (s0 + 1134) gens t [ps.map tpD] (tD cLaw) cLaw pos' [.ret k none g lv (.func fb0 envL) pos kp] [] [])
    (tD cLaw, cLaw, [.ret k none g lv (.func fb0 envL) pos kp], (dz1 + dz2 + (dz + (s0 + 1161))), (t + 11 + dt + 8 + (dt1 + dt2 + 1) + 1), appG gens [], (jT0h (tW b c w).params xs as n t1 t2 t3 d l dd ep lep aep es ps x xt cv o dz dt u1 u2 u3 u4 u5 fep v1 v2 v3 v4 v5 ex sl v v' u u' a1 w1 w2 av aep2 dz1 dt1 dz2 dt2 FJ s0 t).map some, (nT0h xs as n t1 t2 t3 d l dd ep lep aep es ps x xt cv o dz dt u1 u2 u3 u4 u5 fep v1 v2 v3 v4 v5 ex sl v v' u u' a1 w1 w2 av aep2 dz1 dt1 dz2 dt2 FJ s0 t).map some, [FJ, [], [], ps.map tpD]) := by
  cases b <;> kernel_rfl
noncomputable def oT0ms (P : Params) (xs as : List Value) (n t1 t2 t3 d l dd ep lep aep : Nat) (es : List E) (ps : List (Nat × E)) (x : Int) (xt : Nat) (cv : Option Value) (o : Nat × Value × Nat × Value) (dz dt : Nat) (u1 u2 u3 u4 u5 fep : Nat) (v1 v2 v3 v4 v5 : Value) (ex : List (Str × Nat × Value)) (sl : Array (Option Value)) (o1 : Option (Nat × Value)) (zs : List Value) (dz1 dt1 : Nat) (s0 t : Nat) : List Op := [.s 0, .k 0, .s 0, .a (fun _ _ _ => sLiNext 0 1 1133 1113 n xs 0 (.int x xt)), .s 2, .s 2, .s 2, .k 0, .s 2, .k 1, .s 2, .k 0, .s 8, .s 8, .s 8, .k 0, .s 8, .s 9, .s 9, .k 0, .s 9, .s 9, .s 9, .s 8, .s 9, .s 9, .s 9, .k 0, .s 9, .s 9, .s 9, .s 8, .s 9, .s 9, .s 9, .k 0, .s 9, .s 9, .s 9, .s 8, .s 9, .s 9, .s 9, .k 0, .s 9, .s 9, .s 9, .s 8, .s 9, .s 9, .s 11, .s 2, .s 2, .s 3, .s 3, .s 2, .s 2, .s 2, .s 5, .s 5, .k 0, .s 5, .s 12, .u (fun _ _ _ => (sHs P 12 5 14 3 13 (s0 + 1138) (l + 1113) (s0 + 1140) (s0 + 1139) lep (t + 6) 0 ((x.fdiv 5).fmod 4) ps (some o) [] 0 dz dt (s0 + 1141)).at (s0 + 1141) (t + 11)), .s 2, .s 2, .s 14, .s 14, .s 14, .s 14, .s 14, .s 14, .s 2, .k 0, .a (fun cc _ _ => sCmp "int.__eq__" (x.fmod 5) 0 true cc), .s 2, .s 3, .s 4, .k 0, .s 4, .k 3, .s 4, .k 0, .a (fun cc sz tok => guard sz (sGM (dd + 1113) 4 (d + 1113) es ep ((x.fdiv 5).fmod 4) (argTok cc 1) tok)), .s 2, .k 0, .s 4, .k 0, .s 4, .k 3, .s 4, .k 0, .a (fun cc _ _ => sSet clsC (some (dd + 1113)) 4 (d + 1113) es ep ((x.fdiv 5).fmod 4) (argTok cc 1) (0 + x.fdiv 20) (argTok cc 2)), .k 0, .s 2, .s 3, .k 1, .s 2, .k 0, .s 13, .s 13, .k 0, .s 13, .s 15, .s 16, .s 15, .k 0, .s 15, .s 15, .s 15, .s 13, .s 15, .s 15, .s 18, .s 2, .k 1, .u (fun _ _ _ => (sWm P 5 (l + 1113) lep (t + 6) (t + 11 + dt + 9) 1 ((x.fdiv 5).fmod 4) (0 + x.fdiv 20) ps o1 zs dz1 dt1 (dz + (s0 + 1148))).at (dz + (s0 + 1148)) (t + 11 + dt + 10)), .s 2, .s 2]
noncomputable def iT0ms (P : Params) (xs as : List Value) (n t1 t2 t3 d l dd ep lep aep : Nat) (es : List E) (ps : List (Nat × E)) (x : Int) (xt : Nat) (cv : Option Value) (o : Nat × Value × Nat × Value) (dz dt : Nat) (u1 u2 u3 u4 u5 fep : Nat) (v1 v2 v3 v4 v5 : Value) (ex : List (Str × Nat × Value)) (sl : Array (Option Value)) (o1 : Option (Nat × Value)) (zs : List Value) (dz1 dt1 : Nat) (s0 t : Nat) : List (Nat × Obj) := [(1133, liObj 1113 n), (1113, lsObj xs 0), (1114, frG P ([(str "aside", t1, .ref 1128), (str "state", t2, .ref (l + 1113)), (str "bag", t3, .ref (d + 1113)), (str "x", u1, v1), (str "kind", u2, v2), (str "amount", u3, v3), (str "held", u4, v4)] ++ ex) fep sl), (1116, ceObj cv), (d + 1113, dObj clsC (some (dd + 1113)) es ep), (l + 1113, lsObj (ps.map rfD) lep), (1128, lsObj as aep), (dd + 1113, dObj clsD none [] 0)]
noncomputable def jT0ms (P : Params) (xs as : List Value) (n t1 t2 t3 d l dd ep lep aep : Nat) (es : List E) (ps : List (Nat × E)) (x : Int) (xt : Nat) (cv : Option Value) (o : Nat × Value × Nat × Value) (dz dt : Nat) (u1 u2 u3 u4 u5 fep : Nat) (v1 v2 v3 v4 v5 : Value) (ex : List (Str × Nat × Value)) (sl : Array (Option Value)) (o1 : Option (Nat × Value)) (zs : List Value) (dz1 dt1 : Nat) (s0 t : Nat) : List (Nat × Obj) := [(1133, liObj 1113 (n + 1)), (1113, lsObj xs 0), (1114, frG P ([(str "aside", t1, .ref 1128), (str "state", t2, .ref (dz1 + (dz + (s0 + 1159)))), (str "bag", t3, .ref (d + 1113)), (str "x", u1, .int x xt), (str "kind", u2, .int (x.fmod 5) (t + 2)), (str "amount", u3, .int (x.fdiv 20) (t + 8)), (str "held", u4, .ref (s0 + 1139))] ++ ex) fep sl), (1116, ceObj (some (.int ((x.fdiv 5).fmod 4) (t + 6)))), (d + 1113, dObj clsC (some (dd + 1113)) (esSet es ((x.fdiv 5).fmod 4) (t + 6) (0 + x.fdiv 20) (t + 11 + dt + 6)) (match esFind es ((x.fdiv 5).fmod 4) with | some _ => ep | none => ep + 1)), (l + 1113, lsObj (ps.map rfD) lep), (1128, lsObj as aep), (dd + 1113, dObj clsD none [] 0)]
noncomputable def nT0ms (xs as : List Value) (n t1 t2 t3 d l dd ep lep aep : Nat) (es : List E) (ps : List (Nat × E)) (x : Int) (xt : Nat) (cv : Option Value) (o : Nat × Value × Nat × Value) (dz dt : Nat) (u1 u2 u3 u4 u5 fep : Nat) (v1 v2 v3 v4 v5 : Value) (ex : List (Str × Nat × Value)) (sl : Array (Option Value)) (o1 : Option (Nat × Value)) (zs : List Value) (dz1 dt1 : Nat) (s0 t : Nat) : List (Nat × Obj) := [((dz + (s0 + 1148)) + (dz1 + 9), tupObj [.int ((x.fdiv 5).fmod 4) (t + 6), .int (0 + x.fdiv 20) (t + 11 + dt + 9)]), ((dz + (s0 + 1148)) + (dz1 + 11), lsObj zs 0)]
theorem rT0ms (xs as : List Value) (n t1 t2 t3 d l dd ep lep aep : Nat) (es : List E) (ps : List (Nat × E)) (x : Int) (xt : Nat) (cv : Option Value) (o : Nat × Value × Nat × Value) (dz dt : Nat) (u1 u2 u3 u4 u5 fep : Nat) (v1 v2 v3 v4 v5 : Value) (ex : List (Str × Nat × Value)) (sl : Array (Option Value)) (o1 : Option (Nat × Value)) (zs : List Value) (dz1 dt1 : Nat) (s0 t : Nat) (k : Result → Sem PySem.Fin) (g : Bool) (lv : List Value) (fb0 : List Stmt) (pos pos' : Pos) (kp : List Value) (ca1 : Args) (ps1 : Pos) (gens : List GenState) : chk (tR tP (tW b c w) (KK (tW b c w)) [((.builtin "claim.caller" ca1), ps1)] 261 (oT0ms (tW b c w).params xs as n t1 t2 t3 d l dd ep lep aep es ps x xt cv o dz dt u1 u2 u3 u4 u5 fep v1 v2 v3 v4 v5 ex sl o1 zs dz1 dt1 s0 t) (mkT (iT0ms (tW b c w).params xs as n t1 t2 t3 d l dd ep lep aep es ps x xt cv o dz dt u1 u2 u3 u4 u5 fep v1 v2 v3 v4 v5 ex sl o1 zs dz1 dt1 s0 t)) 8 (s0 + 1134) gens t [ps.map tpD] (tD cLaw) cLaw pos' [.ret k none g lv (.func fb0 envL) pos kp] [] []) (turnsL 8 [19, 20]) = chk' (tR tP (tW b c w) (KK (tW b c w)) [((.builtin "claim.caller" ca1), ps1)] 261 (oT0ms (tW b c w).params xs as n t1 t2 t3 d l dd ep lep aep es ps x xt cv o dz dt u1 u2 u3 u4 u5 fep v1 v2 v3 v4 v5 ex sl o1 zs dz1 dt1 s0 t) (mkT (iT0ms (tW b c w).params xs as n t1 t2 t3 d l dd ep lep aep es ps x xt cv o dz dt u1 u2 u3 u4 u5 fep v1 v2 v3 v4 v5 ex sl o1 zs dz1 dt1 s0 t)) 8 (s0 + 1134) gens t [ps.map tpD] (tD cLaw) cLaw pos' [.ret k none g lv (.func fb0 envL) pos kp] [] [])
    (tD cLaw, cLaw, [.ret k none g lv (.func fb0 envL) pos kp], (dz1 + (dz + (s0 + 1160))), (t + 11 + dt + 10 + (dt1 + 1) + 1), appG gens [], (jT0ms (tW b c w).params xs as n t1 t2 t3 d l dd ep lep aep es ps x xt cv o dz dt u1 u2 u3 u4 u5 fep v1 v2 v3 v4 v5 ex sl o1 zs dz1 dt1 s0 t).map some, (nT0ms xs as n t1 t2 t3 d l dd ep lep aep es ps x xt cv o dz dt u1 u2 u3 u4 u5 fep v1 v2 v3 v4 v5 ex sl o1 zs dz1 dt1 s0 t).map some, [[], [], ps.map tpD]) := by
  cases b <;> kernel_rfl
noncomputable def oT0mn (P : Params) (xs as : List Value) (n t1 t2 t3 d l dd ep lep aep : Nat) (es : List E) (ps : List (Nat × E)) (x : Int) (xt : Nat) (cv : Option Value) (o : Nat × Value × Nat × Value) (dz dt : Nat) (u1 u2 u3 u4 u5 fep : Nat) (v1 v2 v3 v4 v5 : Value) (ex : List (Str × Nat × Value)) (sl : Array (Option Value)) (o1 : Option (Nat × Value)) (zs : List Value) (dz1 dt1 : Nat) (s0 t : Nat) : List Op := [.s 0, .k 0, .s 0, .a (fun _ _ _ => sLiNext 0 1 1133 1113 n xs 0 (.int x xt)), .s 2, .s 2, .s 2, .k 0, .s 2, .k 1, .s 2, .k 0, .s 8, .s 8, .s 8, .k 0, .s 8, .s 9, .s 9, .k 0, .s 9, .s 9, .s 9, .s 8, .s 9, .s 9, .s 9, .k 0, .s 9, .s 9, .s 9, .s 8, .s 9, .s 9, .s 9, .k 0, .s 9, .s 9, .s 9, .s 8, .s 9, .s 9, .s 9, .k 0, .s 9, .s 9, .s 9, .s 8, .s 9, .s 9, .s 11, .s 2, .s 2, .s 3, .s 3, .s 2, .s 2, .s 2, .s 5, .s 5, .k 0, .s 5, .s 12, .u (fun _ _ _ => (sHs P 12 5 14 3 13 (s0 + 1138) (l + 1113) (s0 + 1140) (s0 + 1139) lep (t + 6) 0 ((x.fdiv 5).fmod 4) ps none [] 0 dz dt (s0 + 1141)).at (s0 + 1141) (t + 11)), .s 2, .s 2, .s 14, .s 14, .s 2, .k 0, .a (fun cc _ _ => sCmp "int.__eq__" (x.fmod 5) 0 true cc), .s 2, .s 3, .s 4, .k 0, .s 4, .k 3, .s 4, .k 0, .a (fun cc sz tok => guard sz (sGM (dd + 1113) 4 (d + 1113) es ep ((x.fdiv 5).fmod 4) (argTok cc 1) tok)), .s 2, .k 0, .s 4, .k 0, .s 4, .k 3, .s 4, .k 0, .a (fun cc _ _ => sSet clsC (some (dd + 1113)) 4 (d + 1113) es ep ((x.fdiv 5).fmod 4) (argTok cc 1) (0 + x.fdiv 20) (argTok cc 2)), .k 0, .s 2, .s 3, .k 1, .s 2, .k 0, .s 13, .s 13, .k 0, .s 13, .s 15, .s 16, .s 15, .k 0, .s 15, .s 15, .s 15, .s 13, .s 15, .s 15, .s 18, .s 2, .k 1, .u (fun _ _ _ => (sWm P 5 (l + 1113) lep (t + 6) (t + 11 + dt + 9) 1 ((x.fdiv 5).fmod 4) (0 + x.fdiv 20) ps o1 zs dz1 dt1 (dz + (s0 + 1148))).at (dz + (s0 + 1148)) (t + 11 + dt + 10)), .s 2, .s 2]
noncomputable def iT0mn (P : Params) (xs as : List Value) (n t1 t2 t3 d l dd ep lep aep : Nat) (es : List E) (ps : List (Nat × E)) (x : Int) (xt : Nat) (cv : Option Value) (o : Nat × Value × Nat × Value) (dz dt : Nat) (u1 u2 u3 u4 u5 fep : Nat) (v1 v2 v3 v4 v5 : Value) (ex : List (Str × Nat × Value)) (sl : Array (Option Value)) (o1 : Option (Nat × Value)) (zs : List Value) (dz1 dt1 : Nat) (s0 t : Nat) : List (Nat × Obj) := [(1133, liObj 1113 n), (1113, lsObj xs 0), (1114, frG P ([(str "aside", t1, .ref 1128), (str "state", t2, .ref (l + 1113)), (str "bag", t3, .ref (d + 1113)), (str "x", u1, v1), (str "kind", u2, v2), (str "amount", u3, v3), (str "held", u4, v4)] ++ ex) fep sl), (1116, ceObj cv), (d + 1113, dObj clsC (some (dd + 1113)) es ep), (l + 1113, lsObj (ps.map rfD) lep), (1128, lsObj as aep), (dd + 1113, dObj clsD none [] 0)]
noncomputable def jT0mn (P : Params) (xs as : List Value) (n t1 t2 t3 d l dd ep lep aep : Nat) (es : List E) (ps : List (Nat × E)) (x : Int) (xt : Nat) (cv : Option Value) (o : Nat × Value × Nat × Value) (dz dt : Nat) (u1 u2 u3 u4 u5 fep : Nat) (v1 v2 v3 v4 v5 : Value) (ex : List (Str × Nat × Value)) (sl : Array (Option Value)) (o1 : Option (Nat × Value)) (zs : List Value) (dz1 dt1 : Nat) (s0 t : Nat) : List (Nat × Obj) := [(1133, liObj 1113 (n + 1)), (1113, lsObj xs 0), (1114, frG P ([(str "aside", t1, .ref 1128), (str "state", t2, .ref (dz1 + (dz + (s0 + 1159)))), (str "bag", t3, .ref (d + 1113)), (str "x", u1, .int x xt), (str "kind", u2, .int (x.fmod 5) (t + 2)), (str "amount", u3, .int (x.fdiv 20) (t + 8)), (str "held", u4, .ref (s0 + 1139))] ++ ex) fep sl), (1116, ceObj (some (.int ((x.fdiv 5).fmod 4) (t + 6)))), (d + 1113, dObj clsC (some (dd + 1113)) (esSet es ((x.fdiv 5).fmod 4) (t + 6) (0 + x.fdiv 20) (t + 11 + dt + 6)) (match esFind es ((x.fdiv 5).fmod 4) with | some _ => ep | none => ep + 1)), (l + 1113, lsObj (ps.map rfD) lep), (1128, lsObj as aep), (dd + 1113, dObj clsD none [] 0)]
noncomputable def nT0mn (xs as : List Value) (n t1 t2 t3 d l dd ep lep aep : Nat) (es : List E) (ps : List (Nat × E)) (x : Int) (xt : Nat) (cv : Option Value) (o : Nat × Value × Nat × Value) (dz dt : Nat) (u1 u2 u3 u4 u5 fep : Nat) (v1 v2 v3 v4 v5 : Value) (ex : List (Str × Nat × Value)) (sl : Array (Option Value)) (o1 : Option (Nat × Value)) (zs : List Value) (dz1 dt1 : Nat) (s0 t : Nat) : List (Nat × Obj) := [((dz + (s0 + 1148)) + (dz1 + 9), tupObj [.int ((x.fdiv 5).fmod 4) (t + 6), .int (0 + x.fdiv 20) (t + 11 + dt + 9)]), ((dz + (s0 + 1148)) + (dz1 + 11), lsObj zs 0)]
theorem rT0mn (xs as : List Value) (n t1 t2 t3 d l dd ep lep aep : Nat) (es : List E) (ps : List (Nat × E)) (x : Int) (xt : Nat) (cv : Option Value) (o : Nat × Value × Nat × Value) (dz dt : Nat) (u1 u2 u3 u4 u5 fep : Nat) (v1 v2 v3 v4 v5 : Value) (ex : List (Str × Nat × Value)) (sl : Array (Option Value)) (o1 : Option (Nat × Value)) (zs : List Value) (dz1 dt1 : Nat) (s0 t : Nat) (k : Result → Sem PySem.Fin) (g : Bool) (lv : List Value) (fb0 : List Stmt) (pos pos' : Pos) (kp : List Value) (ca1 : Args) (ps1 : Pos) (gens : List GenState) : chk (tR tP (tW b c w) (KK (tW b c w)) [((.builtin "claim.caller" ca1), ps1)] 253 (oT0mn (tW b c w).params xs as n t1 t2 t3 d l dd ep lep aep es ps x xt cv o dz dt u1 u2 u3 u4 u5 fep v1 v2 v3 v4 v5 ex sl o1 zs dz1 dt1 s0 t) (mkT (iT0mn (tW b c w).params xs as n t1 t2 t3 d l dd ep lep aep es ps x xt cv o dz dt u1 u2 u3 u4 u5 fep v1 v2 v3 v4 v5 ex sl o1 zs dz1 dt1 s0 t)) 8 (s0 + 1134) gens t [ps.map tpD] (tD cLaw) cLaw pos' [.ret k none g lv (.func fb0 envL) pos kp] [] []) (turnsL 8 [19, 20]) = chk' (tR tP (tW b c w) (KK (tW b c w)) [((.builtin "claim.caller" ca1), ps1)] 253 (oT0mn (tW b c w).params xs as n t1 t2 t3 d l dd ep lep aep es ps x xt cv o dz dt u1 u2 u3 u4 u5 fep v1 v2 v3 v4 v5 ex sl o1 zs dz1 dt1 s0 t) (mkT (iT0mn (tW b c w).params xs as n t1 t2 t3 d l dd ep lep aep es ps x xt cv o dz dt u1 u2 u3 u4 u5 fep v1 v2 v3 v4 v5 ex sl o1 zs dz1 dt1 s0 t)) 8 (s0 + 1134) gens t [ps.map tpD] (tD cLaw) cLaw pos' [.ret k none g lv (.func fb0 envL) pos kp] [] [])
    (tD cLaw, cLaw, [.ret k none g lv (.func fb0 envL) pos kp], (dz1 + (dz + (s0 + 1160))), (t + 11 + dt + 10 + (dt1 + 1) + 1), appG gens [], (jT0mn (tW b c w).params xs as n t1 t2 t3 d l dd ep lep aep es ps x xt cv o dz dt u1 u2 u3 u4 u5 fep v1 v2 v3 v4 v5 ex sl o1 zs dz1 dt1 s0 t).map some, (nT0mn xs as n t1 t2 t3 d l dd ep lep aep es ps x xt cv o dz dt u1 u2 u3 u4 u5 fep v1 v2 v3 v4 v5 ex sl o1 zs dz1 dt1 s0 t).map some, [[], [], ps.map tpD]) := by
  cases b <;> kernel_rfl
noncomputable def oTN0 (P : Params) (xs as : List Value) (n t1 t2 t3 d l dd ep lep aep : Nat) (es : List E) (ps : List (Nat × E)) (x : Int) (xt : Nat) (cv : Option Value) (o : Nat × Value × Nat × Value) (dz dt : Nat) (u1 u2 u3 u4 u5 fep : Nat) (v1 v2 v3 v4 v5 : Value) (ex : List (Str × Nat × Value)) (sl : Array (Option Value)) (o1 : Option (Nat × Value)) (zs : List Value) (dz1 dt1 : Nat) (s0 t : Nat) : List Op := [.s 0, .k 0, .s 0, .a (fun _ _ _ => sLiNext 0 1 1133 1113 n xs 0 (.int x xt)), .s 2, .s 2, .s 2, .k 0, .s 2, .k 1, .s 2, .k 0, .s 8, .s 8, .s 8, .k 0, .s 8, .s 9, .s 9, .k 0, .s 9, .s 9, .s 9, .s 8, .s 9, .s 9, .s 9, .k 0, .s 9, .s 9, .s 9, .s 8, .s 9, .s 9, .s 9, .k 0, .s 9, .s 9, .s 9, .s 8, .s 9, .s 9, .s 9, .k 0, .s 9, .s 9, .s 9, .s 8, .s 9, .s 9, .s 11, .s 2, .s 2, .s 3, .s 3, .s 2, .s 2, .s 2, .s 5, .s 5, .k 0, .s 5, .s 12, .u (fun _ _ _ => (sHs P 12 5 14 3 13 (s0 + 1138) (l + 1113) (s0 + 1140) (s0 + 1139) lep (t + 6) 0 ((x.fdiv 5).fmod 4) ps none [] 0 dz dt (s0 + 1141)).at (s0 + 1141) (t + 11)), .s 2, .s 2, .s 14, .s 14, .s 2, .k 0, .a (fun cc _ _ => sCmp "int.__eq__" (x.fmod 5) 0 true cc), .s 2, .s 3, .s 4, .k 0, .s 4, .k 3, .s 4, .k 0, .a (fun cc sz tok => guard sz (sGM (dd + 1113) 4 (d + 1113) es ep ((x.fdiv 5).fmod 4) (argTok cc 1) tok)), .s 2, .k 0, .s 4, .k 0, .s 4, .k 3, .s 4, .k 0, .a (fun cc _ _ => sSet clsC (some (dd + 1113)) 4 (d + 1113) es ep ((x.fdiv 5).fmod 4) (argTok cc 1) (0 + x.fdiv 20) (argTok cc 2)), .k 0, .s 2, .s 3, .k 1, .s 2, .k 0, .s 13, .s 13, .k 0, .s 13, .s 15, .s 16, .s 15, .k 0, .s 15, .s 15, .s 15, .s 13, .s 15, .s 15, .s 18, .s 2, .k 1, .u (fun _ _ _ => (sWm P 5 (l + 1113) lep (t + 6) (t + 11 + dt + 9) 1 ((x.fdiv 5).fmod 4) (0 + x.fdiv 20) ps o1 zs dz1 dt1 (dz + (s0 + 1148))).at (dz + (s0 + 1148)) (t + 11 + dt + 10)), .s 2, .s 2]
noncomputable def iTN0 (P : Params) (xs as : List Value) (n t1 t2 t3 d l dd ep lep aep : Nat) (es : List E) (ps : List (Nat × E)) (x : Int) (xt : Nat) (cv : Option Value) (o : Nat × Value × Nat × Value) (dz dt : Nat) (u1 u2 u3 u4 u5 fep : Nat) (v1 v2 v3 v4 v5 : Value) (ex : List (Str × Nat × Value)) (sl : Array (Option Value)) (o1 : Option (Nat × Value)) (zs : List Value) (dz1 dt1 : Nat) (s0 t : Nat) : List (Nat × Obj) := [(1133, liObj 1113 n), (1113, lsObj xs 0), (1114, frG P [(str "aside", t1, .ref 1128), (str "state", t2, .ref (l + 1113)), (str "bag", t3, .ref (d + 1113))] 3 #[]), (1116, ceObj cv), (d + 1113, dObj clsC (some (dd + 1113)) es ep), (l + 1113, lsObj (ps.map rfD) lep), (1128, lsObj as aep), (dd + 1113, dObj clsD none [] 0)]
noncomputable def jTN0 (P : Params) (xs as : List Value) (n t1 t2 t3 d l dd ep lep aep : Nat) (es : List E) (ps : List (Nat × E)) (x : Int) (xt : Nat) (cv : Option Value) (o : Nat × Value × Nat × Value) (dz dt : Nat) (u1 u2 u3 u4 u5 fep : Nat) (v1 v2 v3 v4 v5 : Value) (ex : List (Str × Nat × Value)) (sl : Array (Option Value)) (o1 : Option (Nat × Value)) (zs : List Value) (dz1 dt1 : Nat) (s0 t : Nat) : List (Nat × Obj) := [(1133, liObj 1113 (n + 1)), (1113, lsObj xs 0), (1114, frG P [(str "aside", t1, .ref 1128), (str "state", t2, .ref (dz1 + (dz + (s0 + 1159)))), (str "bag", t3, .ref (d + 1113)), (str "x", t, .int x xt), (str "kind", (t + 9), .int (x.fmod 5) (t + 2)), (str "amount", (t + 10), .int (x.fdiv 20) (t + 8)), (str "held", (t + 11 + dt), .ref (s0 + 1139))] 7 #[]), (1116, ceObj (some (.int ((x.fdiv 5).fmod 4) (t + 6)))), (d + 1113, dObj clsC (some (dd + 1113)) (esSet es ((x.fdiv 5).fmod 4) (t + 6) (0 + x.fdiv 20) (t + 11 + dt + 6)) (match esFind es ((x.fdiv 5).fmod 4) with | some _ => ep | none => ep + 1)), (l + 1113, lsObj (ps.map rfD) lep), (1128, lsObj as aep), (dd + 1113, dObj clsD none [] 0)]
noncomputable def nTN0 (xs as : List Value) (n t1 t2 t3 d l dd ep lep aep : Nat) (es : List E) (ps : List (Nat × E)) (x : Int) (xt : Nat) (cv : Option Value) (o : Nat × Value × Nat × Value) (dz dt : Nat) (u1 u2 u3 u4 u5 fep : Nat) (v1 v2 v3 v4 v5 : Value) (ex : List (Str × Nat × Value)) (sl : Array (Option Value)) (o1 : Option (Nat × Value)) (zs : List Value) (dz1 dt1 : Nat) (s0 t : Nat) : List (Nat × Obj) := [((dz + (s0 + 1148)) + (dz1 + 9), tupObj [.int ((x.fdiv 5).fmod 4) (t + 6), .int (0 + x.fdiv 20) (t + 11 + dt + 9)]), ((dz + (s0 + 1148)) + (dz1 + 11), lsObj zs 0)]
theorem rTN0 (xs as : List Value) (n t1 t2 t3 d l dd ep lep aep : Nat) (es : List E) (ps : List (Nat × E)) (x : Int) (xt : Nat) (cv : Option Value) (o : Nat × Value × Nat × Value) (dz dt : Nat) (u1 u2 u3 u4 u5 fep : Nat) (v1 v2 v3 v4 v5 : Value) (ex : List (Str × Nat × Value)) (sl : Array (Option Value)) (o1 : Option (Nat × Value)) (zs : List Value) (dz1 dt1 : Nat) (s0 t : Nat) (k : Result → Sem PySem.Fin) (g : Bool) (lv : List Value) (fb0 : List Stmt) (pos pos' : Pos) (kp : List Value) (ca1 : Args) (ps1 : Pos) (gens : List GenState) : chk (tR tP (tW b c w) (KK (tW b c w)) [((.builtin "claim.caller" ca1), ps1)] 253 (oTN0 (tW b c w).params xs as n t1 t2 t3 d l dd ep lep aep es ps x xt cv o dz dt u1 u2 u3 u4 u5 fep v1 v2 v3 v4 v5 ex sl o1 zs dz1 dt1 s0 t) (mkT (iTN0 (tW b c w).params xs as n t1 t2 t3 d l dd ep lep aep es ps x xt cv o dz dt u1 u2 u3 u4 u5 fep v1 v2 v3 v4 v5 ex sl o1 zs dz1 dt1 s0 t)) 8 (s0 + 1134) gens t [ps.map tpD] (tD cLaw) cLaw pos' [.ret k none g lv (.func fb0 envL) pos kp] [] []) (turnsL 8 [19, 20]) = chk' (tR tP (tW b c w) (KK (tW b c w)) [((.builtin "claim.caller" ca1), ps1)] 253 (oTN0 (tW b c w).params xs as n t1 t2 t3 d l dd ep lep aep es ps x xt cv o dz dt u1 u2 u3 u4 u5 fep v1 v2 v3 v4 v5 ex sl o1 zs dz1 dt1 s0 t) (mkT (iTN0 (tW b c w).params xs as n t1 t2 t3 d l dd ep lep aep es ps x xt cv o dz dt u1 u2 u3 u4 u5 fep v1 v2 v3 v4 v5 ex sl o1 zs dz1 dt1 s0 t)) 8 (s0 + 1134) gens t [ps.map tpD] (tD cLaw) cLaw pos' [.ret k none g lv (.func fb0 envL) pos kp] [] [])
    (tD cLaw, cLaw, [.ret k none g lv (.func fb0 envL) pos kp], (dz1 + (dz + (s0 + 1160))), (t + 11 + dt + 10 + (dt1 + 1) + 1), appG gens [], (jTN0 (tW b c w).params xs as n t1 t2 t3 d l dd ep lep aep es ps x xt cv o dz dt u1 u2 u3 u4 u5 fep v1 v2 v3 v4 v5 ex sl o1 zs dz1 dt1 s0 t).map some, (nTN0 xs as n t1 t2 t3 d l dd ep lep aep es ps x xt cv o dz dt u1 u2 u3 u4 u5 fep v1 v2 v3 v4 v5 ex sl o1 zs dz1 dt1 s0 t).map some, [[], [], ps.map tpD]) := by
  cases b <;> kernel_rfl
noncomputable def oT4s (P : Params) (xs as : List Value) (n t1 t2 t3 d l dd ep lep aep : Nat) (es : List E) (ps : List (Nat × E)) (x : Int) (xt : Nat) (cv : Option Value) (o : Nat × Value × Nat × Value) (dz dt : Nat) (u1 u2 u3 u4 u5 fep : Nat) (v1 v2 v3 v4 v5 : Value) (ex : List (Str × Nat × Value)) (sl : Array (Option Value)) (av : List Value) (aep2 : Nat) (s0 t : Nat) : List Op := [.s 0, .k 0, .s 0, .a (fun _ _ _ => sLiNext 0 1 1133 1113 n xs 0 (.int x xt)), .s 2, .s 2, .s 2, .k 0, .s 2, .k 1, .s 2, .k 0, .s 8, .s 8, .s 8, .k 0, .s 8, .s 9, .s 9, .k 0, .s 9, .s 9, .s 9, .s 8, .s 9, .s 9, .s 9, .k 0, .s 9, .s 9, .s 9, .s 8, .s 9, .s 9, .s 9, .k 0, .s 9, .s 9, .s 9, .s 8, .s 9, .s 9, .s 9, .k 0, .s 9, .s 9, .s 9, .s 8, .s 9, .s 9, .s 11, .s 2, .s 2, .s 3, .s 3, .s 2, .s 2, .s 2, .s 5, .s 5, .k 0, .s 5, .s 12, .u (fun _ _ _ => (sHs P 12 5 14 3 13 (s0 + 1138) (l + 1113) (s0 + 1140) (s0 + 1139) lep (t + 6) 0 ((x.fdiv 5).fmod 4) ps (some o) av aep2 dz dt (s0 + 1141)).at (s0 + 1141) (t + 11)), .s 2, .s 2, .s 14, .s 14, .s 14, .s 14, .s 14, .s 14, .s 2, .k 0, .a (fun cc _ _ => sCmp "int.__eq__" (x.fmod 5) 0 false cc), .s 2, .k 0, .a (fun cc _ _ => sCmp "int.__eq__" (x.fmod 5) 1 false cc), .s 2, .k 0, .a (fun cc _ _ => sCmp "int.__eq__" (x.fmod 5) 2 false cc), .s 2, .k 0, .a (fun cc _ _ => sCmp "int.__eq__" (x.fmod 5) 3 false cc), .s 2, .s 6, .s 6, .s 6, .s 6, .s 2, .s 2, .k 0, .s 6, .a (fun _ _ _ => sApp 6 1128 as (.ref (dz + (s0 + 1143))) aep), .s 2, .s 4, .k 2, .s 4, .k 2, .s 4, .k 3, .s 4, .s 7, .k 0, .u (fun _ _ _ => (sCp P 4 7 (d + 1113) (dd + 1113) es ep (dz + (s0 + 1144))).at (dz + (s0 + 1144)) (t + 11 + dt + 5)), .s 2, .s 2, .k 1, .s 2, .k 0, .s 17, .k 0]
noncomputable def iT4s (P : Params) (xs as : List Value) (n t1 t2 t3 d l dd ep lep aep : Nat) (es : List E) (ps : List (Nat × E)) (x : Int) (xt : Nat) (cv : Option Value) (o : Nat × Value × Nat × Value) (dz dt : Nat) (u1 u2 u3 u4 u5 fep : Nat) (v1 v2 v3 v4 v5 : Value) (ex : List (Str × Nat × Value)) (sl : Array (Option Value)) (av : List Value) (aep2 : Nat) (s0 t : Nat) : List (Nat × Obj) := [(1133, liObj 1113 n), (1113, lsObj xs 0), (1114, frG P ([(str "aside", t1, .ref 1128), (str "state", t2, .ref (l + 1113)), (str "bag", t3, .ref (d + 1113)), (str "x", u1, v1), (str "kind", u2, v2), (str "amount", u3, v3), (str "held", u4, v4)] ++ ex) fep sl), (1116, ceObj cv), (d + 1113, dObj clsC (some (dd + 1113)) es ep), (l + 1113, lsObj (ps.map rfD) lep), (1128, lsObj as aep), (dd + 1113, dObj clsD none [] 0)]
noncomputable def jT4s (P : Params) (xs as : List Value) (n t1 t2 t3 d l dd ep lep aep : Nat) (es : List E) (ps : List (Nat × E)) (x : Int) (xt : Nat) (cv : Option Value) (o : Nat × Value × Nat × Value) (dz dt : Nat) (u1 u2 u3 u4 u5 fep : Nat) (v1 v2 v3 v4 v5 : Value) (ex : List (Str × Nat × Value)) (sl : Array (Option Value)) (av : List Value) (aep2 : Nat) (s0 t : Nat) : List (Nat × Obj) := [(1133, liObj 1113 (n + 1)), (1113, lsObj xs 0), (1114, frG P ([(str "aside", t1, .ref 1128), (str "state", t2, .ref (l + 1113)), (str "bag", t3, .ref (dz + (s0 + 1146))), (str "x", u1, .int x xt), (str "kind", u2, .int (x.fmod 5) (t + 2)), (str "amount", u3, .int (x.fdiv 20) (t + 8)), (str "held", u4, .ref (s0 + 1139))] ++ ex) fep sl), (1116, ceObj (some (.int ((x.fdiv 5).fmod 4) (t + 6)))), (d + 1113, dObj clsC (some (dd + 1113)) es ep), (l + 1113, lsObj (ps.map rfD) lep), (1128, lsObj (as ++ [.ref (dz + (s0 + 1143))]) (aep + 1)), (dd + 1113, dObj clsD none [] 0)]
noncomputable def nT4s (xs as : List Value) (n t1 t2 t3 d l dd ep lep aep : Nat) (es : List E) (ps : List (Nat × E)) (x : Int) (xt : Nat) (cv : Option Value) (o : Nat × Value × Nat × Value) (dz dt : Nat) (u1 u2 u3 u4 u5 fep : Nat) (v1 v2 v3 v4 v5 : Value) (ex : List (Str × Nat × Value)) (sl : Array (Option Value)) (av : List Value) (aep2 : Nat) (s0 t : Nat) : List (Nat × Obj) := [((dz + (s0 + 1143)), tupObj [.ref (d + 1113), .ref (l + 1113)]), ((dz + (s0 + 1145)), dObj clsD none [] 0), ((dz + (s0 + 1146)), dObj clsC (some (dz + (s0 + 1145))) es es.length)]
theorem rT4s (xs as : List Value) (n t1 t2 t3 d l dd ep lep aep : Nat) (es : List E) (ps : List (Nat × E)) (x : Int) (xt : Nat) (cv : Option Value) (o : Nat × Value × Nat × Value) (dz dt : Nat) (u1 u2 u3 u4 u5 fep : Nat) (v1 v2 v3 v4 v5 : Value) (ex : List (Str × Nat × Value)) (sl : Array (Option Value)) (av : List Value) (aep2 : Nat) (s0 t : Nat) (k : Result → Sem PySem.Fin) (g : Bool) (lv : List Value) (fb0 : List Stmt) (pos pos' : Pos) (kp : List Value) (ca1 : Args) (ps1 : Pos) (gens : List GenState) : chk (tR tP (tW b c w) (KK (tW b c w)) [((.builtin "claim.caller" ca1), ps1)] 255 (oT4s (tW b c w).params xs as n t1 t2 t3 d l dd ep lep aep es ps x xt cv o dz dt u1 u2 u3 u4 u5 fep v1 v2 v3 v4 v5 ex sl av aep2 s0 t) (mkT (iT4s (tW b c w).params xs as n t1 t2 t3 d l dd ep lep aep es ps x xt cv o dz dt u1 u2 u3 u4 u5 fep v1 v2 v3 v4 v5 ex sl av aep2 s0 t)) 8 (s0 + 1134) gens t [ps.map tpD] (tD cLaw) cLaw pos' [.ret k none g lv (.func fb0 envL) pos kp] [] []) (turnsL 8 [15, 16, 17]) = chk' (tR tP (tW b c w) (KK (tW b c w)) [((.builtin "claim.caller" ca1), ps1)] 255 (oT4s (tW b c w).params xs as n t1 t2 t3 d l dd ep lep aep es ps x xt cv o dz dt u1 u2 u3 u4 u5 fep v1 v2 v3 v4 v5 ex sl av aep2 s0 t) (mkT (iT4s (tW b c w).params xs as n t1 t2 t3 d l dd ep lep aep es ps x xt cv o dz dt u1 u2 u3 u4 u5 fep v1 v2 v3 v4 v5 ex sl av aep2 s0 t)) 8 (s0 + 1134) gens t [ps.map tpD] (tD cLaw) cLaw pos' [.ret k none g lv (.func fb0 envL) pos kp] [] [])
    (tD cLaw, cLaw, [.ret k none g lv (.func fb0 envL) pos kp], (dz + (s0 + 1160)), (t + 11 + dt + 5 + 23 + 1), appG gens [], (jT4s (tW b c w).params xs as n t1 t2 t3 d l dd ep lep aep es ps x xt cv o dz dt u1 u2 u3 u4 u5 fep v1 v2 v3 v4 v5 ex sl av aep2 s0 t).map some, (nT4s xs as n t1 t2 t3 d l dd ep lep aep es ps x xt cv o dz dt u1 u2 u3 u4 u5 fep v1 v2 v3 v4 v5 ex sl av aep2 s0 t).map some, [[], ps.map tpD]) := by
  cases b <;> kernel_rfl
noncomputable def oT4n (P : Params) (xs as : List Value) (n t1 t2 t3 d l dd ep lep aep : Nat) (es : List E) (ps : List (Nat × E)) (x : Int) (xt : Nat) (cv : Option Value) (o : Nat × Value × Nat × Value) (dz dt : Nat) (u1 u2 u3 u4 u5 fep : Nat) (v1 v2 v3 v4 v5 : Value) (ex : List (Str × Nat × Value)) (sl : Array (Option Value)) (av : List Value) (aep2 : Nat) (s0 t : Nat) : List Op := [.s 0, .k 0, .s 0, .a (fun _ _ _ => sLiNext 0 1 1133 1113 n xs 0 (.int x xt)), .s 2, .s 2, .s 2, .k 0, .s 2, .k 1, .s 2, .k 0, .s 8, .s 8, .s 8, .k 0, .s 8, .s 9, .s 9, .k 0, .s 9, .s 9, .s 9, .s 8, .s 9, .s 9, .s 9, .k 0, .s 9, .s 9, .s 9, .s 8, .s 9, .s 9, .s 9, .k 0, .s 9, .s 9, .s 9, .s 8, .s 9, .s 9, .s 9, .k 0, .s 9, .s 9, .s 9, .s 8, .s 9, .s 9, .s 11, .s 2, .s 2, .s 3, .s 3, .s 2, .s 2, .s 2, .s 5, .s 5, .k 0, .s 5, .s 12, .u (fun _ _ _ => (sHs P 12 5 14 3 13 (s0 + 1138) (l + 1113) (s0 + 1140) (s0 + 1139) lep (t + 6) 0 ((x.fdiv 5).fmod 4) ps none av aep2 dz dt (s0 + 1141)).at (s0 + 1141) (t + 11)), .s 2, .s 2, .s 14, .s 14, .s 2, .k 0, .a (fun cc _ _ => sCmp "int.__eq__" (x.fmod 5) 0 false cc), .s 2, .k 0, .a (fun cc _ _ => sCmp "int.__eq__" (x.fmod 5) 1 false cc), .s 2, .k 0, .a (fun cc _ _ => sCmp "int.__eq__" (x.fmod 5) 2 false cc), .s 2, .k 0, .a (fun cc _ _ => sCmp "int.__eq__" (x.fmod 5) 3 false cc), .s 2, .s 6, .s 6, .s 6, .s 6, .s 2, .s 2, .k 0, .s 6, .a (fun _ _ _ => sApp 6 1128 as (.ref (dz + (s0 + 1143))) aep), .s 2, .s 4, .k 2, .s 4, .k 2, .s 4, .k 3, .s 4, .s 7, .k 0, .u (fun _ _ _ => (sCp P 4 7 (d + 1113) (dd + 1113) es ep (dz + (s0 + 1144))).at (dz + (s0 + 1144)) (t + 11 + dt + 5)), .s 2, .s 2, .k 1, .s 2, .k 0, .s 17, .k 0]
noncomputable def iT4n (P : Params) (xs as : List Value) (n t1 t2 t3 d l dd ep lep aep : Nat) (es : List E) (ps : List (Nat × E)) (x : Int) (xt : Nat) (cv : Option Value) (o : Nat × Value × Nat × Value) (dz dt : Nat) (u1 u2 u3 u4 u5 fep : Nat) (v1 v2 v3 v4 v5 : Value) (ex : List (Str × Nat × Value)) (sl : Array (Option Value)) (av : List Value) (aep2 : Nat) (s0 t : Nat) : List (Nat × Obj) := [(1133, liObj 1113 n), (1113, lsObj xs 0), (1114, frG P ([(str "aside", t1, .ref 1128), (str "state", t2, .ref (l + 1113)), (str "bag", t3, .ref (d + 1113)), (str "x", u1, v1), (str "kind", u2, v2), (str "amount", u3, v3), (str "held", u4, v4)] ++ ex) fep sl), (1116, ceObj cv), (d + 1113, dObj clsC (some (dd + 1113)) es ep), (l + 1113, lsObj (ps.map rfD) lep), (1128, lsObj as aep), (dd + 1113, dObj clsD none [] 0)]
noncomputable def jT4n (P : Params) (xs as : List Value) (n t1 t2 t3 d l dd ep lep aep : Nat) (es : List E) (ps : List (Nat × E)) (x : Int) (xt : Nat) (cv : Option Value) (o : Nat × Value × Nat × Value) (dz dt : Nat) (u1 u2 u3 u4 u5 fep : Nat) (v1 v2 v3 v4 v5 : Value) (ex : List (Str × Nat × Value)) (sl : Array (Option Value)) (av : List Value) (aep2 : Nat) (s0 t : Nat) : List (Nat × Obj) := [(1133, liObj 1113 (n + 1)), (1113, lsObj xs 0), (1114, frG P ([(str "aside", t1, .ref 1128), (str "state", t2, .ref (l + 1113)), (str "bag", t3, .ref (dz + (s0 + 1146))), (str "x", u1, .int x xt), (str "kind", u2, .int (x.fmod 5) (t + 2)), (str "amount", u3, .int (x.fdiv 20) (t + 8)), (str "held", u4, .ref (s0 + 1139))] ++ ex) fep sl), (1116, ceObj (some (.int ((x.fdiv 5).fmod 4) (t + 6)))), (d + 1113, dObj clsC (some (dd + 1113)) es ep), (l + 1113, lsObj (ps.map rfD) lep), (1128, lsObj (as ++ [.ref (dz + (s0 + 1143))]) (aep + 1)), (dd + 1113, dObj clsD none [] 0)]
noncomputable def nT4n (xs as : List Value) (n t1 t2 t3 d l dd ep lep aep : Nat) (es : List E) (ps : List (Nat × E)) (x : Int) (xt : Nat) (cv : Option Value) (o : Nat × Value × Nat × Value) (dz dt : Nat) (u1 u2 u3 u4 u5 fep : Nat) (v1 v2 v3 v4 v5 : Value) (ex : List (Str × Nat × Value)) (sl : Array (Option Value)) (av : List Value) (aep2 : Nat) (s0 t : Nat) : List (Nat × Obj) := [((dz + (s0 + 1143)), tupObj [.ref (d + 1113), .ref (l + 1113)]), ((dz + (s0 + 1145)), dObj clsD none [] 0), ((dz + (s0 + 1146)), dObj clsC (some (dz + (s0 + 1145))) es es.length)]
theorem rT4n (xs as : List Value) (n t1 t2 t3 d l dd ep lep aep : Nat) (es : List E) (ps : List (Nat × E)) (x : Int) (xt : Nat) (cv : Option Value) (o : Nat × Value × Nat × Value) (dz dt : Nat) (u1 u2 u3 u4 u5 fep : Nat) (v1 v2 v3 v4 v5 : Value) (ex : List (Str × Nat × Value)) (sl : Array (Option Value)) (av : List Value) (aep2 : Nat) (s0 t : Nat) (k : Result → Sem PySem.Fin) (g : Bool) (lv : List Value) (fb0 : List Stmt) (pos pos' : Pos) (kp : List Value) (ca1 : Args) (ps1 : Pos) (gens : List GenState) : chk (tR tP (tW b c w) (KK (tW b c w)) [((.builtin "claim.caller" ca1), ps1)] 247 (oT4n (tW b c w).params xs as n t1 t2 t3 d l dd ep lep aep es ps x xt cv o dz dt u1 u2 u3 u4 u5 fep v1 v2 v3 v4 v5 ex sl av aep2 s0 t) (mkT (iT4n (tW b c w).params xs as n t1 t2 t3 d l dd ep lep aep es ps x xt cv o dz dt u1 u2 u3 u4 u5 fep v1 v2 v3 v4 v5 ex sl av aep2 s0 t)) 8 (s0 + 1134) gens t [ps.map tpD] (tD cLaw) cLaw pos' [.ret k none g lv (.func fb0 envL) pos kp] [] []) (turnsL 8 [15, 16, 17]) = chk' (tR tP (tW b c w) (KK (tW b c w)) [((.builtin "claim.caller" ca1), ps1)] 247 (oT4n (tW b c w).params xs as n t1 t2 t3 d l dd ep lep aep es ps x xt cv o dz dt u1 u2 u3 u4 u5 fep v1 v2 v3 v4 v5 ex sl av aep2 s0 t) (mkT (iT4n (tW b c w).params xs as n t1 t2 t3 d l dd ep lep aep es ps x xt cv o dz dt u1 u2 u3 u4 u5 fep v1 v2 v3 v4 v5 ex sl av aep2 s0 t)) 8 (s0 + 1134) gens t [ps.map tpD] (tD cLaw) cLaw pos' [.ret k none g lv (.func fb0 envL) pos kp] [] [])
    (tD cLaw, cLaw, [.ret k none g lv (.func fb0 envL) pos kp], (dz + (s0 + 1160)), (t + 11 + dt + 5 + 23 + 1), appG gens [], (jT4n (tW b c w).params xs as n t1 t2 t3 d l dd ep lep aep es ps x xt cv o dz dt u1 u2 u3 u4 u5 fep v1 v2 v3 v4 v5 ex sl av aep2 s0 t).map some, (nT4n xs as n t1 t2 t3 d l dd ep lep aep es ps x xt cv o dz dt u1 u2 u3 u4 u5 fep v1 v2 v3 v4 v5 ex sl av aep2 s0 t).map some, [[], ps.map tpD]) := by
  cases b <;> kernel_rfl
noncomputable def oTN4 (P : Params) (xs as : List Value) (n t1 t2 t3 d l dd ep lep aep : Nat) (es : List E) (ps : List (Nat × E)) (x : Int) (xt : Nat) (cv : Option Value) (o : Nat × Value × Nat × Value) (dz dt : Nat) (u1 u2 u3 u4 u5 fep : Nat) (v1 v2 v3 v4 v5 : Value) (ex : List (Str × Nat × Value)) (sl : Array (Option Value)) (av : List Value) (aep2 : Nat) (s0 t : Nat) : List Op := [.s 0, .k 0, .s 0, .a (fun _ _ _ => sLiNext 0 1 1133 1113 n xs 0 (.int x xt)), .s 2, .s 2, .s 2, .k 0, .s 2, .k 1, .s 2, .k 0, .s 8, .s 8, .s 8, .k 0, .s 8, .s 9, .s 9, .k 0, .s 9, .s 9, .s 9, .s 8, .s 9, .s 9, .s 9, .k 0, .s 9, .s 9, .s 9, .s 8, .s 9, .s 9, .s 9, .k 0, .s 9, .s 9, .s 9, .s 8, .s 9, .s 9, .s 9, .k 0, .s 9, .s 9, .s 9, .s 8, .s 9, .s 9, .s 11, .s 2, .s 2, .s 3, .s 3, .s 2, .s 2, .s 2, .s 5, .s 5, .k 0, .s 5, .s 12, .u (fun _ _ _ => (sHs P 12 5 14 3 13 (s0 + 1138) (l + 1113) (s0 + 1140) (s0 + 1139) lep (t + 6) 0 ((x.fdiv 5).fmod 4) ps none av aep2 dz dt (s0 + 1141)).at (s0 + 1141) (t + 11)), .s 2, .s 2, .s 14, .s 14, .s 2, .k 0, .a (fun cc _ _ => sCmp "int.__eq__" (x.fmod 5) 0 false cc), .s 2, .k 0, .a (fun cc _ _ => sCmp "int.__eq__" (x.fmod 5) 1 false cc), .s 2, .k 0, .a (fun cc _ _ => sCmp "int.__eq__" (x.fmod 5) 2 false cc), .s 2, .k 0, .a (fun cc _ _ => sCmp "int.__eq__" (x.fmod 5) 3 false cc), .s 2, .s 6, .s 6, .s 6, .s 6, .s 2, .s 2, .k 0, .s 6, .a (fun _ _ _ => sApp 6 1128 as (.ref (dz + (s0 + 1143))) aep), .s 2, .s 4, .k 2, .s 4, .k 2, .s 4, .k 3, .s 4, .s 7, .k 0, .u (fun _ _ _ => (sCp P 4 7 (d + 1113) (dd + 1113) es ep (dz + (s0 + 1144))).at (dz + (s0 + 1144)) (t + 11 + dt + 5)), .s 2, .s 2, .k 1, .s 2, .k 0, .s 17, .k 0]
noncomputable def iTN4 (P : Params) (xs as : List Value) (n t1 t2 t3 d l dd ep lep aep : Nat) (es : List E) (ps : List (Nat × E)) (x : Int) (xt : Nat) (cv : Option Value) (o : Nat × Value × Nat × Value) (dz dt : Nat) (u1 u2 u3 u4 u5 fep : Nat) (v1 v2 v3 v4 v5 : Value) (ex : List (Str × Nat × Value)) (sl : Array (Option Value)) (av : List Value) (aep2 : Nat) (s0 t : Nat) : List (Nat × Obj) := [(1133, liObj 1113 n), (1113, lsObj xs 0), (1114, frG P [(str "aside", t1, .ref 1128), (str "state", t2, .ref (l + 1113)), (str "bag", t3, .ref (d + 1113))] 3 #[]), (1116, ceObj cv), (d + 1113, dObj clsC (some (dd + 1113)) es ep), (l + 1113, lsObj (ps.map rfD) lep), (1128, lsObj as aep), (dd + 1113, dObj clsD none [] 0)]
noncomputable def jTN4 (P : Params) (xs as : List Value) (n t1 t2 t3 d l dd ep lep aep : Nat) (es : List E) (ps : List (Nat × E)) (x : Int) (xt : Nat) (cv : Option Value) (o : Nat × Value × Nat × Value) (dz dt : Nat) (u1 u2 u3 u4 u5 fep : Nat) (v1 v2 v3 v4 v5 : Value) (ex : List (Str × Nat × Value)) (sl : Array (Option Value)) (av : List Value) (aep2 : Nat) (s0 t : Nat) : List (Nat × Obj) := [(1133, liObj 1113 (n + 1)), (1113, lsObj xs 0), (1114, frG P [(str "aside", t1, .ref 1128), (str "state", t2, .ref (l + 1113)), (str "bag", t3, .ref (dz + (s0 + 1146))), (str "x", t, .int x xt), (str "kind", (t + 9), .int (x.fmod 5) (t + 2)), (str "amount", (t + 10), .int (x.fdiv 20) (t + 8)), (str "held", (t + 11 + dt), .ref (s0 + 1139))] 7 #[]), (1116, ceObj (some (.int ((x.fdiv 5).fmod 4) (t + 6)))), (d + 1113, dObj clsC (some (dd + 1113)) es ep), (l + 1113, lsObj (ps.map rfD) lep), (1128, lsObj (as ++ [.ref (dz + (s0 + 1143))]) (aep + 1)), (dd + 1113, dObj clsD none [] 0)]
noncomputable def nTN4 (xs as : List Value) (n t1 t2 t3 d l dd ep lep aep : Nat) (es : List E) (ps : List (Nat × E)) (x : Int) (xt : Nat) (cv : Option Value) (o : Nat × Value × Nat × Value) (dz dt : Nat) (u1 u2 u3 u4 u5 fep : Nat) (v1 v2 v3 v4 v5 : Value) (ex : List (Str × Nat × Value)) (sl : Array (Option Value)) (av : List Value) (aep2 : Nat) (s0 t : Nat) : List (Nat × Obj) := [((dz + (s0 + 1143)), tupObj [.ref (d + 1113), .ref (l + 1113)]), ((dz + (s0 + 1145)), dObj clsD none [] 0), ((dz + (s0 + 1146)), dObj clsC (some (dz + (s0 + 1145))) es es.length)]
theorem rTN4 (xs as : List Value) (n t1 t2 t3 d l dd ep lep aep : Nat) (es : List E) (ps : List (Nat × E)) (x : Int) (xt : Nat) (cv : Option Value) (o : Nat × Value × Nat × Value) (dz dt : Nat) (u1 u2 u3 u4 u5 fep : Nat) (v1 v2 v3 v4 v5 : Value) (ex : List (Str × Nat × Value)) (sl : Array (Option Value)) (av : List Value) (aep2 : Nat) (s0 t : Nat) (k : Result → Sem PySem.Fin) (g : Bool) (lv : List Value) (fb0 : List Stmt) (pos pos' : Pos) (kp : List Value) (ca1 : Args) (ps1 : Pos) (gens : List GenState) : chk (tR tP (tW b c w) (KK (tW b c w)) [((.builtin "claim.caller" ca1), ps1)] 247 (oTN4 (tW b c w).params xs as n t1 t2 t3 d l dd ep lep aep es ps x xt cv o dz dt u1 u2 u3 u4 u5 fep v1 v2 v3 v4 v5 ex sl av aep2 s0 t) (mkT (iTN4 (tW b c w).params xs as n t1 t2 t3 d l dd ep lep aep es ps x xt cv o dz dt u1 u2 u3 u4 u5 fep v1 v2 v3 v4 v5 ex sl av aep2 s0 t)) 8 (s0 + 1134) gens t [ps.map tpD] (tD cLaw) cLaw pos' [.ret k none g lv (.func fb0 envL) pos kp] [] []) (turnsL 8 [15, 16, 17]) = chk' (tR tP (tW b c w) (KK (tW b c w)) [((.builtin "claim.caller" ca1), ps1)] 247 (oTN4 (tW b c w).params xs as n t1 t2 t3 d l dd ep lep aep es ps x xt cv o dz dt u1 u2 u3 u4 u5 fep v1 v2 v3 v4 v5 ex sl av aep2 s0 t) (mkT (iTN4 (tW b c w).params xs as n t1 t2 t3 d l dd ep lep aep es ps x xt cv o dz dt u1 u2 u3 u4 u5 fep v1 v2 v3 v4 v5 ex sl av aep2 s0 t)) 8 (s0 + 1134) gens t [ps.map tpD] (tD cLaw) cLaw pos' [.ret k none g lv (.func fb0 envL) pos kp] [] [])
    (tD cLaw, cLaw, [.ret k none g lv (.func fb0 envL) pos kp], (dz + (s0 + 1160)), (t + 11 + dt + 5 + 23 + 1), appG gens [], (jTN4 (tW b c w).params xs as n t1 t2 t3 d l dd ep lep aep es ps x xt cv o dz dt u1 u2 u3 u4 u5 fep v1 v2 v3 v4 v5 ex sl av aep2 s0 t).map some, (nTN4 xs as n t1 t2 t3 d l dd ep lep aep es ps x xt cv o dz dt u1 u2 u3 u4 u5 fep v1 v2 v3 v4 v5 ex sl av aep2 s0 t).map some, [[], ps.map tpD]) := by
  cases b <;> kernel_rfl
end Mine
set_option linter.all false
namespace Mine
open PySem PySem.W
variable {b c : Bool} {w : World}
noncomputable def oT1h (P : Params) (xs as : List Value) (n t1 t2 t3 d l dd ep lep aep : Nat) (es : List E) (ps : List (Nat × E)) (x : Int) (xt : Nat) (cv : Option Value) (o : Nat × Value × Nat × Value) (dz dt : Nat) (u1 u2 u3 u4 u5 fep : Nat) (v1 v2 v3 v4 v5 : Value) (ex : List (Str × Nat × Value)) (sl : Array (Option Value)) (av : List Value) (aep2 : Nat) (o1 : Option (Nat × Value)) (av2 : List Value) (aep3 dz1 dt1 : Nat) (s0 t : Nat) : List Op := [.s 0, .k 0, .s 0, .a (fun _ _ _ => sLiNext 0 1 1133 1113 n xs 0 (.int x xt)), .s 2, .s 2, .s 2, .k 0, .s 2, .k 1, .s 2, .k 0, .s 8, .s 8, .s 8, .k 0, .s 8, .s 9, .s 9, .k 0, .s 9, .s 9, .s 9, .s 8, .s 9, .s 9, .s 9, .k 0, .s 9, .s 9, .s 9, .s 8, .s 9, .s 9, .s 9, .k 0, .s 9, .s 9, .s 9, .s 8, .s 9, .s 9, .s 9, .k 0, .s 9, .s 9, .s 9, .s 8, .s 9, .s 9, .s 11, .s 2, .s 2, .s 3, .s 3, .s 2, .s 2, .s 2, .s 5, .s 5, .k 0, .s 5, .s 12, .u (fun _ _ _ => (sHs P 12 5 14 3 13 (s0 + 1138) (l + 1113) (s0 + 1140) (s0 + 1139) lep (t + 6) 0 ((x.fdiv 5).fmod 4) ps (some o) av aep2 dz dt (s0 + 1141)).at (s0 + 1141) (t + 11)), .s 2, .s 2, .s 14, .s 14, .s 14, .s 14, .s 14, .s 14, .s 2, .k 0, .a (fun cc _ _ => sCmp "int.__eq__" (x.fmod 5) 0 false cc), .s 2, .k 0, .a (fun cc _ _ => sCmp "int.__eq__" (x.fmod 5) 1 true cc), .s 2, .s 3, .s 4, .k 0, .s 4, .k 6, .s 15, .s 15, .s 15, .s 15, .k 0, .s 15, .s 15, .s 4, .k 2, .s 4, .k 3, .s 4, .k 0, .a (fun cc _ _ => sHas clsC (some (dd + 1113)) 4 (d + 1113) es ep ((x.fdiv 5).fmod 4) (argTok cc 1) true), .k 4, .q (fun acts sz tok => mSupA selDel (.ref 1093) (str "self") acts sz tok), .s 15, .k 3, .s 16, .s 16, .k 0, .s 16, .k 0, .s 4, .s 4, .k 0, .s 16, .s 16, .s 16, .s 16, .s 16, .s 16, .s 16, .s 16, .k 0, .s 16, .s 16, .s 16, .s 16, .k 2, .s 4, .k 0, .s 15, .s 17, .k 0, .s 17, .a (fun cc _ _ => sDel (dd + 1113) 4 (d + 1113) es ep ((x.fdiv 5).fmod 4) (argTok cc 1)), .k 0, .s 2, .s 3, .k 0, .u (fun _ _ _ => (sWo P 5 (l + 1113) lep (t + 6) 1 ((x.fdiv 5).fmod 4) ps o1 av2 aep3 dz1 dt1 (dz + (s0 + 1146))).at (dz + (s0 + 1146)) (t + 11 + dt + 8)), .s 2, .s 2]
noncomputable def iT1h (P : Params) (xs as : List Value) (n t1 t2 t3 d l dd ep lep aep : Nat) (es : List E) (ps : List (Nat × E)) (x : Int) (xt : Nat) (cv : Option Value) (o : Nat × Value × Nat × Value) (dz dt : Nat) (u1 u2 u3 u4 u5 fep : Nat) (v1 v2 v3 v4 v5 : Value) (ex : List (Str × Nat × Value)) (sl : Array (Option Value)) (av : List Value) (aep2 : Nat) (o1 : Option (Nat × Value)) (av2 : List Value) (aep3 dz1 dt1 : Nat) (s0 t : Nat) : List (Nat × Obj) := [(1133, liObj 1113 n), (1113, lsObj xs 0), (1114, frG P ([(str "aside", t1, .ref 1128), (str "state", t2, .ref (l + 1113)), (str "bag", t3, .ref (d + 1113)), (str "x", u1, v1), (str "kind", u2, v2), (str "amount", u3, v3), (str "held", u4, v4)] ++ ex) fep sl), (1116, ceObj cv), (d + 1113, dObj clsC (some (dd + 1113)) es ep), (l + 1113, lsObj (ps.map rfD) lep), (1128, lsObj as aep), (dd + 1113, dObj clsD none [] 0)]
noncomputable def jT1h (P : Params) (xs as : List Value) (n t1 t2 t3 d l dd ep lep aep : Nat) (es : List E) (ps : List (Nat × E)) (x : Int) (xt : Nat) (cv : Option Value) (o : Nat × Value × Nat × Value) (dz dt : Nat) (u1 u2 u3 u4 u5 fep : Nat) (v1 v2 v3 v4 v5 : Value) (ex : List (Str × Nat × Value)) (sl : Array (Option Value)) (av : List Value) (aep2 : Nat) (o1 : Option (Nat × Value)) (av2 : List Value) (aep3 dz1 dt1 : Nat) (s0 t : Nat) : List (Nat × Obj) := [(1133, liObj 1113 (n + 1)), (1113, lsObj xs 0), (1114, frG P ([(str "aside", t1, .ref 1128), (str "state", t2, .ref (dz + (s0 + 1149))), (str "bag", t3, .ref (d + 1113)), (str "x", u1, .int x xt), (str "kind", u2, .int (x.fmod 5) (t + 2)), (str "amount", u3, .int (x.fdiv 20) (t + 8)), (str "held", u4, .ref (s0 + 1139))] ++ ex) fep sl), (1116, ceObj (some (.int ((x.fdiv 5).fmod 4) (t + 6)))), (d + 1113, dObj clsC (some (dd + 1113)) (esDel es ((x.fdiv 5).fmod 4)) (ep + 1)), (l + 1113, lsObj (ps.map rfD) lep), (1128, lsObj as aep), (dd + 1113, dObj clsD none [] 0)]
noncomputable def nT1h (xs as : List Value) (n t1 t2 t3 d l dd ep lep aep : Nat) (es : List E) (ps : List (Nat × E)) (x : Int) (xt : Nat) (cv : Option Value) (o : Nat × Value × Nat × Value) (dz dt : Nat) (u1 u2 u3 u4 u5 fep : Nat) (v1 v2 v3 v4 v5 : Value) (ex : List (Str × Nat × Value)) (sl : Array (Option Value)) (av : List Value) (aep2 : Nat) (o1 : Option (Nat × Value)) (av2 : List Value) (aep3 dz1 dt1 : Nat) (s0 t : Nat) : List (Nat × Obj) := [((dz + (s0 + 1149)), lsObj av2 aep3)]
theorem rT1h (xs as : List Value) (n t1 t2 t3 d l dd ep lep aep : Nat) (es : List E) (ps : List (Nat × E)) (x : Int) (xt : Nat) (cv : Option Value) (o : Nat × Value × Nat × Value) (dz dt : Nat) (u1 u2 u3 u4 u5 fep : Nat) (v1 v2 v3 v4 v5 : Value) (ex : List (Str × Nat × Value)) (sl : Array (Option Value)) (av : List Value) (aep2 : Nat) (o1 : Option (Nat × Value)) (av2 : List Value) (aep3 dz1 dt1 : Nat) (s0 t : Nat) (k : Result → Sem PySem.Fin) (g : Bool) (lv : List Value) (fb0 : List Stmt) (pos pos' : Pos) (kp : List Value) (ca1 : Args) (ps1 : Pos) (gens : List GenState) : chk (tR tP (tW b c w) (KK (tW b c w)) [((.builtin "claim.caller" ca1), ps1)] 301 (oT1h (tW b c w).params xs as n t1 t2 t3 d l dd ep lep aep es ps x xt cv o dz dt u1 u2 u3 u4 u5 fep v1 v2 v3 v4 v5 ex sl av aep2 o1 av2 aep3 dz1 dt1 s0 t) (mkT (iT1h (tW b c w).params xs as n t1 t2 t3 d l dd ep lep aep es ps x xt cv o dz dt u1 u2 u3 u4 u5 fep v1 v2 v3 v4 v5 ex sl av aep2 o1 av2 aep3 dz1 dt1 s0 t)) 8 (s0 + 1134) gens t [ps.map tpD] (tD cLaw) cLaw pos' [.ret k none g lv (.func fb0 envL) pos kp] [] []) (turnsL 8 [18]) = chk' (tR tP (tW b c w) (KK (tW b c w)) [((.builtin "claim.caller" ca1), ps1)] 301 (oT1h (tW b c w).params xs as n t1 t2 t3 d l dd ep lep aep es ps x xt cv o dz dt u1 u2 u3 u4 u5 fep v1 v2 v3 v4 v5 ex sl av aep2 o1 av2 aep3 dz1 dt1 s0 t) (mkT (iT1h (tW b c w).params xs as n t1 t2 t3 d l dd ep lep aep es ps x xt cv o dz dt u1 u2 u3 u4 u5 fep v1 v2 v3 v4 v5 ex sl av aep2 o1 av2 aep3 dz1 dt1 s0 t)) 8 (s0 + 1134) gens t [ps.map tpD] (tD cLaw) cLaw pos' [.ret k none g lv (.func fb0 envL) pos kp] [] [])
    (tD cLaw, cLaw, [.ret k none g lv (.func fb0 envL) pos kp], (dz1 + (dz + (s0 + 1153))), (t + 11 + dt + 8 + (dt1 + 1) + 1), appG gens [], (jT1h (tW b c w).params xs as n t1 t2 t3 d l dd ep lep aep es ps x xt cv o dz dt u1 u2 u3 u4 u5 fep v1 v2 v3 v4 v5 ex sl av aep2 o1 av2 aep3 dz1 dt1 s0 t).map some, (nT1h xs as n t1 t2 t3 d l dd ep lep aep es ps x xt cv o dz dt u1 u2 u3 u4 u5 fep v1 v2 v3 v4 v5 ex sl av aep2 o1 av2 aep3 dz1 dt1 s0 t).map some, [[], [], ps.map tpD]) := by
  cases b <;> kernel_rfl
noncomputable def oT1ms (P : Params) (xs as : List Value) (n t1 t2 t3 d l dd ep lep aep : Nat) (es : List E) (ps : List (Nat × E)) (x : Int) (xt : Nat) (cv : Option Value) (o : Nat × Value × Nat × Value) (dz dt : Nat) (u1 u2 u3 u4 u5 fep : Nat) (v1 v2 v3 v4 v5 : Value) (ex : List (Str × Nat × Value)) (sl : Array (Option Value)) (av : List Value) (aep2 : Nat) (o1 : Option (Nat × Value)) (av2 : List Value) (aep3 dz1 dt1 : Nat) (s0 t : Nat) : List Op := [.s 0, .k 0, .s 0, .a (fun _ _ _ => sLiNext 0 1 1133 1113 n xs 0 (.int x xt)), .s 2, .s 2, .s 2, .k 0, .s 2, .k 1, .s 2, .k 0, .s 8, .s 8, .s 8, .k 0, .s 8, .s 9, .s 9, .k 0, .s 9, .s 9, .s 9, .s 8, .s 9, .s 9, .s 9, .k 0, .s 9, .s 9, .s 9, .s 8, .s 9, .s 9, .s 9, .k 0, .s 9, .s 9, .s 9, .s 8, .s 9, .s 9, .s 9, .k 0, .s 9, .s 9, .s 9, .s 8, .s 9, .s 9, .s 11, .s 2, .s 2, .s 3, .s 3, .s 2, .s 2, .s 2, .s 5, .s 5, .k 0, .s 5, .s 12, .u (fun _ _ _ => (sHs P 12 5 14 3 13 (s0 + 1138) (l + 1113) (s0 + 1140) (s0 + 1139) lep (t + 6) 0 ((x.fdiv 5).fmod 4) ps (some o) av aep2 dz dt (s0 + 1141)).at (s0 + 1141) (t + 11)), .s 2, .s 2, .s 14, .s 14, .s 14, .s 14, .s 14, .s 14, .s 2, .k 0, .a (fun cc _ _ => sCmp "int.__eq__" (x.fmod 5) 0 false cc), .s 2, .k 0, .a (fun cc _ _ => sCmp "int.__eq__" (x.fmod 5) 1 true cc), .s 2, .s 3, .s 4, .k 0, .s 4, .k 6, .s 15, .s 15, .s 15, .s 15, .k 0, .s 15, .s 15, .s 4, .k 2, .s 4, .k 3, .s 4, .k 0, .a (fun cc _ _ => sHas clsC (some (dd + 1113)) 4 (d + 1113) es ep ((x.fdiv 5).fmod 4) (argTok cc 1) false), .k 0, .s 2, .s 3, .k 0, .u (fun _ _ _ => (sWo P 5 (l + 1113) lep (t + 6) 1 ((x.fdiv 5).fmod 4) ps o1 av2 aep3 dz1 dt1 (dz + (s0 + 1144))).at (dz + (s0 + 1144)) (t + 11 + dt + 6)), .s 2, .s 2]
noncomputable def iT1ms (P : Params) (xs as : List Value) (n t1 t2 t3 d l dd ep lep aep : Nat) (es : List E) (ps : List (Nat × E)) (x : Int) (xt : Nat) (cv : Option Value) (o : Nat × Value × Nat × Value) (dz dt : Nat) (u1 u2 u3 u4 u5 fep : Nat) (v1 v2 v3 v4 v5 : Value) (ex : List (Str × Nat × Value)) (sl : Array (Option Value)) (av : List Value) (aep2 : Nat) (o1 : Option (Nat × Value)) (av2 : List Value) (aep3 dz1 dt1 : Nat) (s0 t : Nat) : List (Nat × Obj) := [(1133, liObj 1113 n), (1113, lsObj xs 0), (1114, frG P ([(str "aside", t1, .ref 1128), (str "state", t2, .ref (l + 1113)), (str "bag", t3, .ref (d + 1113)), (str "x", u1, v1), (str "kind", u2, v2), (str "amount", u3, v3), (str "held", u4, v4)] ++ ex) fep sl), (1116, ceObj cv), (d + 1113, dObj clsC (some (dd + 1113)) es ep), (l + 1113, lsObj (ps.map rfD) lep), (1128, lsObj as aep), (dd + 1113, dObj clsD none [] 0)]
noncomputable def jT1ms (P : Params) (xs as : List Value) (n t1 t2 t3 d l dd ep lep aep : Nat) (es : List E) (ps : List (Nat × E)) (x : Int) (xt : Nat) (cv : Option Value) (o : Nat × Value × Nat × Value) (dz dt : Nat) (u1 u2 u3 u4 u5 fep : Nat) (v1 v2 v3 v4 v5 : Value) (ex : List (Str × Nat × Value)) (sl : Array (Option Value)) (av : List Value) (aep2 : Nat) (o1 : Option (Nat × Value)) (av2 : List Value) (aep3 dz1 dt1 : Nat) (s0 t : Nat) : List (Nat × Obj) := [(1133, liObj 1113 (n + 1)), (1113, lsObj xs 0), (1114, frG P ([(str "aside", t1, .ref 1128), (str "state", t2, .ref (dz + (s0 + 1147))), (str "bag", t3, .ref (d + 1113)), (str "x", u1, .int x xt), (str "kind", u2, .int (x.fmod 5) (t + 2)), (str "amount", u3, .int (x.fdiv 20) (t + 8)), (str "held", u4, .ref (s0 + 1139))] ++ ex) fep sl), (1116, ceObj (some (.int ((x.fdiv 5).fmod 4) (t + 6)))), (d + 1113, dObj clsC (some (dd + 1113)) es ep), (l + 1113, lsObj (ps.map rfD) lep), (1128, lsObj as aep), (dd + 1113, dObj clsD none [] 0)]
noncomputable def nT1ms (xs as : List Value) (n t1 t2 t3 d l dd ep lep aep : Nat) (es : List E) (ps : List (Nat × E)) (x : Int) (xt : Nat) (cv : Option Value) (o : Nat × Value × Nat × Value) (dz dt : Nat) (u1 u2 u3 u4 u5 fep : Nat) (v1 v2 v3 v4 v5 : Value) (ex : List (Str × Nat × Value)) (sl : Array (Option Value)) (av : List Value) (aep2 : Nat) (o1 : Option (Nat × Value)) (av2 : List Value) (aep3 dz1 dt1 : Nat) (s0 t : Nat) : List (Nat × Obj) := [((dz + (s0 + 1147)), lsObj av2 aep3)]
theorem rT1ms (xs as : List Value) (n t1 t2 t3 d l dd ep lep aep : Nat) (es : List E) (ps : List (Nat × E)) (x : Int) (xt : Nat) (cv : Option Value) (o : Nat × Value × Nat × Value) (dz dt : Nat) (u1 u2 u3 u4 u5 fep : Nat) (v1 v2 v3 v4 v5 : Value) (ex : List (Str × Nat × Value)) (sl : Array (Option Value)) (av : List Value) (aep2 : Nat) (o1 : Option (Nat × Value)) (av2 : List Value) (aep3 dz1 dt1 : Nat) (s0 t : Nat) (k : Result → Sem PySem.Fin) (g : Bool) (lv : List Value) (fb0 : List Stmt) (pos pos' : Pos) (kp : List Value) (ca1 : Args) (ps1 : Pos) (gens : List GenState) : chk (tR tP (tW b c w) (KK (tW b c w)) [((.builtin "claim.caller" ca1), ps1)] 238 (oT1ms (tW b c w).params xs as n t1 t2 t3 d l dd ep lep aep es ps x xt cv o dz dt u1 u2 u3 u4 u5 fep v1 v2 v3 v4 v5 ex sl av aep2 o1 av2 aep3 dz1 dt1 s0 t) (mkT (iT1ms (tW b c w).params xs as n t1 t2 t3 d l dd ep lep aep es ps x xt cv o dz dt u1 u2 u3 u4 u5 fep v1 v2 v3 v4 v5 ex sl av aep2 o1 av2 aep3 dz1 dt1 s0 t)) 8 (s0 + 1134) gens t [ps.map tpD] (tD cLaw) cLaw pos' [.ret k none g lv (.func fb0 envL) pos kp] [] []) (turnsL 8 [16]) = chk' (tR tP (tW b c w) (KK (tW b c w)) [((.builtin "claim.caller" ca1), ps1)] 238 (oT1ms (tW b c w).params xs as n t1 t2 t3 d l dd ep lep aep es ps x xt cv o dz dt u1 u2 u3 u4 u5 fep v1 v2 v3 v4 v5 ex sl av aep2 o1 av2 aep3 dz1 dt1 s0 t) (mkT (iT1ms (tW b c w).params xs as n t1 t2 t3 d l dd ep lep aep es ps x xt cv o dz dt u1 u2 u3 u4 u5 fep v1 v2 v3 v4 v5 ex sl av aep2 o1 av2 aep3 dz1 dt1 s0 t)) 8 (s0 + 1134) gens t [ps.map tpD] (tD cLaw) cLaw pos' [.ret k none g lv (.func fb0 envL) pos kp] [] [])
    (tD cLaw, cLaw, [.ret k none g lv (.func fb0 envL) pos kp], (dz1 + (dz + (s0 + 1151))), (t + 11 + dt + 6 + (dt1 + 1) + 1), appG gens [], (jT1ms (tW b c w).params xs as n t1 t2 t3 d l dd ep lep aep es ps x xt cv o dz dt u1 u2 u3 u4 u5 fep v1 v2 v3 v4 v5 ex sl av aep2 o1 av2 aep3 dz1 dt1 s0 t).map some, (nT1ms xs as n t1 t2 t3 d l dd ep lep aep es ps x xt cv o dz dt u1 u2 u3 u4 u5 fep v1 v2 v3 v4 v5 ex sl av aep2 o1 av2 aep3 dz1 dt1 s0 t).map some, [[], [], ps.map tpD]) := by
  cases b <;> kernel_rfl
noncomputable def oT1mn (P : Params) (xs as : List Value) (n t1 t2 t3 d l dd ep lep aep : Nat) (es : List E) (ps : List (Nat × E)) (x : Int) (xt : Nat) (cv : Option Value) (o : Nat × Value × Nat × Value) (dz dt : Nat) (u1 u2 u3 u4 u5 fep : Nat) (v1 v2 v3 v4 v5 : Value) (ex : List (Str × Nat × Value)) (sl : Array (Option Value)) (av : List Value) (aep2 : Nat) (o1 : Option (Nat × Value)) (av2 : List Value) (aep3 dz1 dt1 : Nat) (s0 t : Nat) : List Op := [.s 0, .k 0, .s 0, .a (fun _ _ _ => sLiNext 0 1 1133 1113 n xs 0 (.int x xt)), .s 2, .s 2, .s 2, .k 0, .s 2, .k 1, .s 2, .k 0, .s 8, .s 8, .s 8, .k 0, .s 8, .s 9, .s 9, .k 0, .s 9, .s 9, .s 9, .s 8, .s 9, .s 9, .s 9, .k 0, .s 9, .s 9, .s 9, .s 8, .s 9, .s 9, .s 9, .k 0, .s 9, .s 9, .s 9, .s 8, .s 9, .s 9, .s 9, .k 0, .s 9, .s 9, .s 9, .s 8, .s 9, .s 9, .s 11, .s 2, .s 2, .s 3, .s 3, .s 2, .s 2, .s 2, .s 5, .s 5, .k 0, .s 5, .s 12, .u (fun _ _ _ => (sHs P 12 5 14 3 13 (s0 + 1138) (l + 1113) (s0 + 1140) (s0 + 1139) lep (t + 6) 0 ((x.fdiv 5).fmod 4) ps none av aep2 dz dt (s0 + 1141)).at (s0 + 1141) (t + 11)), .s 2, .s 2, .s 14, .s 14, .s 2, .k 0, .a (fun cc _ _ => sCmp "int.__eq__" (x.fmod 5) 0 false cc), .s 2, .k 0, .a (fun cc _ _ => sCmp "int.__eq__" (x.fmod 5) 1 true cc), .s 2, .s 3, .s 4, .k 0, .s 4, .k 6, .s 15, .s 15, .s 15, .s 15, .k 0, .s 15, .s 15, .s 4, .k 2, .s 4, .k 3, .s 4, .k 0, .a (fun cc _ _ => sHas clsC (some (dd + 1113)) 4 (d + 1113) es ep ((x.fdiv 5).fmod 4) (argTok cc 1) false), .k 0, .s 2, .s 3, .k 0, .u (fun _ _ _ => (sWo P 5 (l + 1113) lep (t + 6) 1 ((x.fdiv 5).fmod 4) ps o1 av2 aep3 dz1 dt1 (dz + (s0 + 1144))).at (dz + (s0 + 1144)) (t + 11 + dt + 6)), .s 2, .s 2]
noncomputable def iT1mn (P : Params) (xs as : List Value) (n t1 t2 t3 d l dd ep lep aep : Nat) (es : List E) (ps : List (Nat × E)) (x : Int) (xt : Nat) (cv : Option Value) (o : Nat × Value × Nat × Value) (dz dt : Nat) (u1 u2 u3 u4 u5 fep : Nat) (v1 v2 v3 v4 v5 : Value) (ex : List (Str × Nat × Value)) (sl : Array (Option Value)) (av : List Value) (aep2 : Nat) (o1 : Option (Nat × Value)) (av2 : List Value) (aep3 dz1 dt1 : Nat) (s0 t : Nat) : List (Nat × Obj) := [(1133, liObj 1113 n), (1113, lsObj xs 0), (1114, frG P ([(str "aside", t1, .ref 1128), (str "state", t2, .ref (l + 1113)), (str "bag", t3, .ref (d + 1113)), (str "x", u1, v1), (str "kind", u2, v2), (str "amount", u3, v3), (str "held", u4, v4)] ++ ex) fep sl), (1116, ceObj cv), (d + 1113, dObj clsC (some (dd + 1113)) es ep), (l + 1113, lsObj (ps.map rfD) lep), (1128, lsObj as aep), (dd + 1113, dObj clsD none [] 0)]
noncomputable def jT1mn (P : Params) (xs as : List Value) (n t1 t2 t3 d l dd ep lep aep : Nat) (es : List E) (ps : List (Nat × E)) (x : Int) (xt : Nat) (cv : Option Value) (o : Nat × Value × Nat × Value) (dz dt : Nat) (u1 u2 u3 u4 u5 fep : Nat) (v1 v2 v3 v4 v5 : Value) (ex : List (Str × Nat × Value)) (sl : Array (Option Value)) (av : List Value) (aep2 : Nat) (o1 : Option (Nat × Value)) (av2 : List Value) (aep3 dz1 dt1 : Nat) (s0 t : Nat) : List (Nat × Obj) := [(1133, liObj 1113 (n + 1)), (1113, lsObj xs 0), (1114, frG P ([(str "aside", t1, .ref 1128), (str "state", t2, .ref (dz + (s0 + 1147))), (str "bag", t3, .ref (d + 1113)), (str "x", u1, .int x xt), (str "kind", u2, .int (x.fmod 5) (t + 2)), (str "amount", u3, .int (x.fdiv 20) (t + 8)), (str "held", u4, .ref (s0 + 1139))] ++ ex) fep sl), (1116, ceObj (some (.int ((x.fdiv 5).fmod 4) (t + 6)))), (d + 1113, dObj clsC (some (dd + 1113)) es ep), (l + 1113, lsObj (ps.map rfD) lep), (1128, lsObj as aep), (dd + 1113, dObj clsD none [] 0)]
noncomputable def nT1mn (xs as : List Value) (n t1 t2 t3 d l dd ep lep aep : Nat) (es : List E) (ps : List (Nat × E)) (x : Int) (xt : Nat) (cv : Option Value) (o : Nat × Value × Nat × Value) (dz dt : Nat) (u1 u2 u3 u4 u5 fep : Nat) (v1 v2 v3 v4 v5 : Value) (ex : List (Str × Nat × Value)) (sl : Array (Option Value)) (av : List Value) (aep2 : Nat) (o1 : Option (Nat × Value)) (av2 : List Value) (aep3 dz1 dt1 : Nat) (s0 t : Nat) : List (Nat × Obj) := [((dz + (s0 + 1147)), lsObj av2 aep3)]
theorem rT1mn (xs as : List Value) (n t1 t2 t3 d l dd ep lep aep : Nat) (es : List E) (ps : List (Nat × E)) (x : Int) (xt : Nat) (cv : Option Value) (o : Nat × Value × Nat × Value) (dz dt : Nat) (u1 u2 u3 u4 u5 fep : Nat) (v1 v2 v3 v4 v5 : Value) (ex : List (Str × Nat × Value)) (sl : Array (Option Value)) (av : List Value) (aep2 : Nat) (o1 : Option (Nat × Value)) (av2 : List Value) (aep3 dz1 dt1 : Nat) (s0 t : Nat) (k : Result → Sem PySem.Fin) (g : Bool) (lv : List Value) (fb0 : List Stmt) (pos pos' : Pos) (kp : List Value) (ca1 : Args) (ps1 : Pos) (gens : List GenState) : chk (tR tP (tW b c w) (KK (tW b c w)) [((.builtin "claim.caller" ca1), ps1)] 230 (oT1mn (tW b c w).params xs as n t1 t2 t3 d l dd ep lep aep es ps x xt cv o dz dt u1 u2 u3 u4 u5 fep v1 v2 v3 v4 v5 ex sl av aep2 o1 av2 aep3 dz1 dt1 s0 t) (mkT (iT1mn (tW b c w).params xs as n t1 t2 t3 d l dd ep lep aep es ps x xt cv o dz dt u1 u2 u3 u4 u5 fep v1 v2 v3 v4 v5 ex sl av aep2 o1 av2 aep3 dz1 dt1 s0 t)) 8 (s0 + 1134) gens t [ps.map tpD] (tD cLaw) cLaw pos' [.ret k none g lv (.func fb0 envL) pos kp] [] []) (turnsL 8 [16]) = chk' (tR tP (tW b c w) (KK (tW b c w)) [((.builtin "claim.caller" ca1), ps1)] 230 (oT1mn (tW b c w).params xs as n t1 t2 t3 d l dd ep lep aep es ps x xt cv o dz dt u1 u2 u3 u4 u5 fep v1 v2 v3 v4 v5 ex sl av aep2 o1 av2 aep3 dz1 dt1 s0 t) (mkT (iT1mn (tW b c w).params xs as n t1 t2 t3 d l dd ep lep aep es ps x xt cv o dz dt u1 u2 u3 u4 u5 fep v1 v2 v3 v4 v5 ex sl av aep2 o1 av2 aep3 dz1 dt1 s0 t)) 8 (s0 + 1134) gens t [ps.map tpD] (tD cLaw) cLaw pos' [.ret k none g lv (.func fb0 envL) pos kp] [] [])
    (tD cLaw, cLaw, [.ret k none g lv (.func fb0 envL) pos kp], (dz1 + (dz + (s0 + 1151))), (t + 11 + dt + 6 + (dt1 + 1) + 1), appG gens [], (jT1mn (tW b c w).params xs as n t1 t2 t3 d l dd ep lep aep es ps x xt cv o dz dt u1 u2 u3 u4 u5 fep v1 v2 v3 v4 v5 ex sl av aep2 o1 av2 aep3 dz1 dt1 s0 t).map some, (nT1mn xs as n t1 t2 t3 d l dd ep lep aep es ps x xt cv o dz dt u1 u2 u3 u4 u5 fep v1 v2 v3 v4 v5 ex sl av aep2 o1 av2 aep3 dz1 dt1 s0 t).map some, [[], [], ps.map tpD]) := by
  cases b <;> kernel_rfl
noncomputable def oTN1 (P : Params) (xs as : List Value) (n t1 t2 t3 d l dd ep lep aep : Nat) (es : List E) (ps : List (Nat × E)) (x : Int) (xt : Nat) (cv : Option Value) (o : Nat × Value × Nat × Value) (dz dt : Nat) (u1 u2 u3 u4 u5 fep : Nat) (v1 v2 v3 v4 v5 : Value) (ex : List (Str × Nat × Value)) (sl : Array (Option Value)) (av : List Value) (aep2 : Nat) (o1 : Option (Nat × Value)) (av2 : List Value) (aep3 dz1 dt1 : Nat) (s0 t : Nat) : List Op := [.s 0, .k 0, .s 0, .a (fun _ _ _ => sLiNext 0 1 1133 1113 n xs 0 (.int x xt)), .s 2, .s 2, .s 2, .k 0, .s 2, .k 1, .s 2, .k 0, .s 8, .s 8, .s 8, .k 0, .s 8, .s 9, .s 9, .k 0, .s 9, .s 9, .s 9, .s 8, .s 9, .s 9, .s 9, .k 0, .s 9, .s 9, .s 9, .s 8, .s 9, .s 9, .s 9, .k 0, .s 9, .s 9, .s 9, .s 8, .s 9, .s 9, .s 9, .k 0, .s 9, .s 9, .s 9, .s 8, .s 9, .s 9, .s 11, .s 2, .s 2, .s 3, .s 3, .s 2, .s 2, .s 2, .s 5, .s 5, .k 0, .s 5, .s 12, .u (fun _ _ _ => (sHs P 12 5 14 3 13 (s0 + 1138) (l + 1113) (s0 + 1140) (s0 + 1139) lep (t + 6) 0 ((x.fdiv 5).fmod 4) ps none av aep2 dz dt (s0 + 1141)).at (s0 + 1141) (t + 11)), .s 2, .s 2, .s 14, .s 14, .s 2, .k 0, .a (fun cc _ _ => sCmp "int.__eq__" (x.fmod 5) 0 false cc), .s 2, .k 0, .a (fun cc _ _ => sCmp "int.__eq__" (x.fmod 5) 1 true cc), .s 2, .s 3, .s 4, .k 0, .s 4, .k 6, .s 15, .s 15, .s 15, .s 15, .k 0, .s 15, .s 15, .s 4, .k 2, .s 4, .k 3, .s 4, .k 0, .a (fun cc _ _ => sHas clsC (some (dd + 1113)) 4 (d + 1113) es ep ((x.fdiv 5).fmod 4) (argTok cc 1) false), .k 0, .s 2, .s 3, .k 0, .u (fun _ _ _ => (sWo P 5 (l + 1113) lep (t + 6) 1 ((x.fdiv 5).fmod 4) ps o1 av2 aep3 dz1 dt1 (dz + (s0 + 1144))).at (dz + (s0 + 1144)) (t + 11 + dt + 6)), .s 2, .s 2]
noncomputable def iTN1 (P : Params) (xs as : List Value) (n t1 t2 t3 d l dd ep lep aep : Nat) (es : List E) (ps : List (Nat × E)) (x : Int) (xt : Nat) (cv : Option Value) (o : Nat × Value × Nat × Value) (dz dt : Nat) (u1 u2 u3 u4 u5 fep : Nat) (v1 v2 v3 v4 v5 : Value) (ex : List (Str × Nat × Value)) (sl : Array (Option Value)) (av : List Value) (aep2 : Nat) (o1 : Option (Nat × Value)) (av2 : List Value) (aep3 dz1 dt1 : Nat) (s0 t : Nat) : List (Nat × Obj) := [(1133, liObj 1113 n), (1113, lsObj xs 0), (1114, frG P [(str "aside", t1, .ref 1128), (str "state", t2, .ref (l + 1113)), (str "bag", t3, .ref (d + 1113))] 3 #[]), (1116, ceObj cv), (d + 1113, dObj clsC (some (dd + 1113)) es ep), (l + 1113, lsObj (ps.map rfD) lep), (1128, lsObj as aep), (dd + 1113, dObj clsD none [] 0)]
noncomputable def jTN1 (P : Params) (xs as : List Value) (n t1 t2 t3 d l dd ep lep aep : Nat) (es : List E) (ps : List (Nat × E)) (x : Int) (xt : Nat) (cv : Option Value) (o : Nat × Value × Nat × Value) (dz dt : Nat) (u1 u2 u3 u4 u5 fep : Nat) (v1 v2 v3 v4 v5 : Value) (ex : List (Str × Nat × Value)) (sl : Array (Option Value)) (av : List Value) (aep2 : Nat) (o1 : Option (Nat × Value)) (av2 : List Value) (aep3 dz1 dt1 : Nat) (s0 t : Nat) : List (Nat × Obj) := [(1133, liObj 1113 (n + 1)), (1113, lsObj xs 0), (1114, frG P [(str "aside", t1, .ref 1128), (str "state", t2, .ref (dz + (s0 + 1147))), (str "bag", t3, .ref (d + 1113)), (str "x", t, .int x xt), (str "kind", (t + 9), .int (x.fmod 5) (t + 2)), (str "amount", (t + 10), .int (x.fdiv 20) (t + 8)), (str "held", (t + 11 + dt), .ref (s0 + 1139))] 7 #[]), (1116, ceObj (some (.int ((x.fdiv 5).fmod 4) (t + 6)))), (d + 1113, dObj clsC (some (dd + 1113)) es ep), (l + 1113, lsObj (ps.map rfD) lep), (1128, lsObj as aep), (dd + 1113, dObj clsD none [] 0)]
noncomputable def nTN1 (xs as : List Value) (n t1 t2 t3 d l dd ep lep aep : Nat) (es : List E) (ps : List (Nat × E)) (x : Int) (xt : Nat) (cv : Option Value) (o : Nat × Value × Nat × Value) (dz dt : Nat) (u1 u2 u3 u4 u5 fep : Nat) (v1 v2 v3 v4 v5 : Value) (ex : List (Str × Nat × Value)) (sl : Array (Option Value)) (av : List Value) (aep2 : Nat) (o1 : Option (Nat × Value)) (av2 : List Value) (aep3 dz1 dt1 : Nat) (s0 t : Nat) : List (Nat × Obj) := [((dz + (s0 + 1147)), lsObj av2 aep3)]
theorem rTN1 (xs as : List Value) (n t1 t2 t3 d l dd ep lep aep : Nat) (es : List E) (ps : List (Nat × E)) (x : Int) (xt : Nat) (cv : Option Value) (o : Nat × Value × Nat × Value) (dz dt : Nat) (u1 u2 u3 u4 u5 fep : Nat) (v1 v2 v3 v4 v5 : Value) (ex : List (Str × Nat × Value)) (sl : Array (Option Value)) (av : List Value) (aep2 : Nat) (o1 : Option (Nat × Value)) (av2 : List Value) (aep3 dz1 dt1 : Nat) (s0 t : Nat) (k : Result → Sem PySem.Fin) (g : Bool) (lv : List Value) (fb0 : List Stmt) (pos pos' : Pos) (kp : List Value) (ca1 : Args) (ps1 : Pos) (gens : List GenState) : chk (tR tP (tW b c w) (KK (tW b c w)) [((.builtin "claim.caller" ca1), ps1)] 230 (oTN1 (tW b c w).params xs as n t1 t2 t3 d l dd ep lep aep es ps x xt cv o dz dt u1 u2 u3 u4 u5 fep v1 v2 v3 v4 v5 ex sl av aep2 o1 av2 aep3 dz1 dt1 s0 t) (mkT (iTN1 (tW b c w).params xs as n t1 t2 t3 d l dd ep lep aep es ps x xt cv o dz dt u1 u2 u3 u4 u5 fep v1 v2 v3 v4 v5 ex sl av aep2 o1 av2 aep3 dz1 dt1 s0 t)) 8 (s0 + 1134) gens t [ps.map tpD] (tD cLaw) cLaw pos' [.ret k none g lv (.func fb0 envL) pos kp] [] []) (turnsL 8 [16]) = chk' (tR tP (tW b c w) (KK (tW b c w)) [((.builtin "claim.caller" ca1), ps1)] 230 (oTN1 (tW b c w).params xs as n t1 t2 t3 d l dd ep lep aep es ps x xt cv o dz dt u1 u2 u3 u4 u5 fep v1 v2 v3 v4 v5 ex sl av aep2 o1 av2 aep3 dz1 dt1 s0 t) (mkT (iTN1 (tW b c w).params xs as n t1 t2 t3 d l dd ep lep aep es ps x xt cv o dz dt u1 u2 u3 u4 u5 fep v1 v2 v3 v4 v5 ex sl av aep2 o1 av2 aep3 dz1 dt1 s0 t)) 8 (s0 + 1134) gens t [ps.map tpD] (tD cLaw) cLaw pos' [.ret k none g lv (.func fb0 envL) pos kp] [] [])
    (tD cLaw, cLaw, [.ret k none g lv (.func fb0 envL) pos kp], (dz1 + (dz + (s0 + 1151))), (t + 11 + dt + 6 + (dt1 + 1) + 1), appG gens [], (jTN1 (tW b c w).params xs as n t1 t2 t3 d l dd ep lep aep es ps x xt cv o dz dt u1 u2 u3 u4 u5 fep v1 v2 v3 v4 v5 ex sl av aep2 o1 av2 aep3 dz1 dt1 s0 t).map some, (nTN1 xs as n t1 t2 t3 d l dd ep lep aep es ps x xt cv o dz dt u1 u2 u3 u4 u5 fep v1 v2 v3 v4 v5 ex sl av aep2 o1 av2 aep3 dz1 dt1 s0 t).map some, [[], [], ps.map tpD]) := by
  cases b <;> kernel_rfl
noncomputable def oT3hE (P : Params) (xs as : List Value) (n t1 t2 t3 d l dd ep lep aep : Nat) (es : List E) (ps : List (Nat × E)) (x : Int) (xt : Nat) (cv : Option Value) (o : Nat × Value × Nat × Value) (dz dt : Nat) (u1 u2 u3 u4 u5 fep : Nat) (v1 v2 v3 v4 v5 : Value) (ex : List (Str × Nat × Value)) (sl : Array (Option Value)) (v v' : Int) (u u' : Nat) (o1 : Option (Nat × Value)) (av2 : List Value) (aep3 dz1 dt1 : Nat) (s0 t : Nat) : List Op := [.s 0, .k 0, .s 0, .a (fun _ _ _ => sLiNext 0 1 1133 1113 n xs 0 (.int x xt)), .s 2, .s 2, .s 2, .k 0, .s 2, .k 1, .s 2, .k 0, .s 8, .s 8, .s 8, .k 0, .s 8, .s 9, .s 9, .k 0, .s 9, .s 9, .s 9, .s 8, .s 9, .s 9, .s 9, .k 0, .s 9, .s 9, .s 9, .s 8, .s 9, .s 9, .s 9, .k 0, .s 9, .s 9, .s 9, .s 8, .s 9, .s 9, .s 9, .k 0, .s 9, .s 9, .s 9, .s 8, .s 9, .s 9, .s 11, .s 2, .s 2, .s 3, .s 3, .s 2, .s 2, .s 2, .s 5, .s 5, .k 0, .s 5, .s 12, .u (fun _ _ _ => (sHs P 12 5 14 3 13 (s0 + 1138) (l + 1113) (s0 + 1140) (s0 + 1139) lep (t + 6) 0 ((x.fdiv 5).fmod 4) ps (some o) [.int v' u'] 1 dz dt (s0 + 1141)).at (s0 + 1141) (t + 11)), .s 2, .s 2, .s 14, .s 14, .s 14, .s 14, .s 14, .s 14, .s 2, .k 0, .a (fun cc _ _ => sCmp "int.__eq__" (x.fmod 5) 0 false cc), .s 2, .k 0, .a (fun cc _ _ => sCmp "int.__eq__" (x.fmod 5) 1 false cc), .s 2, .k 0, .a (fun cc _ _ => sCmp "int.__eq__" (x.fmod 5) 2 false cc), .s 2, .k 0, .a (fun cc _ _ => sCmp "int.__eq__" (x.fmod 5) 3 true cc), .s 2, .s 4, .k 2, .s 4, .k 2, .s 4, .k 2, .s 4, .s 7, .s 3, .k 0, .s 4, .k 0, .a (fun cc _ _ => sPopH (dd + 1113) 4 (d + 1113) es ep ((x.fdiv 5).fmod 4) (argTok cc 1) v u), .s 2, .s 2, .s 2, .s 2, .s 15, .s 13, .s 15, .k 0, .s 15, .a (fun _ _ _ => sLsCmp "list.__ne__" 15 13 (dz + (s0 + 1143)) (s0 + 1139) [.int v u] [.int v' u'] 0 1 [] false), .k 0, .s 2, .s 3, .k 0, .u (fun _ _ _ => (sWo P 5 (l + 1113) lep (t + 6) 1 ((x.fdiv 5).fmod 4) ps o1 av2 aep3 dz1 dt1 (dz + (s0 + 1144))).at (dz + (s0 + 1144)) (t + 11 + dt + 7)), .s 2, .s 2]
noncomputable def iT3hE (P : Params) (xs as : List Value) (n t1 t2 t3 d l dd ep lep aep : Nat) (es : List E) (ps : List (Nat × E)) (x : Int) (xt : Nat) (cv : Option Value) (o : Nat × Value × Nat × Value) (dz dt : Nat) (u1 u2 u3 u4 u5 fep : Nat) (v1 v2 v3 v4 v5 : Value) (ex : List (Str × Nat × Value)) (sl : Array (Option Value)) (v v' : Int) (u u' : Nat) (o1 : Option (Nat × Value)) (av2 : List Value) (aep3 dz1 dt1 : Nat) (s0 t : Nat) : List (Nat × Obj) := [(1133, liObj 1113 n), (1113, lsObj xs 0), (1114, frG P [(str "aside", t1, .ref 1128), (str "state", t2, .ref (l + 1113)), (str "bag", t3, .ref (d + 1113)), (str "x", u1, v1), (str "kind", u2, v2), (str "amount", u3, v3), (str "held", u4, v4)] 7 #[]), (1116, ceObj cv), (d + 1113, dObj clsC (some (dd + 1113)) es ep), (l + 1113, lsObj (ps.map rfD) lep), (1128, lsObj as aep), (dd + 1113, dObj clsD none [] 0)]
noncomputable def jT3hE (P : Params) (xs as : List Value) (n t1 t2 t3 d l dd ep lep aep : Nat) (es : List E) (ps : List (Nat × E)) (x : Int) (xt : Nat) (cv : Option Value) (o : Nat × Value × Nat × Value) (dz dt : Nat) (u1 u2 u3 u4 u5 fep : Nat) (v1 v2 v3 v4 v5 : Value) (ex : List (Str × Nat × Value)) (sl : Array (Option Value)) (v v' : Int) (u u' : Nat) (o1 : Option (Nat × Value)) (av2 : List Value) (aep3 dz1 dt1 : Nat) (s0 t : Nat) : List (Nat × Obj) := [(1133, liObj 1113 (n + 1)), (1113, lsObj xs 0), (1114, frG P [(str "aside", t1, .ref 1128), (str "state", t2, .ref (dz + (s0 + 1147))), (str "bag", t3, .ref (d + 1113)), (str "x", u1, .int x xt), (str "kind", u2, .int (x.fmod 5) (t + 2)), (str "amount", u3, .int (x.fdiv 20) (t + 8)), (str "held", u4, .ref (s0 + 1139)), (str "told", (t + 11 + dt + 6), .ref (dz + (s0 + 1143)))] 8 #[]), (1116, ceObj (some (.int ((x.fdiv 5).fmod 4) (t + 6)))), (d + 1113, dObj clsC (some (dd + 1113)) (esDel es ((x.fdiv 5).fmod 4)) (ep + 1)), (l + 1113, lsObj (ps.map rfD) lep), (1128, lsObj as aep), (dd + 1113, dObj clsD none [] 0)]
noncomputable def nT3hE (xs as : List Value) (n t1 t2 t3 d l dd ep lep aep : Nat) (es : List E) (ps : List (Nat × E)) (x : Int) (xt : Nat) (cv : Option Value) (o : Nat × Value × Nat × Value) (dz dt : Nat) (u1 u2 u3 u4 u5 fep : Nat) (v1 v2 v3 v4 v5 : Value) (ex : List (Str × Nat × Value)) (sl : Array (Option Value)) (v v' : Int) (u u' : Nat) (o1 : Option (Nat × Value)) (av2 : List Value) (aep3 dz1 dt1 : Nat) (s0 t : Nat) : List (Nat × Obj) := [((dz + (s0 + 1147)), lsObj av2 aep3)]
theorem rT3hE (xs as : List Value) (n t1 t2 t3 d l dd ep lep aep : Nat) (es : List E) (ps : List (Nat × E)) (x : Int) (xt : Nat) (cv : Option Value) (o : Nat × Value × Nat × Value) (dz dt : Nat) (u1 u2 u3 u4 u5 fep : Nat) (v1 v2 v3 v4 v5 : Value) (ex : List (Str × Nat × Value)) (sl : Array (Option Value)) (v v' : Int) (u u' : Nat) (o1 : Option (Nat × Value)) (av2 : List Value) (aep3 dz1 dt1 : Nat) (s0 t : Nat) (k : Result → Sem PySem.Fin) (g : Bool) (lv : List Value) (fb0 : List Stmt) (pos pos' : Pos) (kp : List Value) (ca1 : Args) (ps1 : Pos) (gens : List GenState) : chk (tR tP (tW b c w) (KK (tW b c w)) [((.builtin "claim.caller" ca1), ps1)] 258 (oT3hE (tW b c w).params xs as n t1 t2 t3 d l dd ep lep aep es ps x xt cv o dz dt u1 u2 u3 u4 u5 fep v1 v2 v3 v4 v5 ex sl v v' u u' o1 av2 aep3 dz1 dt1 s0 t) (mkT (iT3hE (tW b c w).params xs as n t1 t2 t3 d l dd ep lep aep es ps x xt cv o dz dt u1 u2 u3 u4 u5 fep v1 v2 v3 v4 v5 ex sl v v' u u' o1 av2 aep3 dz1 dt1 s0 t)) 8 (s0 + 1134) gens t [ps.map tpD] (tD cLaw) cLaw pos' [.ret k none g lv (.func fb0 envL) pos kp] [] []) (turnsL 8 [16]) = chk' (tR tP (tW b c w) (KK (tW b c w)) [((.builtin "claim.caller" ca1), ps1)] 258 (oT3hE (tW b c w).params xs as n t1 t2 t3 d l dd ep lep aep es ps x xt cv o dz dt u1 u2 u3 u4 u5 fep v1 v2 v3 v4 v5 ex sl v v' u u' o1 av2 aep3 dz1 dt1 s0 t) (mkT (iT3hE (tW b c w).params xs as n t1 t2 t3 d l dd ep lep aep es ps x xt cv o dz dt u1 u2 u3 u4 u5 fep v1 v2 v3 v4 v5 ex sl v v' u u' o1 av2 aep3 dz1 dt1 s0 t)) 8 (s0 + 1134) gens t [ps.map tpD] (tD cLaw) cLaw pos' [.ret k none g lv (.func fb0 envL) pos kp] [] [])
    (tD cLaw, cLaw, [.ret k none g lv (.func fb0 envL) pos kp], (dz1 + (dz + (s0 + 1151))), (t + 11 + dt + 7 + (dt1 + 1) + 1), appG gens [], (jT3hE (tW b c w).params xs as n t1 t2 t3 d l dd ep lep aep es ps x xt cv o dz dt u1 u2 u3 u4 u5 fep v1 v2 v3 v4 v5 ex sl v v' u u' o1 av2 aep3 dz1 dt1 s0 t).map some, (nT3hE xs as n t1 t2 t3 d l dd ep lep aep es ps x xt cv o dz dt u1 u2 u3 u4 u5 fep v1 v2 v3 v4 v5 ex sl v v' u u' o1 av2 aep3 dz1 dt1 s0 t).map some, [[], [], ps.map tpD]) := by
  cases b <;> kernel_rfl
noncomputable def oT3hT (P : Params) (xs as : List Value) (n t1 t2 t3 d l dd ep lep aep : Nat) (es : List E) (ps : List (Nat × E)) (x : Int) (xt : Nat) (cv : Option Value) (o : Nat × Value × Nat × Value) (dz dt : Nat) (u1 u2 u3 u4 u5 fep : Nat) (v1 v2 v3 v4 v5 : Value) (ex : List (Str × Nat × Value)) (sl : Array (Option Value)) (v v' : Int) (u u' : Nat) (o1 : Option (Nat × Value)) (av2 : List Value) (aep3 dz1 dt1 : Nat) (s0 t : Nat) : List Op := [.s 0, .k 0, .s 0, .a (fun _ _ _ => sLiNext 0 1 1133 1113 n xs 0 (.int x xt)), .s 2, .s 2, .s 2, .k 0, .s 2, .k 1, .s 2, .k 0, .s 8, .s 8, .s 8, .k 0, .s 8, .s 9, .s 9, .k 0, .s 9, .s 9, .s 9, .s 8, .s 9, .s 9, .s 9, .k 0, .s 9, .s 9, .s 9, .s 8, .s 9, .s 9, .s 9, .k 0, .s 9, .s 9, .s 9, .s 8, .s 9, .s 9, .s 9, .k 0, .s 9, .s 9, .s 9, .s 8, .s 9, .s 9, .s 11, .s 2, .s 2, .s 3, .s 3, .s 2, .s 2, .s 2, .s 5, .s 5, .k 0, .s 5, .s 12, .u (fun _ _ _ => (sHs P 12 5 14 3 13 (s0 + 1138) (l + 1113) (s0 + 1140) (s0 + 1139) lep (t + 6) 0 ((x.fdiv 5).fmod 4) ps (some o) [.int v' u'] 1 dz dt (s0 + 1141)).at (s0 + 1141) (t + 11)), .s 2, .s 2, .s 14, .s 14, .s 14, .s 14, .s 14, .s 14, .s 2, .k 0, .a (fun cc _ _ => sCmp "int.__eq__" (x.fmod 5) 0 false cc), .s 2, .k 0, .a (fun cc _ _ => sCmp "int.__eq__" (x.fmod 5) 1 false cc), .s 2, .k 0, .a (fun cc _ _ => sCmp "int.__eq__" (x.fmod 5) 2 false cc), .s 2, .k 0, .a (fun cc _ _ => sCmp "int.__eq__" (x.fmod 5) 3 true cc), .s 2, .s 4, .k 2, .s 4, .k 2, .s 4, .k 2, .s 4, .s 7, .s 3, .k 0, .s 4, .k 0, .a (fun cc _ _ => sPopH (dd + 1113) 4 (d + 1113) es ep ((x.fdiv 5).fmod 4) (argTok cc 1) v u), .s 2, .s 2, .s 2, .s 2, .s 15, .s 13, .s 15, .k 0, .s 15, .a (fun _ _ _ => sLsCmp "list.__ne__" 15 13 (dz + (s0 + 1143)) (s0 + 1139) [.int v u] [.int v' u'] 0 1 [] false), .k 0, .s 2, .s 3, .k 0, .u (fun _ _ _ => (sWo P 5 (l + 1113) lep (t + 6) 1 ((x.fdiv 5).fmod 4) ps o1 av2 aep3 dz1 dt1 (dz + (s0 + 1144))).at (dz + (s0 + 1144)) (t + 11 + dt + 7)), .s 2, .s 2]
noncomputable def iT3hT (P : Params) (xs as : List Value) (n t1 t2 t3 d l dd ep lep aep : Nat) (es : List E) (ps : List (Nat × E)) (x : Int) (xt : Nat) (cv : Option Value) (o : Nat × Value × Nat × Value) (dz dt : Nat) (u1 u2 u3 u4 u5 fep : Nat) (v1 v2 v3 v4 v5 : Value) (ex : List (Str × Nat × Value)) (sl : Array (Option Value)) (v v' : Int) (u u' : Nat) (o1 : Option (Nat × Value)) (av2 : List Value) (aep3 dz1 dt1 : Nat) (s0 t : Nat) : List (Nat × Obj) := [(1133, liObj 1113 n), (1113, lsObj xs 0), (1114, frG P [(str "aside", t1, .ref 1128), (str "state", t2, .ref (l + 1113)), (str "bag", t3, .ref (d + 1113)), (str "x", u1, v1), (str "kind", u2, v2), (str "amount", u3, v3), (str "held", u4, v4), (str "told", u5, v5)] 8 sl), (1116, ceObj cv), (d + 1113, dObj clsC (some (dd + 1113)) es ep), (l + 1113, lsObj (ps.map rfD) lep), (1128, lsObj as aep), (dd + 1113, dObj clsD none [] 0)]
noncomputable def jT3hT (P : Params) (xs as : List Value) (n t1 t2 t3 d l dd ep lep aep : Nat) (es : List E) (ps : List (Nat × E)) (x : Int) (xt : Nat) (cv : Option Value) (o : Nat × Value × Nat × Value) (dz dt : Nat) (u1 u2 u3 u4 u5 fep : Nat) (v1 v2 v3 v4 v5 : Value) (ex : List (Str × Nat × Value)) (sl : Array (Option Value)) (v v' : Int) (u u' : Nat) (o1 : Option (Nat × Value)) (av2 : List Value) (aep3 dz1 dt1 : Nat) (s0 t : Nat) : List (Nat × Obj) := [(1133, liObj 1113 (n + 1)), (1113, lsObj xs 0), (1114, frG P [(str "aside", t1, .ref 1128), (str "state", t2, .ref (dz + (s0 + 1147))), (str "bag", t3, .ref (d + 1113)), (str "x", u1, .int x xt), (str "kind", u2, .int (x.fmod 5) (t + 2)), (str "amount", u3, .int (x.fdiv 20) (t + 8)), (str "held", u4, .ref (s0 + 1139)), (str "told", u5, .ref (dz + (s0 + 1143)))] 8 sl), (1116, ceObj (some (.int ((x.fdiv 5).fmod 4) (t + 6)))), (d + 1113, dObj clsC (some (dd + 1113)) (esDel es ((x.fdiv 5).fmod 4)) (ep + 1)), (l + 1113, lsObj (ps.map rfD) lep), (1128, lsObj as aep), (dd + 1113, dObj clsD none [] 0)]
noncomputable def nT3hT (xs as : List Value) (n t1 t2 t3 d l dd ep lep aep : Nat) (es : List E) (ps : List (Nat × E)) (x : Int) (xt : Nat) (cv : Option Value) (o : Nat × Value × Nat × Value) (dz dt : Nat) (u1 u2 u3 u4 u5 fep : Nat) (v1 v2 v3 v4 v5 : Value) (ex : List (Str × Nat × Value)) (sl : Array (Option Value)) (v v' : Int) (u u' : Nat) (o1 : Option (Nat × Value)) (av2 : List Value) (aep3 dz1 dt1 : Nat) (s0 t : Nat) : List (Nat × Obj) := [((dz + (s0 + 1147)), lsObj av2 aep3)]
theorem rT3hT (xs as : List Value) (n t1 t2 t3 d l dd ep lep aep : Nat) (es : List E) (ps : List (Nat × E)) (x : Int) (xt : Nat) (cv : Option Value) (o : Nat × Value × Nat × Value) (dz dt : Nat) (u1 u2 u3 u4 u5 fep : Nat) (v1 v2 v3 v4 v5 : Value) (ex : List (Str × Nat × Value)) (sl : Array (Option Value)) (v v' : Int) (u u' : Nat) (o1 : Option (Nat × Value)) (av2 : List Value) (aep3 dz1 dt1 : Nat) (s0 t : Nat) (k : Result → Sem PySem.Fin) (g : Bool) (lv : List Value) (fb0 : List Stmt) (pos pos' : Pos) (kp : List Value) (ca1 : Args) (ps1 : Pos) (gens : List GenState) : chk (tR tP (tW b c w) (KK (tW b c w)) [((.builtin "claim.caller" ca1), ps1)] 258 (oT3hT (tW b c w).params xs as n t1 t2 t3 d l dd ep lep aep es ps x xt cv o dz dt u1 u2 u3 u4 u5 fep v1 v2 v3 v4 v5 ex sl v v' u u' o1 av2 aep3 dz1 dt1 s0 t) (mkT (iT3hT (tW b c w).params xs as n t1 t2 t3 d l dd ep lep aep es ps x xt cv o dz dt u1 u2 u3 u4 u5 fep v1 v2 v3 v4 v5 ex sl v v' u u' o1 av2 aep3 dz1 dt1 s0 t)) 8 (s0 + 1134) gens t [ps.map tpD] (tD cLaw) cLaw pos' [.ret k none g lv (.func fb0 envL) pos kp] [] []) (turnsL 8 [16]) = chk' (tR tP (tW b c w) (KK (tW b c w)) [((.builtin "claim.caller" ca1), ps1)] 258 (oT3hT (tW b c w).params xs as n t1 t2 t3 d l dd ep lep aep es ps x xt cv o dz dt u1 u2 u3 u4 u5 fep v1 v2 v3 v4 v5 ex sl v v' u u' o1 av2 aep3 dz1 dt1 s0 t) (mkT (iT3hT (tW b c w).params xs as n t1 t2 t3 d l dd ep lep aep es ps x xt cv o dz dt u1 u2 u3 u4 u5 fep v1 v2 v3 v4 v5 ex sl v v' u u' o1 av2 aep3 dz1 dt1 s0 t)) 8 (s0 + 1134) gens t [ps.map tpD] (tD cLaw) cLaw pos' [.ret k none g lv (.func fb0 envL) pos kp] [] [])
    (tD cLaw, cLaw, [.ret k none g lv (.func fb0 envL) pos kp], (dz1 + (dz + (s0 + 1151))), (t + 11 + dt + 7 + (dt1 + 1) + 1), appG gens [], (jT3hT (tW b c w).params xs as n t1 t2 t3 d l dd ep lep aep es ps x xt cv o dz dt u1 u2 u3 u4 u5 fep v1 v2 v3 v4 v5 ex sl v v' u u' o1 av2 aep3 dz1 dt1 s0 t).map some, (nT3hT xs as n t1 t2 t3 d l dd ep lep aep es ps x xt cv o dz dt u1 u2 u3 u4 u5 fep v1 v2 v3 v4 v5 ex sl v v' u u' o1 av2 aep3 dz1 dt1 s0 t).map some, [[], [], ps.map tpD]) := by
  cases b <;> kernel_rfl
end Mine
set_option linter.all false
namespace Mine
open PySem PySem.W
variable {b c : Bool} {w : World}
noncomputable def oT2h (P : Params) (xs as : List Value) (n t1 t2 t3 d l dd ep lep aep : Nat) (es : List E) (ps : List (Nat × E)) (x : Int) (xt : Nat) (cv : Option Value) (o : Nat × Value × Nat × Value) (dz dt : Nat) (u1 u2 u3 u4 u5 fep : Nat) (v1 v2 v3 v4 v5 : Value) (ex : List (Str × Nat × Value)) (sl : Array (Option Value)) (v v' : Int) (u u' : Nat) (s0 t : Nat) : List Op := [.s 0, .k 0, .s 0, .a (fun _ _ _ => sLiNext 0 1 1133 1113 n xs 0 (.int x xt)), .s 2, .s 2, .s 2, .k 0, .s 2, .k 1, .s 2, .k 0, .s 8, .s 8, .s 8, .k 0, .s 8, .s 9, .s 9, .k 0, .s 9, .s 9, .s 9, .s 8, .s 9, .s 9, .s 9, .k 0, .s 9, .s 9, .s 9, .s 8, .s 9, .s 9, .s 9, .k 0, .s 9, .s 9, .s 9, .s 8, .s 9, .s 9, .s 9, .k 0, .s 9, .s 9, .s 9, .s 8, .s 9, .s 9, .s 11, .s 2, .s 2, .s 3, .s 3, .s 2, .s 2, .s 2, .s 5, .s 5, .k 0, .s 5, .s 12, .u (fun _ _ _ => (sHs P 12 5 14 3 13 (s0 + 1138) (l + 1113) (s0 + 1140) (s0 + 1139) lep (t + 6) 0 ((x.fdiv 5).fmod 4) ps (some o) [.int v' u'] 1 dz dt (s0 + 1141)).at (s0 + 1141) (t + 11)), .s 2, .s 2, .s 14, .s 14, .s 14, .s 14, .s 14, .s 14, .s 2, .k 0, .a (fun cc _ _ => sCmp "int.__eq__" (x.fmod 5) 0 false cc), .s 2, .k 0, .a (fun cc _ _ => sCmp "int.__eq__" (x.fmod 5) 1 false cc), .s 2, .k 0, .a (fun cc _ _ => sCmp "int.__eq__" (x.fmod 5) 2 true cc), .s 2, .s 3, .s 4, .k 2, .s 4, .k 0, .s 4, .k 3, .s 4, .k 0, .a (fun cc _ _ => sGH (dd + 1113) 4 (d + 1113) es ep ((x.fdiv 5).fmod 4) (argTok cc 1) v u), .s 2, .s 4, .k 2, .s 4, .k 2, .s 4, .k 2, .s 4, .s 7, .s 3, .k 0, .s 4, .k 0, .a (fun cc _ _ => sGetN (dd + 1113) 4 (d + 1113) es ep ((x.fdiv 5).fmod 4) (argTok cc 1) (.int v u)), .s 3, .s 2, .s 4, .k 2, .s 4, .k 3, .s 4, .k 0, .a (fun cc _ _ => sHas clsC (some (dd + 1113)) 4 (d + 1113) es ep ((x.fdiv 5).fmod 4) (argTok cc 1) true), .k 1, .s 2, .k 0, .s 13, .s 13, .k 0, .s 13, .s 16, .a (fun _ _ tok => sSum1 16 17 13 (dz + (s0 + 1144)) (dz + (s0 + 1145)) (s0 + 1139) 1 v' u' (t + 11 + dt + 7) tok), .s 2, .s 13, .s 18, .s 13, .k 0, .s 13, .s 18, .s 13, .s 18, .s 19, .s 19, .s 19, .k 0, .s 19, .s 19, .k 0, .s 2, .s 13, .s 20, .s 13, .k 0, .s 13, .s 20, .s 13, .s 20, .s 15, .s 21, .s 15, .k 0, .s 15, .a (fun _ _ _ => sLsCmp "list.__ne__" 15 21 (dz + (s0 + 1143)) (dz + (s0 + 1151)) [.int v u, .int v u, .bool true] [.int (0 + v') (t + 11 + dt + 8), .int v' u', .bool true] 0 0 [] false)]
noncomputable def iT2h (P : Params) (xs as : List Value) (n t1 t2 t3 d l dd ep lep aep : Nat) (es : List E) (ps : List (Nat × E)) (x : Int) (xt : Nat) (cv : Option Value) (o : Nat × Value × Nat × Value) (dz dt : Nat) (u1 u2 u3 u4 u5 fep : Nat) (v1 v2 v3 v4 v5 : Value) (ex : List (Str × Nat × Value)) (sl : Array (Option Value)) (v v' : Int) (u u' : Nat) (s0 t : Nat) : List (Nat × Obj) := [(1133, liObj 1113 n), (1113, lsObj xs 0), (1114, frG P ([(str "aside", t1, .ref 1128), (str "state", t2, .ref (l + 1113)), (str "bag", t3, .ref (d + 1113)), (str "x", u1, v1), (str "kind", u2, v2), (str "amount", u3, v3), (str "held", u4, v4)] ++ ex) fep sl), (1116, ceObj cv), (d + 1113, dObj clsC (some (dd + 1113)) es ep), (l + 1113, lsObj (ps.map rfD) lep), (1128, lsObj as aep), (dd + 1113, dObj clsD none [] 0)]
noncomputable def jT2h (P : Params) (xs as : List Value) (n t1 t2 t3 d l dd ep lep aep : Nat) (es : List E) (ps : List (Nat × E)) (x : Int) (xt : Nat) (cv : Option Value) (o : Nat × Value × Nat × Value) (dz dt : Nat) (u1 u2 u3 u4 u5 fep : Nat) (v1 v2 v3 v4 v5 : Value) (ex : List (Str × Nat × Value)) (sl : Array (Option Value)) (v v' : Int) (u u' : Nat) (s0 t : Nat) : List (Nat × Obj) := [(1133, liObj 1113 (n + 1)), (1113, lsObj xs 0), (1114, frG P ([(str "aside", t1, .ref 1128), (str "state", t2, .ref (l + 1113)), (str "bag", t3, .ref (d + 1113)), (str "x", u1, .int x xt), (str "kind", u2, .int (x.fmod 5) (t + 2)), (str "amount", u3, .int (x.fdiv 20) (t + 8)), (str "held", u4, .ref (s0 + 1139))] ++ ex) fep sl), (1116, ceObj (some (.int ((x.fdiv 5).fmod 4) (t + 6)))), (d + 1113, dObj clsC (some (dd + 1113)) es ep), (l + 1113, lsObj (ps.map rfD) lep), (1128, lsObj as aep), (dd + 1113, dObj clsD none [] 0)]
noncomputable def nT2h (xs as : List Value) (n t1 t2 t3 d l dd ep lep aep : Nat) (es : List E) (ps : List (Nat × E)) (x : Int) (xt : Nat) (cv : Option Value) (o : Nat × Value × Nat × Value) (dz dt : Nat) (u1 u2 u3 u4 u5 fep : Nat) (v1 v2 v3 v4 v5 : Value) (ex : List (Str × Nat × Value)) (sl : Array (Option Value)) (v v' : Int) (u u' : Nat) (s0 t : Nat) : List (Nat × Obj) := []
theorem rT2h (xs as : List Value) (n t1 t2 t3 d l dd ep lep aep : Nat) (es : List E) (ps : List (Nat × E)) (x : Int) (xt : Nat) (cv : Option Value) (o : Nat × Value × Nat × Value) (dz dt : Nat) (u1 u2 u3 u4 u5 fep : Nat) (v1 v2 v3 v4 v5 : Value) (ex : List (Str × Nat × Value)) (sl : Array (Option Value)) (v v' : Int) (u u' : Nat) (s0 t : Nat) (k : Result → Sem PySem.Fin) (g : Bool) (lv : List Value) (fb0 : List Stmt) (pos pos' : Pos) (kp : List Value) (ca1 : Args) (ps1 : Pos) (gens : List GenState) : chk (tR tP (tW b c w) (KK (tW b c w)) [((.builtin "claim.caller" ca1), ps1)] 327 (oT2h (tW b c w).params xs as n t1 t2 t3 d l dd ep lep aep es ps x xt cv o dz dt u1 u2 u3 u4 u5 fep v1 v2 v3 v4 v5 ex sl v v' u u' s0 t) (mkT (iT2h (tW b c w).params xs as n t1 t2 t3 d l dd ep lep aep es ps x xt cv o dz dt u1 u2 u3 u4 u5 fep v1 v2 v3 v4 v5 ex sl v v' u u' s0 t)) 8 (s0 + 1134) gens t [ps.map tpD] (tD cLaw) cLaw pos' [.ret k none g lv (.func fb0 envL) pos kp] [] []) (turnsL 8 []) = chk' (tR tP (tW b c w) (KK (tW b c w)) [((.builtin "claim.caller" ca1), ps1)] 327 (oT2h (tW b c w).params xs as n t1 t2 t3 d l dd ep lep aep es ps x xt cv o dz dt u1 u2 u3 u4 u5 fep v1 v2 v3 v4 v5 ex sl v v' u u' s0 t) (mkT (iT2h (tW b c w).params xs as n t1 t2 t3 d l dd ep lep aep es ps x xt cv o dz dt u1 u2 u3 u4 u5 fep v1 v2 v3 v4 v5 ex sl v v' u u' s0 t)) 8 (s0 + 1134) gens t [ps.map tpD] (tD cLaw) cLaw pos' [.ret k none g lv (.func fb0 envL) pos kp] [] [])
    (tD cLaw, cLaw, [.ret k none g lv (.func fb0 envL) pos kp], (dz + (s0 + 1152)), (t + 11 + dt + 10), appG gens [], (jT2h (tW b c w).params xs as n t1 t2 t3 d l dd ep lep aep es ps x xt cv o dz dt u1 u2 u3 u4 u5 fep v1 v2 v3 v4 v5 ex sl v v' u u' s0 t).map some, (nT2h xs as n t1 t2 t3 d l dd ep lep aep es ps x xt cv o dz dt u1 u2 u3 u4 u5 fep v1 v2 v3 v4 v5 ex sl v v' u u' s0 t).map some, [[], ps.map tpD]) := by
  cases b <;> kernel_rfl
noncomputable def oT2ms (P : Params) (xs as : List Value) (n t1 t2 t3 d l dd ep lep aep : Nat) (es : List E) (ps : List (Nat × E)) (x : Int) (xt : Nat) (cv : Option Value) (o : Nat × Value × Nat × Value) (dz dt : Nat) (u1 u2 u3 u4 u5 fep : Nat) (v1 v2 v3 v4 v5 : Value) (ex : List (Str × Nat × Value)) (sl : Array (Option Value)) (s0 t : Nat) : List Op := [.s 0, .k 0, .s 0, .a (fun _ _ _ => sLiNext 0 1 1133 1113 n xs 0 (.int x xt)), .s 2, .s 2, .s 2, .k 0, .s 2, .k 1, .s 2, .k 0, .s 8, .s 8, .s 8, .k 0, .s 8, .s 9, .s 9, .k 0, .s 9, .s 9, .s 9, .s 8, .s 9, .s 9, .s 9, .k 0, .s 9, .s 9, .s 9, .s 8, .s 9, .s 9, .s 9, .k 0, .s 9, .s 9, .s 9, .s 8, .s 9, .s 9, .s 9, .k 0, .s 9, .s 9, .s 9, .s 8, .s 9, .s 9, .s 11, .s 2, .s 2, .s 3, .s 3, .s 2, .s 2, .s 2, .s 5, .s 5, .k 0, .s 5, .s 12, .u (fun _ _ _ => (sHs P 12 5 14 3 13 (s0 + 1138) (l + 1113) (s0 + 1140) (s0 + 1139) lep (t + 6) 0 ((x.fdiv 5).fmod 4) ps (some o) [] 0 dz dt (s0 + 1141)).at (s0 + 1141) (t + 11)), .s 2, .s 2, .s 14, .s 14, .s 14, .s 14, .s 14, .s 14, .s 2, .k 0, .a (fun cc _ _ => sCmp "int.__eq__" (x.fmod 5) 0 false cc), .s 2, .k 0, .a (fun cc _ _ => sCmp "int.__eq__" (x.fmod 5) 1 false cc), .s 2, .k 0, .a (fun cc _ _ => sCmp "int.__eq__" (x.fmod 5) 2 true cc), .s 2, .s 3, .s 4, .k 2, .s 4, .k 0, .s 4, .k 3, .s 4, .k 0, .a (fun cc sz tok => guard sz (sGM (dd + 1113) 4 (d + 1113) es ep ((x.fdiv 5).fmod 4) (argTok cc 1) tok)), .s 2, .s 4, .k 2, .s 4, .k 2, .s 4, .k 2, .s 4, .s 7, .s 3, .k 0, .s 4, .k 0, .a (fun cc _ _ => sGetN (dd + 1113) 4 (d + 1113) es ep ((x.fdiv 5).fmod 4) (argTok cc 1) .none), .s 3, .s 2, .s 4, .k 2, .s 4, .k 3, .s 4, .k 0, .a (fun cc _ _ => sHas clsC (some (dd + 1113)) 4 (d + 1113) es ep ((x.fdiv 5).fmod 4) (argTok cc 1) false), .k 1, .s 2, .k 0, .s 13, .s 13, .k 0, .s 13, .s 16, .s 17, .s 16, .k 0, .s 16, .s 16, .s 16, .s 13, .s 16, .s 16, .s 19, .s 2, .s 13, .s 20, .s 13, .k 0, .s 13, .s 20, .s 13, .s 20, .s 21, .s 21, .s 21, .k 0, .s 21, .s 21, .k 0, .s 2, .s 13, .s 22, .s 13, .k 0, .s 13, .s 22, .s 13, .s 22, .s 13, .s 22, .s 13, .s 22, .s 15, .s 23, .s 15, .k 0, .s 15, .a (fun _ _ _ => sLsCmp "list.__ne__" 15 23 (dz + (s0 + 1144)) (dz + (s0 + 1152)) [.int 0 (t + 11 + dt + 7), .none, .bool false] [.int 0 (t + 11 + dt + 10), .none, .bool false] 0 0 [] false)]
noncomputable def iT2ms (P : Params) (xs as : List Value) (n t1 t2 t3 d l dd ep lep aep : Nat) (es : List E) (ps : List (Nat × E)) (x : Int) (xt : Nat) (cv : Option Value) (o : Nat × Value × Nat × Value) (dz dt : Nat) (u1 u2 u3 u4 u5 fep : Nat) (v1 v2 v3 v4 v5 : Value) (ex : List (Str × Nat × Value)) (sl : Array (Option Value)) (s0 t : Nat) : List (Nat × Obj) := [(1133, liObj 1113 n), (1113, lsObj xs 0), (1114, frG P ([(str "aside", t1, .ref 1128), (str "state", t2, .ref (l + 1113)), (str "bag", t3, .ref (d + 1113)), (str "x", u1, v1), (str "kind", u2, v2), (str "amount", u3, v3), (str "held", u4, v4)] ++ ex) fep sl), (1116, ceObj cv), (d + 1113, dObj clsC (some (dd + 1113)) es ep), (l + 1113, lsObj (ps.map rfD) lep), (1128, lsObj as aep), (dd + 1113, dObj clsD none [] 0)]
noncomputable def jT2ms (P : Params) (xs as : List Value) (n t1 t2 t3 d l dd ep lep aep : Nat) (es : List E) (ps : List (Nat × E)) (x : Int) (xt : Nat) (cv : Option Value) (o : Nat × Value × Nat × Value) (dz dt : Nat) (u1 u2 u3 u4 u5 fep : Nat) (v1 v2 v3 v4 v5 : Value) (ex : List (Str × Nat × Value)) (sl : Array (Option Value)) (s0 t : Nat) : List (Nat × Obj) := [(1133, liObj 1113 (n + 1)), (1113, lsObj xs 0), (1114, frG P ([(str "aside", t1, .ref 1128), (str "state", t2, .ref (l + 1113)), (str "bag", t3, .ref (d + 1113)), (str "x", u1, .int x xt), (str "kind", u2, .int (x.fmod 5) (t + 2)), (str "amount", u3, .int (x.fdiv 20) (t + 8)), (str "held", u4, .ref (s0 + 1139))] ++ ex) fep sl), (1116, ceObj (some (.int ((x.fdiv 5).fmod 4) (t + 6)))), (d + 1113, dObj clsC (some (dd + 1113)) es ep), (l + 1113, lsObj (ps.map rfD) lep), (1128, lsObj as aep), (dd + 1113, dObj clsD none [] 0)]
noncomputable def nT2ms (xs as : List Value) (n t1 t2 t3 d l dd ep lep aep : Nat) (es : List E) (ps : List (Nat × E)) (x : Int) (xt : Nat) (cv : Option Value) (o : Nat × Value × Nat × Value) (dz dt : Nat) (u1 u2 u3 u4 u5 fep : Nat) (v1 v2 v3 v4 v5 : Value) (ex : List (Str × Nat × Value)) (sl : Array (Option Value)) (s0 t : Nat) : List (Nat × Obj) := []
theorem rT2ms (xs as : List Value) (n t1 t2 t3 d l dd ep lep aep : Nat) (es : List E) (ps : List (Nat × E)) (x : Int) (xt : Nat) (cv : Option Value) (o : Nat × Value × Nat × Value) (dz dt : Nat) (u1 u2 u3 u4 u5 fep : Nat) (v1 v2 v3 v4 v5 : Value) (ex : List (Str × Nat × Value)) (sl : Array (Option Value)) (s0 t : Nat) (k : Result → Sem PySem.Fin) (g : Bool) (lv : List Value) (fb0 : List Stmt) (pos pos' : Pos) (kp : List Value) (ca1 : Args) (ps1 : Pos) (gens : List GenState) : chk (tR tP (tW b c w) (KK (tW b c w)) [((.builtin "claim.caller" ca1), ps1)] 348 (oT2ms (tW b c w).params xs as n t1 t2 t3 d l dd ep lep aep es ps x xt cv o dz dt u1 u2 u3 u4 u5 fep v1 v2 v3 v4 v5 ex sl s0 t) (mkT (iT2ms (tW b c w).params xs as n t1 t2 t3 d l dd ep lep aep es ps x xt cv o dz dt u1 u2 u3 u4 u5 fep v1 v2 v3 v4 v5 ex sl s0 t)) 8 (s0 + 1134) gens t [ps.map tpD] (tD cLaw) cLaw pos' [.ret k none g lv (.func fb0 envL) pos kp] [] []) (turnsL 8 []) = chk' (tR tP (tW b c w) (KK (tW b c w)) [((.builtin "claim.caller" ca1), ps1)] 348 (oT2ms (tW b c w).params xs as n t1 t2 t3 d l dd ep lep aep es ps x xt cv o dz dt u1 u2 u3 u4 u5 fep v1 v2 v3 v4 v5 ex sl s0 t) (mkT (iT2ms (tW b c w).params xs as n t1 t2 t3 d l dd ep lep aep es ps x xt cv o dz dt u1 u2 u3 u4 u5 fep v1 v2 v3 v4 v5 ex sl s0 t)) 8 (s0 + 1134) gens t [ps.map tpD] (tD cLaw) cLaw pos' [.ret k none g lv (.func fb0 envL) pos kp] [] [])
    (tD cLaw, cLaw, [.ret k none g lv (.func fb0 envL) pos kp], (dz + (s0 + 1153)), (t + 11 + dt + 12), appG gens [], (jT2ms (tW b c w).params xs as n t1 t2 t3 d l dd ep lep aep es ps x xt cv o dz dt u1 u2 u3 u4 u5 fep v1 v2 v3 v4 v5 ex sl s0 t).map some, (nT2ms xs as n t1 t2 t3 d l dd ep lep aep es ps x xt cv o dz dt u1 u2 u3 u4 u5 fep v1 v2 v3 v4 v5 ex sl s0 t).map some, [[], ps.map tpD]) := by
  cases b <;> kernel_rfl
noncomputable def oT2mn (P : Params) (xs as : List Value) (n t1 t2 t3 d l dd ep lep aep : Nat) (es : List E) (ps : List (Nat × E)) (x : Int) (xt : Nat) (cv : Option Value) (o : Nat × Value × Nat × Value) (dz dt : Nat) (u1 u2 u3 u4 u5 fep : Nat) (v1 v2 v3 v4 v5 : Value) (ex : List (Str × Nat × Value)) (sl : Array (Option Value)) (s0 t : Nat) : List Op := [.s 0, .k 0, .s 0, .a (fun _ _ _ => sLiNext 0 1 1133 1113 n xs 0 (.int x xt)), .s 2, .s 2, .s 2, .k 0, .s 2, .k 1, .s 2, .k 0, .s 8, .s 8, .s 8, .k 0, .s 8, .s 9, .s 9, .k 0, .s 9, .s 9, .s 9, .s 8, .s 9, .s 9, .s 9, .k 0, .s 9, .s 9, .s 9, .s 8, .s 9, .s 9, .s 9, .k 0, .s 9, .s 9, .s 9, .s 8, .s 9, .s 9, .s 9, .k 0, .s 9, .s 9, .s 9, .s 8, .s 9, .s 9, .s 11, .s 2, .s 2, .s 3, .s 3, .s 2, .s 2, .s 2, .s 5, .s 5, .k 0, .s 5, .s 12, .u (fun _ _ _ => (sHs P 12 5 14 3 13 (s0 + 1138) (l + 1113) (s0 + 1140) (s0 + 1139) lep (t + 6) 0 ((x.fdiv 5).fmod 4) ps none [] 0 dz dt (s0 + 1141)).at (s0 + 1141) (t + 11)), .s 2, .s 2, .s 14, .s 14, .s 2, .k 0, .a (fun cc _ _ => sCmp "int.__eq__" (x.fmod 5) 0 false cc), .s 2, .k 0, .a (fun cc _ _ => sCmp "int.__eq__" (x.fmod 5) 1 false cc), .s 2, .k 0, .a (fun cc _ _ => sCmp "int.__eq__" (x.fmod 5) 2 true cc), .s 2, .s 3, .s 4, .k 2, .s 4, .k 0, .s 4, .k 3, .s 4, .k 0, .a (fun cc sz tok => guard sz (sGM (dd + 1113) 4 (d + 1113) es ep ((x.fdiv 5).fmod 4) (argTok cc 1) tok)), .s 2, .s 4, .k 2, .s 4, .k 2, .s 4, .k 2, .s 4, .s 7, .s 3, .k 0, .s 4, .k 0, .a (fun cc _ _ => sGetN (dd + 1113) 4 (d + 1113) es ep ((x.fdiv 5).fmod 4) (argTok cc 1) .none), .s 3, .s 2, .s 4, .k 2, .s 4, .k 3, .s 4, .k 0, .a (fun cc _ _ => sHas clsC (some (dd + 1113)) 4 (d + 1113) es ep ((x.fdiv 5).fmod 4) (argTok cc 1) false), .k 1, .s 2, .k 0, .s 13, .s 13, .k 0, .s 13, .s 16, .s 17, .s 16, .k 0, .s 16, .s 16, .s 16, .s 13, .s 16, .s 16, .s 19, .s 2, .s 13, .s 20, .s 13, .k 0, .s 13, .s 20, .s 13, .s 20, .s 21, .s 21, .s 21, .k 0, .s 21, .s 21, .k 0, .s 2, .s 13, .s 22, .s 13, .k 0, .s 13, .s 22, .s 13, .s 22, .s 13, .s 22, .s 13, .s 22, .s 15, .s 23, .s 15, .k 0, .s 15, .a (fun _ _ _ => sLsCmp "list.__ne__" 15 23 (dz + (s0 + 1144)) (dz + (s0 + 1152)) [.int 0 (t + 11 + dt + 7), .none, .bool false] [.int 0 (t + 11 + dt + 10), .none, .bool false] 0 0 [] false)]
noncomputable def iT2mn (P : Params) (xs as : List Value) (n t1 t2 t3 d l dd ep lep aep : Nat) (es : List E) (ps : List (Nat × E)) (x : Int) (xt : Nat) (cv : Option Value) (o : Nat × Value × Nat × Value) (dz dt : Nat) (u1 u2 u3 u4 u5 fep : Nat) (v1 v2 v3 v4 v5 : Value) (ex : List (Str × Nat × Value)) (sl : Array (Option Value)) (s0 t : Nat) : List (Nat × Obj) := [(1133, liObj 1113 n), (1113, lsObj xs 0), (1114, frG P ([(str "aside", t1, .ref 1128), (str "state", t2, .ref (l + 1113)), (str "bag", t3, .ref (d + 1113)), (str "x", u1, v1), (str "kind", u2, v2), (str "amount", u3, v3), (str "held", u4, v4)] ++ ex) fep sl), (1116, ceObj cv), (d + 1113, dObj clsC (some (dd + 1113)) es ep), (l + 1113, lsObj (ps.map rfD) lep), (1128, lsObj as aep), (dd + 1113, dObj clsD none [] 0)]
noncomputable def jT2mn (P : Params) (xs as : List Value) (n t1 t2 t3 d l dd ep lep aep : Nat) (es : List E) (ps : List (Nat × E)) (x : Int) (xt : Nat) (cv : Option Value) (o : Nat × Value × Nat × Value) (dz dt : Nat) (u1 u2 u3 u4 u5 fep : Nat) (v1 v2 v3 v4 v5 : Value) (ex : List (Str × Nat × Value)) (sl : Array (Option Value)) (s0 t : Nat) : List (Nat × Obj) := [(1133, liObj 1113 (n + 1)), (1113, lsObj xs 0), (1114, frG P ([(str "aside", t1, .ref 1128), (str "state", t2, .ref (l + 1113)), (str "bag", t3, .ref (d + 1113)), (str "x", u1, .int x xt), (str "kind", u2, .int (x.fmod 5) (t + 2)), (str "amount", u3, .int (x.fdiv 20) (t + 8)), (str "held", u4, .ref (s0 + 1139))] ++ ex) fep sl), (1116, ceObj (some (.int ((x.fdiv 5).fmod 4) (t + 6)))), (d + 1113, dObj clsC (some (dd + 1113)) es ep), (l + 1113, lsObj (ps.map rfD) lep), (1128, lsObj as aep), (dd + 1113, dObj clsD none [] 0)]
noncomputable def nT2mn (xs as : List Value) (n t1 t2 t3 d l dd ep lep aep : Nat) (es : List E) (ps : List (Nat × E)) (x : Int) (xt : Nat) (cv : Option Value) (o : Nat × Value × Nat × Value) (dz dt : Nat) (u1 u2 u3 u4 u5 fep : Nat) (v1 v2 v3 v4 v5 : Value) (ex : List (Str × Nat × Value)) (sl : Array (Option Value)) (s0 t : Nat) : List (Nat × Obj) := []
theorem rT2mn (xs as : List Value) (n t1 t2 t3 d l dd ep lep aep : Nat) (es : List E) (ps : List (Nat × E)) (x : Int) (xt : Nat) (cv : Option Value) (o : Nat × Value × Nat × Value) (dz dt : Nat) (u1 u2 u3 u4 u5 fep : Nat) (v1 v2 v3 v4 v5 : Value) (ex : List (Str × Nat × Value)) (sl : Array (Option Value)) (s0 t : Nat) (k : Result → Sem PySem.Fin) (g : Bool) (lv : List Value) (fb0 : List Stmt) (pos pos' : Pos) (kp : List Value) (ca1 : Args) (ps1 : Pos) (gens : List GenState) : chk (tR tP (tW b c w) (KK (tW b c w)) [((.builtin "claim.caller" ca1), ps1)] 340 (oT2mn (tW b c w).params xs as n t1 t2 t3 d l dd ep lep aep es ps x xt cv o dz dt u1 u2 u3 u4 u5 fep v1 v2 v3 v4 v5 ex sl s0 t) (mkT (iT2mn (tW b c w).params xs as n t1 t2 t3 d l dd ep lep aep es ps x xt cv o dz dt u1 u2 u3 u4 u5 fep v1 v2 v3 v4 v5 ex sl s0 t)) 8 (s0 + 1134) gens t [ps.map tpD] (tD cLaw) cLaw pos' [.ret k none g lv (.func fb0 envL) pos kp] [] []) (turnsL 8 []) = chk' (tR tP (tW b c w) (KK (tW b c w)) [((.builtin "claim.caller" ca1), ps1)] 340 (oT2mn (tW b c w).params xs as n t1 t2 t3 d l dd ep lep aep es ps x xt cv o dz dt u1 u2 u3 u4 u5 fep v1 v2 v3 v4 v5 ex sl s0 t) (mkT (iT2mn (tW b c w).params xs as n t1 t2 t3 d l dd ep lep aep es ps x xt cv o dz dt u1 u2 u3 u4 u5 fep v1 v2 v3 v4 v5 ex sl s0 t)) 8 (s0 + 1134) gens t [ps.map tpD] (tD cLaw) cLaw pos' [.ret k none g lv (.func fb0 envL) pos kp] [] [])
    (tD cLaw, cLaw, [.ret k none g lv (.func fb0 envL) pos kp], (dz + (s0 + 1153)), (t + 11 + dt + 12), appG gens [], (jT2mn (tW b c w).params xs as n t1 t2 t3 d l dd ep lep aep es ps x xt cv o dz dt u1 u2 u3 u4 u5 fep v1 v2 v3 v4 v5 ex sl s0 t).map some, (nT2mn xs as n t1 t2 t3 d l dd ep lep aep es ps x xt cv o dz dt u1 u2 u3 u4 u5 fep v1 v2 v3 v4 v5 ex sl s0 t).map some, [[], ps.map tpD]) := by
  cases b <;> kernel_rfl
noncomputable def oTN2 (P : Params) (xs as : List Value) (n t1 t2 t3 d l dd ep lep aep : Nat) (es : List E) (ps : List (Nat × E)) (x : Int) (xt : Nat) (cv : Option Value) (o : Nat × Value × Nat × Value) (dz dt : Nat) (u1 u2 u3 u4 u5 fep : Nat) (v1 v2 v3 v4 v5 : Value) (ex : List (Str × Nat × Value)) (sl : Array (Option Value)) (s0 t : Nat) : List Op := [.s 0, .k 0, .s 0, .a (fun _ _ _ => sLiNext 0 1 1133 1113 n xs 0 (.int x xt)), .s 2, .s 2, .s 2, .k 0, .s 2, .k 1, .s 2, .k 0, .s 8, .s 8, .s 8, .k 0, .s 8, .s 9, .s 9, .k 0, .s 9, .s 9, .s 9, .s 8, .s 9, .s 9, .s 9, .k 0, .s 9, .s 9, .s 9, .s 8, .s 9, .s 9, .s 9, .k 0, .s 9, .s 9, .s 9, .s 8, .s 9, .s 9, .s 9, .k 0, .s 9, .s 9, .s 9, .s 8, .s 9, .s 9, .s 11, .s 2, .s 2, .s 3, .s 3, .s 2, .s 2, .s 2, .s 5, .s 5, .k 0, .s 5, .s 12, .u (fun _ _ _ => (sHs P 12 5 14 3 13 (s0 + 1138) (l + 1113) (s0 + 1140) (s0 + 1139) lep (t + 6) 0 ((x.fdiv 5).fmod 4) ps none [] 0 dz dt (s0 + 1141)).at (s0 + 1141) (t + 11)), .s 2, .s 2, .s 14, .s 14, .s 2, .k 0, .a (fun cc _ _ => sCmp "int.__eq__" (x.fmod 5) 0 false cc), .s 2, .k 0, .a (fun cc _ _ => sCmp "int.__eq__" (x.fmod 5) 1 false cc), .s 2, .k 0, .a (fun cc _ _ => sCmp "int.__eq__" (x.fmod 5) 2 true cc), .s 2, .s 3, .s 4, .k 2, .s 4, .k 0, .s 4, .k 3, .s 4, .k 0, .a (fun cc sz tok => guard sz (sGM (dd + 1113) 4 (d + 1113) es ep ((x.fdiv 5).fmod 4) (argTok cc 1) tok)), .s 2, .s 4, .k 2, .s 4, .k 2, .s 4, .k 2, .s 4, .s 7, .s 3, .k 0, .s 4, .k 0, .a (fun cc _ _ => sGetN (dd + 1113) 4 (d + 1113) es ep ((x.fdiv 5).fmod 4) (argTok cc 1) .none), .s 3, .s 2, .s 4, .k 2, .s 4, .k 3, .s 4, .k 0, .a (fun cc _ _ => sHas clsC (some (dd + 1113)) 4 (d + 1113) es ep ((x.fdiv 5).fmod 4) (argTok cc 1) false), .k 1, .s 2, .k 0, .s 13, .s 13, .k 0, .s 13, .s 16, .s 17, .s 16, .k 0, .s 16, .s 16, .s 16, .s 13, .s 16, .s 16, .s 19, .s 2, .s 13, .s 20, .s 13, .k 0, .s 13, .s 20, .s 13, .s 20, .s 21, .s 21, .s 21, .k 0, .s 21, .s 21, .k 0, .s 2, .s 13, .s 22, .s 13, .k 0, .s 13, .s 22, .s 13, .s 22, .s 13, .s 22, .s 13, .s 22, .s 15, .s 23, .s 15, .k 0, .s 15, .a (fun _ _ _ => sLsCmp "list.__ne__" 15 23 (dz + (s0 + 1144)) (dz + (s0 + 1152)) [.int 0 (t + 11 + dt + 7), .none, .bool false] [.int 0 (t + 11 + dt + 10), .none, .bool false] 0 0 [] false)]
noncomputable def iTN2 (P : Params) (xs as : List Value) (n t1 t2 t3 d l dd ep lep aep : Nat) (es : List E) (ps : List (Nat × E)) (x : Int) (xt : Nat) (cv : Option Value) (o : Nat × Value × Nat × Value) (dz dt : Nat) (u1 u2 u3 u4 u5 fep : Nat) (v1 v2 v3 v4 v5 : Value) (ex : List (Str × Nat × Value)) (sl : Array (Option Value)) (s0 t : Nat) : List (Nat × Obj) := [(1133, liObj 1113 n), (1113, lsObj xs 0), (1114, frG P [(str "aside", t1, .ref 1128), (str "state", t2, .ref (l + 1113)), (str "bag", t3, .ref (d + 1113))] 3 #[]), (1116, ceObj cv), (d + 1113, dObj clsC (some (dd + 1113)) es ep), (l + 1113, lsObj (ps.map rfD) lep), (1128, lsObj as aep), (dd + 1113, dObj clsD none [] 0)]
noncomputable def jTN2 (P : Params) (xs as : List Value) (n t1 t2 t3 d l dd ep lep aep : Nat) (es : List E) (ps : List (Nat × E)) (x : Int) (xt : Nat) (cv : Option Value) (o : Nat × Value × Nat × Value) (dz dt : Nat) (u1 u2 u3 u4 u5 fep : Nat) (v1 v2 v3 v4 v5 : Value) (ex : List (Str × Nat × Value)) (sl : Array (Option Value)) (s0 t : Nat) : List (Nat × Obj) := [(1133, liObj 1113 (n + 1)), (1113, lsObj xs 0), (1114, frG P [(str "aside", t1, .ref 1128), (str "state", t2, .ref (l + 1113)), (str "bag", t3, .ref (d + 1113)), (str "x", t, .int x xt), (str "kind", (t + 9), .int (x.fmod 5) (t + 2)), (str "amount", (t + 10), .int (x.fdiv 20) (t + 8)), (str "held", (t + 11 + dt), .ref (s0 + 1139))] 7 #[]), (1116, ceObj (some (.int ((x.fdiv 5).fmod 4) (t + 6)))), (d + 1113, dObj clsC (some (dd + 1113)) es ep), (l + 1113, lsObj (ps.map rfD) lep), (1128, lsObj as aep), (dd + 1113, dObj clsD none [] 0)]
noncomputable def nTN2 (xs as : List Value) (n t1 t2 t3 d l dd ep lep aep : Nat) (es : List E) (ps : List (Nat × E)) (x : Int) (xt : Nat) (cv : Option Value) (o : Nat × Value × Nat × Value) (dz dt : Nat) (u1 u2 u3 u4 u5 fep : Nat) (v1 v2 v3 v4 v5 : Value) (ex : List (Str × Nat × Value)) (sl : Array (Option Value)) (s0 t : Nat) : List (Nat × Obj) := []
theorem rTN2 (xs as : List Value) (n t1 t2 t3 d l dd ep lep aep : Nat) (es : List E) (ps : List (Nat × E)) (x : Int) (xt : Nat) (cv : Option Value) (o : Nat × Value × Nat × Value) (dz dt : Nat) (u1 u2 u3 u4 u5 fep : Nat) (v1 v2 v3 v4 v5 : Value) (ex : List (Str × Nat × Value)) (sl : Array (Option Value)) (s0 t : Nat) (k : Result → Sem PySem.Fin) (g : Bool) (lv : List Value) (fb0 : List Stmt) (pos pos' : Pos) (kp : List Value) (ca1 : Args) (ps1 : Pos) (gens : List GenState) : chk (tR tP (tW b c w) (KK (tW b c w)) [((.builtin "claim.caller" ca1), ps1)] 340 (oTN2 (tW b c w).params xs as n t1 t2 t3 d l dd ep lep aep es ps x xt cv o dz dt u1 u2 u3 u4 u5 fep v1 v2 v3 v4 v5 ex sl s0 t) (mkT (iTN2 (tW b c w).params xs as n t1 t2 t3 d l dd ep lep aep es ps x xt cv o dz dt u1 u2 u3 u4 u5 fep v1 v2 v3 v4 v5 ex sl s0 t)) 8 (s0 + 1134) gens t [ps.map tpD] (tD cLaw) cLaw pos' [.ret k none g lv (.func fb0 envL) pos kp] [] []) (turnsL 8 []) = chk' (tR tP (tW b c w) (KK (tW b c w)) [((.builtin "claim.caller" ca1), ps1)] 340 (oTN2 (tW b c w).params xs as n t1 t2 t3 d l dd ep lep aep es ps x xt cv o dz dt u1 u2 u3 u4 u5 fep v1 v2 v3 v4 v5 ex sl s0 t) (mkT (iTN2 (tW b c w).params xs as n t1 t2 t3 d l dd ep lep aep es ps x xt cv o dz dt u1 u2 u3 u4 u5 fep v1 v2 v3 v4 v5 ex sl s0 t)) 8 (s0 + 1134) gens t [ps.map tpD] (tD cLaw) cLaw pos' [.ret k none g lv (.func fb0 envL) pos kp] [] [])
    (tD cLaw, cLaw, [.ret k none g lv (.func fb0 envL) pos kp], (dz + (s0 + 1153)), (t + 11 + dt + 12), appG gens [], (jTN2 (tW b c w).params xs as n t1 t2 t3 d l dd ep lep aep es ps x xt cv o dz dt u1 u2 u3 u4 u5 fep v1 v2 v3 v4 v5 ex sl s0 t).map some, (nTN2 xs as n t1 t2 t3 d l dd ep lep aep es ps x xt cv o dz dt u1 u2 u3 u4 u5 fep v1 v2 v3 v4 v5 ex sl s0 t).map some, [[], ps.map tpD]) := by
  cases b <;> kernel_rfl
end Mine
set_option linter.all false
namespace Mine
open PySem PySem.W
variable {b c : Bool} {w : World}
noncomputable def oT3msE (P : Params) (xs as : List Value) (n t1 t2 t3 d l dd ep lep aep : Nat) (es : List E) (ps : List (Nat × E)) (x : Int) (xt : Nat) (cv : Option Value) (o : Nat × Value × Nat × Value) (dz dt : Nat) (u1 u2 u3 u4 u5 fep : Nat) (v1 v2 v3 v4 v5 : Value) (ex : List (Str × Nat × Value)) (sl : Array (Option Value)) (o1 : Option (Nat × Value)) (av2 : List Value) (aep3 dz1 dt1 : Nat) (s0 t : Nat) : List Op := [.s 0, .k 0, .s 0, .a (fun _ _ _ => sLiNext 0 1 1133 1113 n xs 0 (.int x xt)), .s 2, .s 2, .s 2, .k 0, .s 2, .k 1, .s 2, .k 0, .s 8, .s 8, .s 8, .k 0, .s 8, .s 9, .s 9, .k 0, .s 9, .s 9, .s 9, .s 8, .s 9, .s 9, .s 9, .k 0, .s 9, .s 9, .s 9, .s 8, .s 9, .s 9, .s 9, .k 0, .s 9, .s 9, .s 9, .s 8, .s 9, .s 9, .s 9, .k 0, .s 9, .s 9, .s 9, .s 8, .s 9, .s 9, .s 11, .s 2, .s 2, .s 3, .s 3, .s 2, .s 2, .s 2, .s 5, .s 5, .k 0, .s 5, .s 12, .u (fun _ _ _ => (sHs P 12 5 14 3 13 (s0 + 1138) (l + 1113) (s0 + 1140) (s0 + 1139) lep (t + 6) 0 ((x.fdiv 5).fmod 4) ps (some o) [] 0 dz dt (s0 + 1141)).at (s0 + 1141) (t + 11)), .s 2, .s 2, .s 14, .s 14, .s 14, .s 14, .s 14, .s 14, .s 2, .k 0, .a (fun cc _ _ => sCmp "int.__eq__" (x.fmod 5) 0 false cc), .s 2, .k 0, .a (fun cc _ _ => sCmp "int.__eq__" (x.fmod 5) 1 false cc), .s 2, .k 0, .a (fun cc _ _ => sCmp "int.__eq__" (x.fmod 5) 2 false cc), .s 2, .k 0, .a (fun cc _ _ => sCmp "int.__eq__" (x.fmod 5) 3 true cc), .s 2, .s 4, .k 2, .s 4, .k 2, .s 4, .k 2, .s 4, .s 7, .s 3, .k 0, .s 4, .k 0, .a (fun cc sz _ => sPopM (dd + 1113) 4 (d + 1113) es ep ((x.fdiv 5).fmod 4) (argTok cc 1) sz), .s 16, .s 2, .s 2, .s 16, .s 16, .s 16, .s 17, .s 17, .k 2, .s 16, .k 0, .s 16, .s 17, .s 17, .s 2, .s 2, .s 2, .s 2, .s 18, .s 13, .s 18, .k 0, .s 18, .s 13, .s 18, .s 13, .s 18, .s 13, .s 18, .s 13, .k 0, .s 2, .s 3, .k 0, .u (fun _ _ _ => (sWo P 5 (l + 1113) lep (t + 6) 1 ((x.fdiv 5).fmod 4) ps o1 av2 aep3 dz1 dt1 (dz + (s0 + 1147))).at (dz + (s0 + 1147)) (t + 11 + dt + 7)), .s 2, .s 2]
noncomputable def iT3msE (P : Params) (xs as : List Value) (n t1 t2 t3 d l dd ep lep aep : Nat) (es : List E) (ps : List (Nat × E)) (x : Int) (xt : Nat) (cv : Option Value) (o : Nat × Value × Nat × Value) (dz dt : Nat) (u1 u2 u3 u4 u5 fep : Nat) (v1 v2 v3 v4 v5 : Value) (ex : List (Str × Nat × Value)) (sl : Array (Option Value)) (o1 : Option (Nat × Value)) (av2 : List Value) (aep3 dz1 dt1 : Nat) (s0 t : Nat) : List (Nat × Obj) := [(1133, liObj 1113 n), (1113, lsObj xs 0), (1114, frG P [(str "aside", t1, .ref 1128), (str "state", t2, .ref (l + 1113)), (str "bag", t3, .ref (d + 1113)), (str "x", u1, v1), (str "kind", u2, v2), (str "amount", u3, v3), (str "held", u4, v4)] 7 #[]), (1116, ceObj cv), (d + 1113, dObj clsC (some (dd + 1113)) es ep), (l + 1113, lsObj (ps.map rfD) lep), (1128, lsObj as aep), (dd + 1113, dObj clsD none [] 0)]
noncomputable def jT3msE (P : Params) (xs as : List Value) (n t1 t2 t3 d l dd ep lep aep : Nat) (es : List E) (ps : List (Nat × E)) (x : Int) (xt : Nat) (cv : Option Value) (o : Nat × Value × Nat × Value) (dz dt : Nat) (u1 u2 u3 u4 u5 fep : Nat) (v1 v2 v3 v4 v5 : Value) (ex : List (Str × Nat × Value)) (sl : Array (Option Value)) (o1 : Option (Nat × Value)) (av2 : List Value) (aep3 dz1 dt1 : Nat) (s0 t : Nat) : List (Nat × Obj) := [(1133, liObj 1113 (n + 1)), (1113, lsObj xs 0), (1114, frG P [(str "aside", t1, .ref 1128), (str "state", t2, .ref (dz + (s0 + 1150))), (str "bag", t3, .ref (d + 1113)), (str "x", u1, .int x xt), (str "kind", u2, .int (x.fmod 5) (t + 2)), (str "amount", u3, .int (x.fdiv 20) (t + 8)), (str "held", u4, .ref (s0 + 1139)), (str "told", (t + 11 + dt + 6), .ref (dz + (s0 + 1146)))] 8 fsR), (1116, ceObj (some (.int ((x.fdiv 5).fmod 4) (t + 6)))), (d + 1113, dObj clsC (some (dd + 1113)) es ep), (l + 1113, lsObj (ps.map rfD) lep), (1128, lsObj as aep), (dd + 1113, dObj clsD none [] 0)]
noncomputable def nT3msE (xs as : List Value) (n t1 t2 t3 d l dd ep lep aep : Nat) (es : List E) (ps : List (Nat × E)) (x : Int) (xt : Nat) (cv : Option Value) (o : Nat × Value × Nat × Value) (dz dt : Nat) (u1 u2 u3 u4 u5 fep : Nat) (v1 v2 v3 v4 v5 : Value) (ex : List (Str × Nat × Value)) (sl : Array (Option Value)) (o1 : Option (Nat × Value)) (av2 : List Value) (aep3 dz1 dt1 : Nat) (s0 t : Nat) : List (Nat × Obj) := [((dz + (s0 + 1150)), lsObj av2 aep3)]
theorem rT3msE (xs as : List Value) (n t1 t2 t3 d l dd ep lep aep : Nat) (es : List E) (ps : List (Nat × E)) (x : Int) (xt : Nat) (cv : Option Value) (o : Nat × Value × Nat × Value) (dz dt : Nat) (u1 u2 u3 u4 u5 fep : Nat) (v1 v2 v3 v4 v5 : Value) (ex : List (Str × Nat × Value)) (sl : Array (Option Value)) (o1 : Option (Nat × Value)) (av2 : List Value) (aep3 dz1 dt1 : Nat) (s0 t : Nat) (k : Result → Sem PySem.Fin) (g : Bool) (lv : List Value) (fb0 : List Stmt) (pos pos' : Pos) (kp : List Value) (ca1 : Args) (ps1 : Pos) (gens : List GenState) : chk (tR tP (tW b c w) (KK (tW b c w)) [((.builtin "claim.caller" ca1), ps1)] 294 (oT3msE (tW b c w).params xs as n t1 t2 t3 d l dd ep lep aep es ps x xt cv o dz dt u1 u2 u3 u4 u5 fep v1 v2 v3 v4 v5 ex sl o1 av2 aep3 dz1 dt1 s0 t) (mkT (iT3msE (tW b c w).params xs as n t1 t2 t3 d l dd ep lep aep es ps x xt cv o dz dt u1 u2 u3 u4 u5 fep v1 v2 v3 v4 v5 ex sl o1 av2 aep3 dz1 dt1 s0 t)) 8 (s0 + 1134) gens t [ps.map tpD] (tD cLaw) cLaw pos' [.ret k none g lv (.func fb0 envL) pos kp] [] []) (turnsL 8 [19]) = chk' (tR tP (tW b c w) (KK (tW b c w)) [((.builtin "claim.caller" ca1), ps1)] 294 (oT3msE (tW b c w).params xs as n t1 t2 t3 d l dd ep lep aep es ps x xt cv o dz dt u1 u2 u3 u4 u5 fep v1 v2 v3 v4 v5 ex sl o1 av2 aep3 dz1 dt1 s0 t) (mkT (iT3msE (tW b c w).params xs as n t1 t2 t3 d l dd ep lep aep es ps x xt cv o dz dt u1 u2 u3 u4 u5 fep v1 v2 v3 v4 v5 ex sl o1 av2 aep3 dz1 dt1 s0 t)) 8 (s0 + 1134) gens t [ps.map tpD] (tD cLaw) cLaw pos' [.ret k none g lv (.func fb0 envL) pos kp] [] [])
    (tD cLaw, cLaw, [.ret k none g lv (.func fb0 envL) pos kp], (dz1 + (dz + (s0 + 1154))), (t + 11 + dt + 7 + (dt1 + 1) + 1), appG gens [], (jT3msE (tW b c w).params xs as n t1 t2 t3 d l dd ep lep aep es ps x xt cv o dz dt u1 u2 u3 u4 u5 fep v1 v2 v3 v4 v5 ex sl o1 av2 aep3 dz1 dt1 s0 t).map some, (nT3msE xs as n t1 t2 t3 d l dd ep lep aep es ps x xt cv o dz dt u1 u2 u3 u4 u5 fep v1 v2 v3 v4 v5 ex sl o1 av2 aep3 dz1 dt1 s0 t).map some, [[], [], ps.map tpD]) := by
  cases b <;> kernel_rfl
noncomputable def oT3msU (P : Params) (xs as : List Value) (n t1 t2 t3 d l dd ep lep aep : Nat) (es : List E) (ps : List (Nat × E)) (x : Int) (xt : Nat) (cv : Option Value) (o : Nat × Value × Nat × Value) (dz dt : Nat) (u1 u2 u3 u4 u5 fep : Nat) (v1 v2 v3 v4 v5 : Value) (ex : List (Str × Nat × Value)) (sl : Array (Option Value)) (o1 : Option (Nat × Value)) (av2 : List Value) (aep3 dz1 dt1 : Nat) (s0 t : Nat) : List Op := [.s 0, .k 0, .s 0, .a (fun _ _ _ => sLiNext 0 1 1133 1113 n xs 0 (.int x xt)), .s 2, .s 2, .s 2, .k 0, .s 2, .k 1, .s 2, .k 0, .s 8, .s 8, .s 8, .k 0, .s 8, .s 9, .s 9, .k 0, .s 9, .s 9, .s 9, .s 8, .s 9, .s 9, .s 9, .k 0, .s 9, .s 9, .s 9, .s 8, .s 9, .s 9, .s 9, .k 0, .s 9, .s 9, .s 9, .s 8, .s 9, .s 9, .s 9, .k 0, .s 9, .s 9, .s 9, .s 8, .s 9, .s 9, .s 11, .s 2, .s 2, .s 3, .s 3, .s 2, .s 2, .s 2, .s 5, .s 5, .k 0, .s 5, .s 12, .u (fun _ _ _ => (sHs P 12 5 14 3 13 (s0 + 1138) (l + 1113) (s0 + 1140) (s0 + 1139) lep (t + 6) 0 ((x.fdiv 5).fmod 4) ps (some o) [] 0 dz dt (s0 + 1141)).at (s0 + 1141) (t + 11)), .s 2, .s 2, .s 14, .s 14, .s 14, .s 14, .s 14, .s 14, .s 2, .k 0, .a (fun cc _ _ => sCmp "int.__eq__" (x.fmod 5) 0 false cc), .s 2, .k 0, .a (fun cc _ _ => sCmp "int.__eq__" (x.fmod 5) 1 false cc), .s 2, .k 0, .a (fun cc _ _ => sCmp "int.__eq__" (x.fmod 5) 2 false cc), .s 2, .k 0, .a (fun cc _ _ => sCmp "int.__eq__" (x.fmod 5) 3 true cc), .s 2, .s 4, .k 2, .s 4, .k 2, .s 4, .k 2, .s 4, .s 7, .s 3, .k 0, .s 4, .k 0, .a (fun cc sz _ => sPopM (dd + 1113) 4 (d + 1113) es ep ((x.fdiv 5).fmod 4) (argTok cc 1) sz), .s 16, .s 2, .s 2, .s 16, .s 16, .s 16, .s 17, .s 17, .k 2, .s 16, .k 0, .s 16, .s 17, .s 17, .s 2, .s 2, .s 2, .s 2, .s 18, .s 13, .s 18, .k 0, .s 18, .s 13, .s 18, .s 13, .s 18, .s 13, .s 18, .s 13, .k 0, .s 2, .s 3, .k 0, .u (fun _ _ _ => (sWo P 5 (l + 1113) lep (t + 6) 1 ((x.fdiv 5).fmod 4) ps o1 av2 aep3 dz1 dt1 (dz + (s0 + 1147))).at (dz + (s0 + 1147)) (t + 11 + dt + 7)), .s 2, .s 2]
noncomputable def iT3msU (P : Params) (xs as : List Value) (n t1 t2 t3 d l dd ep lep aep : Nat) (es : List E) (ps : List (Nat × E)) (x : Int) (xt : Nat) (cv : Option Value) (o : Nat × Value × Nat × Value) (dz dt : Nat) (u1 u2 u3 u4 u5 fep : Nat) (v1 v2 v3 v4 v5 : Value) (ex : List (Str × Nat × Value)) (sl : Array (Option Value)) (o1 : Option (Nat × Value)) (av2 : List Value) (aep3 dz1 dt1 : Nat) (s0 t : Nat) : List (Nat × Obj) := [(1133, liObj 1113 n), (1113, lsObj xs 0), (1114, frG P [(str "aside", t1, .ref 1128), (str "state", t2, .ref (l + 1113)), (str "bag", t3, .ref (d + 1113)), (str "x", u1, v1), (str "kind", u2, v2), (str "amount", u3, v3), (str "held", u4, v4), (str "told", u5, v5)] 8 #[]), (1116, ceObj cv), (d + 1113, dObj clsC (some (dd + 1113)) es ep), (l + 1113, lsObj (ps.map rfD) lep), (1128, lsObj as aep), (dd + 1113, dObj clsD none [] 0)]
noncomputable def jT3msU (P : Params) (xs as : List Value) (n t1 t2 t3 d l dd ep lep aep : Nat) (es : List E) (ps : List (Nat × E)) (x : Int) (xt : Nat) (cv : Option Value) (o : Nat × Value × Nat × Value) (dz dt : Nat) (u1 u2 u3 u4 u5 fep : Nat) (v1 v2 v3 v4 v5 : Value) (ex : List (Str × Nat × Value)) (sl : Array (Option Value)) (o1 : Option (Nat × Value)) (av2 : List Value) (aep3 dz1 dt1 : Nat) (s0 t : Nat) : List (Nat × Obj) := [(1133, liObj 1113 (n + 1)), (1113, lsObj xs 0), (1114, frG P [(str "aside", t1, .ref 1128), (str "state", t2, .ref (dz + (s0 + 1150))), (str "bag", t3, .ref (d + 1113)), (str "x", u1, .int x xt), (str "kind", u2, .int (x.fmod 5) (t + 2)), (str "amount", u3, .int (x.fdiv 20) (t + 8)), (str "held", u4, .ref (s0 + 1139)), (str "told", u5, .ref (dz + (s0 + 1146)))] 8 fsR), (1116, ceObj (some (.int ((x.fdiv 5).fmod 4) (t + 6)))), (d + 1113, dObj clsC (some (dd + 1113)) es ep), (l + 1113, lsObj (ps.map rfD) lep), (1128, lsObj as aep), (dd + 1113, dObj clsD none [] 0)]
noncomputable def nT3msU (xs as : List Value) (n t1 t2 t3 d l dd ep lep aep : Nat) (es : List E) (ps : List (Nat × E)) (x : Int) (xt : Nat) (cv : Option Value) (o : Nat × Value × Nat × Value) (dz dt : Nat) (u1 u2 u3 u4 u5 fep : Nat) (v1 v2 v3 v4 v5 : Value) (ex : List (Str × Nat × Value)) (sl : Array (Option Value)) (o1 : Option (Nat × Value)) (av2 : List Value) (aep3 dz1 dt1 : Nat) (s0 t : Nat) : List (Nat × Obj) := [((dz + (s0 + 1150)), lsObj av2 aep3)]
theorem rT3msU (xs as : List Value) (n t1 t2 t3 d l dd ep lep aep : Nat) (es : List E) (ps : List (Nat × E)) (x : Int) (xt : Nat) (cv : Option Value) (o : Nat × Value × Nat × Value) (dz dt : Nat) (u1 u2 u3 u4 u5 fep : Nat) (v1 v2 v3 v4 v5 : Value) (ex : List (Str × Nat × Value)) (sl : Array (Option Value)) (o1 : Option (Nat × Value)) (av2 : List Value) (aep3 dz1 dt1 : Nat) (s0 t : Nat) (k : Result → Sem PySem.Fin) (g : Bool) (lv : List Value) (fb0 : List Stmt) (pos pos' : Pos) (kp : List Value) (ca1 : Args) (ps1 : Pos) (gens : List GenState) : chk (tR tP (tW b c w) (KK (tW b c w)) [((.builtin "claim.caller" ca1), ps1)] 294 (oT3msU (tW b c w).params xs as n t1 t2 t3 d l dd ep lep aep es ps x xt cv o dz dt u1 u2 u3 u4 u5 fep v1 v2 v3 v4 v5 ex sl o1 av2 aep3 dz1 dt1 s0 t) (mkT (iT3msU (tW b c w).params xs as n t1 t2 t3 d l dd ep lep aep es ps x xt cv o dz dt u1 u2 u3 u4 u5 fep v1 v2 v3 v4 v5 ex sl o1 av2 aep3 dz1 dt1 s0 t)) 8 (s0 + 1134) gens t [ps.map tpD] (tD cLaw) cLaw pos' [.ret k none g lv (.func fb0 envL) pos kp] [] []) (turnsL 8 [19]) = chk' (tR tP (tW b c w) (KK (tW b c w)) [((.builtin "claim.caller" ca1), ps1)] 294 (oT3msU (tW b c w).params xs as n t1 t2 t3 d l dd ep lep aep es ps x xt cv o dz dt u1 u2 u3 u4 u5 fep v1 v2 v3 v4 v5 ex sl o1 av2 aep3 dz1 dt1 s0 t) (mkT (iT3msU (tW b c w).params xs as n t1 t2 t3 d l dd ep lep aep es ps x xt cv o dz dt u1 u2 u3 u4 u5 fep v1 v2 v3 v4 v5 ex sl o1 av2 aep3 dz1 dt1 s0 t)) 8 (s0 + 1134) gens t [ps.map tpD] (tD cLaw) cLaw pos' [.ret k none g lv (.func fb0 envL) pos kp] [] [])
    (tD cLaw, cLaw, [.ret k none g lv (.func fb0 envL) pos kp], (dz1 + (dz + (s0 + 1154))), (t + 11 + dt + 7 + (dt1 + 1) + 1), appG gens [], (jT3msU (tW b c w).params xs as n t1 t2 t3 d l dd ep lep aep es ps x xt cv o dz dt u1 u2 u3 u4 u5 fep v1 v2 v3 v4 v5 ex sl o1 av2 aep3 dz1 dt1 s0 t).map some, (nT3msU xs as n t1 t2 t3 d l dd ep lep aep es ps x xt cv o dz dt u1 u2 u3 u4 u5 fep v1 v2 v3 v4 v5 ex sl o1 av2 aep3 dz1 dt1 s0 t).map some, [[], [], ps.map tpD]) := by
  cases b <;> kernel_rfl
noncomputable def oT3msR (P : Params) (xs as : List Value) (n t1 t2 t3 d l dd ep lep aep : Nat) (es : List E) (ps : List (Nat × E)) (x : Int) (xt : Nat) (cv : Option Value) (o : Nat × Value × Nat × Value) (dz dt : Nat) (u1 u2 u3 u4 u5 fep : Nat) (v1 v2 v3 v4 v5 : Value) (ex : List (Str × Nat × Value)) (sl : Array (Option Value)) (o1 : Option (Nat × Value)) (av2 : List Value) (aep3 dz1 dt1 : Nat) (s0 t : Nat) : List Op := [.s 0, .k 0, .s 0, .a (fun _ _ _ => sLiNext 0 1 1133 1113 n xs 0 (.int x xt)), .s 2, .s 2, .s 2, .k 0, .s 2, .k 1, .s 2, .k 0, .s 8, .s 8, .s 8, .k 0, .s 8, .s 9, .s 9, .k 0, .s 9, .s 9, .s 9, .s 8, .s 9, .s 9, .s 9, .k 0, .s 9, .s 9, .s 9, .s 8, .s 9, .s 9, .s 9, .k 0, .s 9, .s 9, .s 9, .s 8, .s 9, .s 9, .s 9, .k 0, .s 9, .s 9, .s 9, .s 8, .s 9, .s 9, .s 11, .s 2, .s 2, .s 3, .s 3, .s 2, .s 2, .s 2, .s 5, .s 5, .k 0, .s 5, .s 12, .u (fun _ _ _ => (sHs P 12 5 14 3 13 (s0 + 1138) (l + 1113) (s0 + 1140) (s0 + 1139) lep (t + 6) 0 ((x.fdiv 5).fmod 4) ps (some o) [] 0 dz dt (s0 + 1141)).at (s0 + 1141) (t + 11)), .s 2, .s 2, .s 14, .s 14, .s 14, .s 14, .s 14, .s 14, .s 2, .k 0, .a (fun cc _ _ => sCmp "int.__eq__" (x.fmod 5) 0 false cc), .s 2, .k 0, .a (fun cc _ _ => sCmp "int.__eq__" (x.fmod 5) 1 false cc), .s 2, .k 0, .a (fun cc _ _ => sCmp "int.__eq__" (x.fmod 5) 2 false cc), .s 2, .k 0, .a (fun cc _ _ => sCmp "int.__eq__" (x.fmod 5) 3 true cc), .s 2, .s 4, .k 2, .s 4, .k 2, .s 4, .k 2, .s 4, .s 7, .s 3, .k 0, .s 4, .k 0, .a (fun cc sz _ => sPopM (dd + 1113) 4 (d + 1113) es ep ((x.fdiv 5).fmod 4) (argTok cc 1) sz), .s 16, .s 2, .s 16, .s 16, .s 16, .s 17, .s 17, .k 2, .s 16, .k 0, .s 16, .s 17, .s 17, .s 2, .s 2, .s 2, .s 2, .s 18, .s 13, .s 18, .k 0, .s 18, .s 13, .s 18, .s 13, .s 18, .s 13, .s 18, .s 13, .k 0, .s 2, .s 3, .k 0, .u (fun _ _ _ => (sWo P 5 (l + 1113) lep (t + 6) 1 ((x.fdiv 5).fmod 4) ps o1 av2 aep3 dz1 dt1 (dz + (s0 + 1147))).at (dz + (s0 + 1147)) (t + 11 + dt + 7)), .s 2, .s 2]
noncomputable def iT3msR (P : Params) (xs as : List Value) (n t1 t2 t3 d l dd ep lep aep : Nat) (es : List E) (ps : List (Nat × E)) (x : Int) (xt : Nat) (cv : Option Value) (o : Nat × Value × Nat × Value) (dz dt : Nat) (u1 u2 u3 u4 u5 fep : Nat) (v1 v2 v3 v4 v5 : Value) (ex : List (Str × Nat × Value)) (sl : Array (Option Value)) (o1 : Option (Nat × Value)) (av2 : List Value) (aep3 dz1 dt1 : Nat) (s0 t : Nat) : List (Nat × Obj) := [(1133, liObj 1113 n), (1113, lsObj xs 0), (1114, frG P [(str "aside", t1, .ref 1128), (str "state", t2, .ref (l + 1113)), (str "bag", t3, .ref (d + 1113)), (str "x", u1, v1), (str "kind", u2, v2), (str "amount", u3, v3), (str "held", u4, v4), (str "told", u5, v5)] 8 fsR), (1116, ceObj cv), (d + 1113, dObj clsC (some (dd + 1113)) es ep), (l + 1113, lsObj (ps.map rfD) lep), (1128, lsObj as aep), (dd + 1113, dObj clsD none [] 0)]
noncomputable def jT3msR (P : Params) (xs as : List Value) (n t1 t2 t3 d l dd ep lep aep : Nat) (es : List E) (ps : List (Nat × E)) (x : Int) (xt : Nat) (cv : Option Value) (o : Nat × Value × Nat × Value) (dz dt : Nat) (u1 u2 u3 u4 u5 fep : Nat) (v1 v2 v3 v4 v5 : Value) (ex : List (Str × Nat × Value)) (sl : Array (Option Value)) (o1 : Option (Nat × Value)) (av2 : List Value) (aep3 dz1 dt1 : Nat) (s0 t : Nat) : List (Nat × Obj) := [(1133, liObj 1113 (n + 1)), (1113, lsObj xs 0), (1114, frG P [(str "aside", t1, .ref 1128), (str "state", t2, .ref (dz + (s0 + 1150))), (str "bag", t3, .ref (d + 1113)), (str "x", u1, .int x xt), (str "kind", u2, .int (x.fmod 5) (t + 2)), (str "amount", u3, .int (x.fdiv 20) (t + 8)), (str "held", u4, .ref (s0 + 1139)), (str "told", u5, .ref (dz + (s0 + 1146)))] 8 fsR), (1116, ceObj (some (.int ((x.fdiv 5).fmod 4) (t + 6)))), (d + 1113, dObj clsC (some (dd + 1113)) es ep), (l + 1113, lsObj (ps.map rfD) lep), (1128, lsObj as aep), (dd + 1113, dObj clsD none [] 0)]
noncomputable def nT3msR (xs as : List Value) (n t1 t2 t3 d l dd ep lep aep : Nat) (es : List E) (ps : List (Nat × E)) (x : Int) (xt : Nat) (cv : Option Value) (o : Nat × Value × Nat × Value) (dz dt : Nat) (u1 u2 u3 u4 u5 fep : Nat) (v1 v2 v3 v4 v5 : Value) (ex : List (Str × Nat × Value)) (sl : Array (Option Value)) (o1 : Option (Nat × Value)) (av2 : List Value) (aep3 dz1 dt1 : Nat) (s0 t : Nat) : List (Nat × Obj) := [((dz + (s0 + 1150)), lsObj av2 aep3)]
theorem rT3msR (xs as : List Value) (n t1 t2 t3 d l dd ep lep aep : Nat) (es : List E) (ps : List (Nat × E)) (x : Int) (xt : Nat) (cv : Option Value) (o : Nat × Value × Nat × Value) (dz dt : Nat) (u1 u2 u3 u4 u5 fep : Nat) (v1 v2 v3 v4 v5 : Value) (ex : List (Str × Nat × Value)) (sl : Array (Option Value)) (o1 : Option (Nat × Value)) (av2 : List Value) (aep3 dz1 dt1 : Nat) (s0 t : Nat) (k : Result → Sem PySem.Fin) (g : Bool) (lv : List Value) (fb0 : List Stmt) (pos pos' : Pos) (kp : List Value) (ca1 : Args) (ps1 : Pos) (gens : List GenState) : chk (tR tP (tW b c w) (KK (tW b c w)) [((.builtin "claim.caller" ca1), ps1)] 292 (oT3msR (tW b c w).params xs as n t1 t2 t3 d l dd ep lep aep es ps x xt cv o dz dt u1 u2 u3 u4 u5 fep v1 v2 v3 v4 v5 ex sl o1 av2 aep3 dz1 dt1 s0 t) (mkT (iT3msR (tW b c w).params xs as n t1 t2 t3 d l dd ep lep aep es ps x xt cv o dz dt u1 u2 u3 u4 u5 fep v1 v2 v3 v4 v5 ex sl o1 av2 aep3 dz1 dt1 s0 t)) 8 (s0 + 1134) gens t [ps.map tpD] (tD cLaw) cLaw pos' [.ret k none g lv (.func fb0 envL) pos kp] [] []) (turnsL 8 [19]) = chk' (tR tP (tW b c w) (KK (tW b c w)) [((.builtin "claim.caller" ca1), ps1)] 292 (oT3msR (tW b c w).params xs as n t1 t2 t3 d l dd ep lep aep es ps x xt cv o dz dt u1 u2 u3 u4 u5 fep v1 v2 v3 v4 v5 ex sl o1 av2 aep3 dz1 dt1 s0 t) (mkT (iT3msR (tW b c w).params xs as n t1 t2 t3 d l dd ep lep aep es ps x xt cv o dz dt u1 u2 u3 u4 u5 fep v1 v2 v3 v4 v5 ex sl o1 av2 aep3 dz1 dt1 s0 t)) 8 (s0 + 1134) gens t [ps.map tpD] (tD cLaw) cLaw pos' [.ret k none g lv (.func fb0 envL) pos kp] [] [])
    (tD cLaw, cLaw, [.ret k none g lv (.func fb0 envL) pos kp], (dz1 + (dz + (s0 + 1154))), (t + 11 + dt + 7 + (dt1 + 1) + 1), appG gens [], (jT3msR (tW b c w).params xs as n t1 t2 t3 d l dd ep lep aep es ps x xt cv o dz dt u1 u2 u3 u4 u5 fep v1 v2 v3 v4 v5 ex sl o1 av2 aep3 dz1 dt1 s0 t).map some, (nT3msR xs as n t1 t2 t3 d l dd ep lep aep es ps x xt cv o dz dt u1 u2 u3 u4 u5 fep v1 v2 v3 v4 v5 ex sl o1 av2 aep3 dz1 dt1 s0 t).map some, [[], [], ps.map tpD]) := by
  cases b <;> kernel_rfl
noncomputable def oT3mnE (P : Params) (xs as : List Value) (n t1 t2 t3 d l dd ep lep aep : Nat) (es : List E) (ps : List (Nat × E)) (x : Int) (xt : Nat) (cv : Option Value) (o : Nat × Value × Nat × Value) (dz dt : Nat) (u1 u2 u3 u4 u5 fep : Nat) (v1 v2 v3 v4 v5 : Value) (ex : List (Str × Nat × Value)) (sl : Array (Option Value)) (o1 : Option (Nat × Value)) (av2 : List Value) (aep3 dz1 dt1 : Nat) (s0 t : Nat) : List Op := [.s 0, .k 0, .s 0, .a (fun _ _ _ => sLiNext 0 1 1133 1113 n xs 0 (.int x xt)), .s 2, .s 2, .s 2, .k 0, .s 2, .k 1, .s 2, .k 0, .s 8, .s 8, .s 8, .k 0, .s 8, .s 9, .s 9, .k 0, .s 9, .s 9, .s 9, .s 8, .s 9, .s 9, .s 9, .k 0, .s 9, .s 9, .s 9, .s 8, .s 9, .s 9, .s 9, .k 0, .s 9, .s 9, .s 9, .s 8, .s 9, .s 9, .s 9, .k 0, .s 9, .s 9, .s 9, .s 8, .s 9, .s 9, .s 11, .s 2, .s 2, .s 3, .s 3, .s 2, .s 2, .s 2, .s 5, .s 5, .k 0, .s 5, .s 12, .u (fun _ _ _ => (sHs P 12 5 14 3 13 (s0 + 1138) (l + 1113) (s0 + 1140) (s0 + 1139) lep (t + 6) 0 ((x.fdiv 5).fmod 4) ps none [] 0 dz dt (s0 + 1141)).at (s0 + 1141) (t + 11)), .s 2, .s 2, .s 14, .s 14, .s 2, .k 0, .a (fun cc _ _ => sCmp "int.__eq__" (x.fmod 5) 0 false cc), .s 2, .k 0, .a (fun cc _ _ => sCmp "int.__eq__" (x.fmod 5) 1 false cc), .s 2, .k 0, .a (fun cc _ _ => sCmp "int.__eq__" (x.fmod 5) 2 false cc), .s 2, .k 0, .a (fun cc _ _ => sCmp "int.__eq__" (x.fmod 5) 3 true cc), .s 2, .s 4, .k 2, .s 4, .k 2, .s 4, .k 2, .s 4, .s 7, .s 3, .k 0, .s 4, .k 0, .a (fun cc sz _ => sPopM (dd + 1113) 4 (d + 1113) es ep ((x.fdiv 5).fmod 4) (argTok cc 1) sz), .s 16, .s 2, .s 2, .s 16, .s 16, .s 16, .s 17, .s 17, .k 2, .s 16, .k 0, .s 16, .s 17, .s 17, .s 2, .s 2, .s 2, .s 2, .s 18, .s 13, .s 18, .k 0, .s 18, .s 13, .s 18, .s 13, .s 18, .s 13, .s 18, .s 13, .k 0, .s 2, .s 3, .k 0, .u (fun _ _ _ => (sWo P 5 (l + 1113) lep (t + 6) 1 ((x.fdiv 5).fmod 4) ps o1 av2 aep3 dz1 dt1 (dz + (s0 + 1147))).at (dz + (s0 + 1147)) (t + 11 + dt + 7)), .s 2, .s 2]
noncomputable def iT3mnE (P : Params) (xs as : List Value) (n t1 t2 t3 d l dd ep lep aep : Nat) (es : List E) (ps : List (Nat × E)) (x : Int) (xt : Nat) (cv : Option Value) (o : Nat × Value × Nat × Value) (dz dt : Nat) (u1 u2 u3 u4 u5 fep : Nat) (v1 v2 v3 v4 v5 : Value) (ex : List (Str × Nat × Value)) (sl : Array (Option Value)) (o1 : Option (Nat × Value)) (av2 : List Value) (aep3 dz1 dt1 : Nat) (s0 t : Nat) : List (Nat × Obj) := [(1133, liObj 1113 n), (1113, lsObj xs 0), (1114, frG P [(str "aside", t1, .ref 1128), (str "state", t2, .ref (l + 1113)), (str "bag", t3, .ref (d + 1113)), (str "x", u1, v1), (str "kind", u2, v2), (str "amount", u3, v3), (str "held", u4, v4)] 7 #[]), (1116, ceObj cv), (d + 1113, dObj clsC (some (dd + 1113)) es ep), (l + 1113, lsObj (ps.map rfD) lep), (1128, lsObj as aep), (dd + 1113, dObj clsD none [] 0)]
noncomputable def jT3mnE (P : Params) (xs as : List Value) (n t1 t2 t3 d l dd ep lep aep : Nat) (es : List E) (ps : List (Nat × E)) (x : Int) (xt : Nat) (cv : Option Value) (o : Nat × Value × Nat × Value) (dz dt : Nat) (u1 u2 u3 u4 u5 fep : Nat) (v1 v2 v3 v4 v5 : Value) (ex : List (Str × Nat × Value)) (sl : Array (Option Value)) (o1 : Option (Nat × Value)) (av2 : List Value) (aep3 dz1 dt1 : Nat) (s0 t : Nat) : List (Nat × Obj) := [(1133, liObj 1113 (n + 1)), (1113, lsObj xs 0), (1114, frG P [(str "aside", t1, .ref 1128), (str "state", t2, .ref (dz + (s0 + 1150))), (str "bag", t3, .ref (d + 1113)), (str "x", u1, .int x xt), (str "kind", u2, .int (x.fmod 5) (t + 2)), (str "amount", u3, .int (x.fdiv 20) (t + 8)), (str "held", u4, .ref (s0 + 1139)), (str "told", (t + 11 + dt + 6), .ref (dz + (s0 + 1146)))] 8 fsR), (1116, ceObj (some (.int ((x.fdiv 5).fmod 4) (t + 6)))), (d + 1113, dObj clsC (some (dd + 1113)) es ep), (l + 1113, lsObj (ps.map rfD) lep), (1128, lsObj as aep), (dd + 1113, dObj clsD none [] 0)]
noncomputable def nT3mnE (xs as : List Value) (n t1 t2 t3 d l dd ep lep aep : Nat) (es : List E) (ps : List (Nat × E)) (x : Int) (xt : Nat) (cv : Option Value) (o : Nat × Value × Nat × Value) (dz dt : Nat) (u1 u2 u3 u4 u5 fep : Nat) (v1 v2 v3 v4 v5 : Value) (ex : List (Str × Nat × Value)) (sl : Array (Option Value)) (o1 : Option (Nat × Value)) (av2 : List Value) (aep3 dz1 dt1 : Nat) (s0 t : Nat) : List (Nat × Obj) := [((dz + (s0 + 1150)), lsObj av2 aep3)]
theorem rT3mnE (xs as : List Value) (n t1 t2 t3 d l dd ep lep aep : Nat) (es : List E) (ps : List (Nat × E)) (x : Int) (xt : Nat) (cv : Option Value) (o : Nat × Value × Nat × Value) (dz dt : Nat) (u1 u2 u3 u4 u5 fep : Nat) (v1 v2 v3 v4 v5 : Value) (ex : List (Str × Nat × Value)) (sl : Array (Option Value)) (o1 : Option (Nat × Value)) (av2 : List Value) (aep3 dz1 dt1 : Nat) (s0 t : Nat) (k : Result → Sem PySem.Fin) (g : Bool) (lv : List Value) (fb0 : List Stmt) (pos pos' : Pos) (kp : List Value) (ca1 : Args) (ps1 : Pos) (gens : List GenState) : chk (tR tP (tW b c w) (KK (tW b c w)) [((.builtin "claim.caller" ca1), ps1)] 286 (oT3mnE (tW b c w).params xs as n t1 t2 t3 d l dd ep lep aep es ps x xt cv o dz dt u1 u2 u3 u4 u5 fep v1 v2 v3 v4 v5 ex sl o1 av2 aep3 dz1 dt1 s0 t) (mkT (iT3mnE (tW b c w).params xs as n t1 t2 t3 d l dd ep lep aep es ps x xt cv o dz dt u1 u2 u3 u4 u5 fep v1 v2 v3 v4 v5 ex sl o1 av2 aep3 dz1 dt1 s0 t)) 8 (s0 + 1134) gens t [ps.map tpD] (tD cLaw) cLaw pos' [.ret k none g lv (.func fb0 envL) pos kp] [] []) (turnsL 8 [19]) = chk' (tR tP (tW b c w) (KK (tW b c w)) [((.builtin "claim.caller" ca1), ps1)] 286 (oT3mnE (tW b c w).params xs as n t1 t2 t3 d l dd ep lep aep es ps x xt cv o dz dt u1 u2 u3 u4 u5 fep v1 v2 v3 v4 v5 ex sl o1 av2 aep3 dz1 dt1 s0 t) (mkT (iT3mnE (tW b c w).params xs as n t1 t2 t3 d l dd ep lep aep es ps x xt cv o dz dt u1 u2 u3 u4 u5 fep v1 v2 v3 v4 v5 ex sl o1 av2 aep3 dz1 dt1 s0 t)) 8 (s0 + 1134) gens t [ps.map tpD] (tD cLaw) cLaw pos' [.ret k none g lv (.func fb0 envL) pos kp] [] [])
    (tD cLaw, cLaw, [.ret k none g lv (.func fb0 envL) pos kp], (dz1 + (dz + (s0 + 1154))), (t + 11 + dt + 7 + (dt1 + 1) + 1), appG gens [], (jT3mnE (tW b c w).params xs as n t1 t2 t3 d l dd ep lep aep es ps x xt cv o dz dt u1 u2 u3 u4 u5 fep v1 v2 v3 v4 v5 ex sl o1 av2 aep3 dz1 dt1 s0 t).map some, (nT3mnE xs as n t1 t2 t3 d l dd ep lep aep es ps x xt cv o dz dt u1 u2 u3 u4 u5 fep v1 v2 v3 v4 v5 ex sl o1 av2 aep3 dz1 dt1 s0 t).map some, [[], [], ps.map tpD]) := by
  cases b <;> kernel_rfl
noncomputable def oT3mnU (P : Params) (xs as : List Value) (n t1 t2 t3 d l dd ep lep aep : Nat) (es : List E) (ps : List (Nat × E)) (x : Int) (xt : Nat) (cv : Option Value) (o : Nat × Value × Nat × Value) (dz dt : Nat) (u1 u2 u3 u4 u5 fep : Nat) (v1 v2 v3 v4 v5 : Value) (ex : List (Str × Nat × Value)) (sl : Array (Option Value)) (o1 : Option (Nat × Value)) (av2 : List Value) (aep3 dz1 dt1 : Nat) (s0 t : Nat) : List Op := [.s 0, .k 0, .s 0, .a (fun _ _ _ => sLiNext 0 1 1133 1113 n xs 0 (.int x xt)), .s 2, .s 2, .s 2, .k 0, .s 2, .k 1, .s 2, .k 0, .s 8, .s 8, .s 8, .k 0, .s 8, .s 9, .s 9, .k 0, .s 9, .s 9, .s 9, .s 8, .s 9, .s 9, .s 9, .k 0, .s 9, .s 9, .s 9, .s 8, .s 9, .s 9, .s 9, .k 0, .s 9, .s 9, .s 9, .s 8, .s 9, .s 9, .s 9, .k 0, .s 9, .s 9, .s 9, .s 8, .s 9, .s 9, .s 11, .s 2, .s 2, .s 3, .s 3, .s 2, .s 2, .s 2, .s 5, .s 5, .k 0, .s 5, .s 12, .u (fun _ _ _ => (sHs P 12 5 14 3 13 (s0 + 1138) (l + 1113) (s0 + 1140) (s0 + 1139) lep (t + 6) 0 ((x.fdiv 5).fmod 4) ps none [] 0 dz dt (s0 + 1141)).at (s0 + 1141) (t + 11)), .s 2, .s 2, .s 14, .s 14, .s 2, .k 0, .a (fun cc _ _ => sCmp "int.__eq__" (x.fmod 5) 0 false cc), .s 2, .k 0, .a (fun cc _ _ => sCmp "int.__eq__" (x.fmod 5) 1 false cc), .s 2, .k 0, .a (fun cc _ _ => sCmp "int.__eq__" (x.fmod 5) 2 false cc), .s 2, .k 0, .a (fun cc _ _ => sCmp "int.__eq__" (x.fmod 5) 3 true cc), .s 2, .s 4, .k 2, .s 4, .k 2, .s 4, .k 2, .s 4, .s 7, .s 3, .k 0, .s 4, .k 0, .a (fun cc sz _ => sPopM (dd + 1113) 4 (d + 1113) es ep ((x.fdiv 5).fmod 4) (argTok cc 1) sz), .s 16, .s 2, .s 2, .s 16, .s 16, .s 16, .s 17, .s 17, .k 2, .s 16, .k 0, .s 16, .s 17, .s 17, .s 2, .s 2, .s 2, .s 2, .s 18, .s 13, .s 18, .k 0, .s 18, .s 13, .s 18, .s 13, .s 18, .s 13, .s 18, .s 13, .k 0, .s 2, .s 3, .k 0, .u (fun _ _ _ => (sWo P 5 (l + 1113) lep (t + 6) 1 ((x.fdiv 5).fmod 4) ps o1 av2 aep3 dz1 dt1 (dz + (s0 + 1147))).at (dz + (s0 + 1147)) (t + 11 + dt + 7)), .s 2, .s 2]
noncomputable def iT3mnU (P : Params) (xs as : List Value) (n t1 t2 t3 d l dd ep lep aep : Nat) (es : List E) (ps : List (Nat × E)) (x : Int) (xt : Nat) (cv : Option Value) (o : Nat × Value × Nat × Value) (dz dt : Nat) (u1 u2 u3 u4 u5 fep : Nat) (v1 v2 v3 v4 v5 : Value) (ex : List (Str × Nat × Value)) (sl : Array (Option Value)) (o1 : Option (Nat × Value)) (av2 : List Value) (aep3 dz1 dt1 : Nat) (s0 t : Nat) : List (Nat × Obj) := [(1133, liObj 1113 n), (1113, lsObj xs 0), (1114, frG P [(str "aside", t1, .ref 1128), (str "state", t2, .ref (l + 1113)), (str "bag", t3, .ref (d + 1113)), (str "x", u1, v1), (str "kind", u2, v2), (str "amount", u3, v3), (str "held", u4, v4), (str "told", u5, v5)] 8 #[]), (1116, ceObj cv), (d + 1113, dObj clsC (some (dd + 1113)) es ep), (l + 1113, lsObj (ps.map rfD) lep), (1128, lsObj as aep), (dd + 1113, dObj clsD none [] 0)]
noncomputable def jT3mnU (P : Params) (xs as : List Value) (n t1 t2 t3 d l dd ep lep aep : Nat) (es : List E) (ps : List (Nat × E)) (x : Int) (xt : Nat) (cv : Option Value) (o : Nat × Value × Nat × Value) (dz dt : Nat) (u1 u2 u3 u4 u5 fep : Nat) (v1 v2 v3 v4 v5 : Value) (ex : List (Str × Nat × Value)) (sl : Array (Option Value)) (o1 : Option (Nat × Value)) (av2 : List Value) (aep3 dz1 dt1 : Nat) (s0 t : Nat) : List (Nat × Obj) := [(1133, liObj 1113 (n + 1)), (1113, lsObj xs 0), (1114, frG P [(str "aside", t1, .ref 1128), (str "state", t2, .ref (dz + (s0 + 1150))), (str "bag", t3, .ref (d + 1113)), (str "x", u1, .int x xt), (str "kind", u2, .int (x.fmod 5) (t + 2)), (str "amount", u3, .int (x.fdiv 20) (t + 8)), (str "held", u4, .ref (s0 + 1139)), (str "told", u5, .ref (dz + (s0 + 1146)))] 8 fsR), (1116, ceObj (some (.int ((x.fdiv 5).fmod 4) (t + 6)))), (d + 1113, dObj clsC (some (dd + 1113)) es ep), (l + 1113, lsObj (ps.map rfD) lep), (1128, lsObj as aep), (dd + 1113, dObj clsD none [] 0)]
noncomputable def nT3mnU (xs as : List Value) (n t1 t2 t3 d l dd ep lep aep : Nat) (es : List E) (ps : List (Nat × E)) (x : Int) (xt : Nat) (cv : Option Value) (o : Nat × Value × Nat × Value) (dz dt : Nat) (u1 u2 u3 u4 u5 fep : Nat) (v1 v2 v3 v4 v5 : Value) (ex : List (Str × Nat × Value)) (sl : Array (Option Value)) (o1 : Option (Nat × Value)) (av2 : List Value) (aep3 dz1 dt1 : Nat) (s0 t : Nat) : List (Nat × Obj) := [((dz + (s0 + 1150)), lsObj av2 aep3)]
theorem rT3mnU (xs as : List Value) (n t1 t2 t3 d l dd ep lep aep : Nat) (es : List E) (ps : List (Nat × E)) (x : Int) (xt : Nat) (cv : Option Value) (o : Nat × Value × Nat × Value) (dz dt : Nat) (u1 u2 u3 u4 u5 fep : Nat) (v1 v2 v3 v4 v5 : Value) (ex : List (Str × Nat × Value)) (sl : Array (Option Value)) (o1 : Option (Nat × Value)) (av2 : List Value) (aep3 dz1 dt1 : Nat) (s0 t : Nat) (k : Result → Sem PySem.Fin) (g : Bool) (lv : List Value) (fb0 : List Stmt) (pos pos' : Pos) (kp : List Value) (ca1 : Args) (ps1 : Pos) (gens : List GenState) : chk (tR tP (tW b c w) (KK (tW b c w)) [((.builtin "claim.caller" ca1), ps1)] 286 (oT3mnU (tW b c w).params xs as n t1 t2 t3 d l dd ep lep aep es ps x xt cv o dz dt u1 u2 u3 u4 u5 fep v1 v2 v3 v4 v5 ex sl o1 av2 aep3 dz1 dt1 s0 t) (mkT (iT3mnU (tW b c w).params xs as n t1 t2 t3 d l dd ep lep aep es ps x xt cv o dz dt u1 u2 u3 u4 u5 fep v1 v2 v3 v4 v5 ex sl o1 av2 aep3 dz1 dt1 s0 t)) 8 (s0 + 1134) gens t [ps.map tpD] (tD cLaw) cLaw pos' [.ret k none g lv (.func fb0 envL) pos kp] [] []) (turnsL 8 [19]) = chk' (tR tP (tW b c w) (KK (tW b c w)) [((.builtin "claim.caller" ca1), ps1)] 286 (oT3mnU (tW b c w).params xs as n t1 t2 t3 d l dd ep lep aep es ps x xt cv o dz dt u1 u2 u3 u4 u5 fep v1 v2 v3 v4 v5 ex sl o1 av2 aep3 dz1 dt1 s0 t) (mkT (iT3mnU (tW b c w).params xs as n t1 t2 t3 d l dd ep lep aep es ps x xt cv o dz dt u1 u2 u3 u4 u5 fep v1 v2 v3 v4 v5 ex sl o1 av2 aep3 dz1 dt1 s0 t)) 8 (s0 + 1134) gens t [ps.map tpD] (tD cLaw) cLaw pos' [.ret k none g lv (.func fb0 envL) pos kp] [] [])
    (tD cLaw, cLaw, [.ret k none g lv (.func fb0 envL) pos kp], (dz1 + (dz + (s0 + 1154))), (t + 11 + dt + 7 + (dt1 + 1) + 1), appG gens [], (jT3mnU (tW b c w).params xs as n t1 t2 t3 d l dd ep lep aep es ps x xt cv o dz dt u1 u2 u3 u4 u5 fep v1 v2 v3 v4 v5 ex sl o1 av2 aep3 dz1 dt1 s0 t).map some, (nT3mnU xs as n t1 t2 t3 d l dd ep lep aep es ps x xt cv o dz dt u1 u2 u3 u4 u5 fep v1 v2 v3 v4 v5 ex sl o1 av2 aep3 dz1 dt1 s0 t).map some, [[], [], ps.map tpD]) := by
  cases b <;> kernel_rfl
noncomputable def oT3mnR (P : Params) (xs as : List Value) (n t1 t2 t3 d l dd ep lep aep : Nat) (es : List E) (ps : List (Nat × E)) (x : Int) (xt : Nat) (cv : Option Value) (o : Nat × Value × Nat × Value) (dz dt : Nat) (u1 u2 u3 u4 u5 fep : Nat) (v1 v2 v3 v4 v5 : Value) (ex : List (Str × Nat × Value)) (sl : Array (Option Value)) (o1 : Option (Nat × Value)) (av2 : List Value) (aep3 dz1 dt1 : Nat) (s0 t : Nat) : List Op := [.s 0, .k 0, .s 0, .a (fun _ _ _ => sLiNext 0 1 1133 1113 n xs 0 (.int x xt)), .s 2, .s 2, .s 2, .k 0, .s 2, .k 1, .s 2, .k 0, .s 8, .s 8, .s 8, .k 0, .s 8, .s 9, .s 9, .k 0, .s 9, .s 9, .s 9, .s 8, .s 9, .s 9, .s 9, .k 0, .s 9, .s 9, .s 9, .s 8, .s 9, .s 9, .s 9, .k 0, .s 9, .s 9, .s 9, .s 8, .s 9, .s 9, .s 9, .k 0, .s 9, .s 9, .s 9, .s 8, .s 9, .s 9, .s 11, .s 2, .s 2, .s 3, .s 3, .s 2, .s 2, .s 2, .s 5, .s 5, .k 0, .s 5, .s 12, .u (fun _ _ _ => (sHs P 12 5 14 3 13 (s0 + 1138) (l + 1113) (s0 + 1140) (s0 + 1139) lep (t + 6) 0 ((x.fdiv 5).fmod 4) ps none [] 0 dz dt (s0 + 1141)).at (s0 + 1141) (t + 11)), .s 2, .s 2, .s 14, .s 14, .s 2, .k 0, .a (fun cc _ _ => sCmp "int.__eq__" (x.fmod 5) 0 false cc), .s 2, .k 0, .a (fun cc _ _ => sCmp "int.__eq__" (x.fmod 5) 1 false cc), .s 2, .k 0, .a (fun cc _ _ => sCmp "int.__eq__" (x.fmod 5) 2 false cc), .s 2, .k 0, .a (fun cc _ _ => sCmp "int.__eq__" (x.fmod 5) 3 true cc), .s 2, .s 4, .k 2, .s 4, .k 2, .s 4, .k 2, .s 4, .s 7, .s 3, .k 0, .s 4, .k 0, .a (fun cc sz _ => sPopM (dd + 1113) 4 (d + 1113) es ep ((x.fdiv 5).fmod 4) (argTok cc 1) sz), .s 16, .s 2, .s 16, .s 16, .s 16, .s 17, .s 17, .k 2, .s 16, .k 0, .s 16, .s 17, .s 17, .s 2, .s 2, .s 2, .s 2, .s 18, .s 13, .s 18, .k 0, .s 18, .s 13, .s 18, .s 13, .s 18, .s 13, .s 18, .s 13, .k 0, .s 2, .s 3, .k 0, .u (fun _ _ _ => (sWo P 5 (l + 1113) lep (t + 6) 1 ((x.fdiv 5).fmod 4) ps o1 av2 aep3 dz1 dt1 (dz + (s0 + 1147))).at (dz + (s0 + 1147)) (t + 11 + dt + 7)), .s 2, .s 2]
noncomputable def iT3mnR (P : Params) (xs as : List Value) (n t1 t2 t3 d l dd ep lep aep : Nat) (es : List E) (ps : List (Nat × E)) (x : Int) (xt : Nat) (cv : Option Value) (o : Nat × Value × Nat × Value) (dz dt : Nat) (u1 u2 u3 u4 u5 fep : Nat) (v1 v2 v3 v4 v5 : Value) (ex : List (Str × Nat × Value)) (sl : Array (Option Value)) (o1 : Option (Nat × Value)) (av2 : List Value) (aep3 dz1 dt1 : Nat) (s0 t : Nat) : List (Nat × Obj) := [(1133, liObj 1113 n), (1113, lsObj xs 0), (1114, frG P [(str "aside", t1, .ref 1128), (str "state", t2, .ref (l + 1113)), (str "bag", t3, .ref (d + 1113)), (str "x", u1, v1), (str "kind", u2, v2), (str "amount", u3, v3), (str "held", u4, v4), (str "told", u5, v5)] 8 fsR), (1116, ceObj cv), (d + 1113, dObj clsC (some (dd + 1113)) es ep), (l + 1113, lsObj (ps.map rfD) lep), (1128, lsObj as aep), (dd + 1113, dObj clsD none [] 0)]
noncomputable def jT3mnR (P : Params) (xs as : List Value) (n t1 t2 t3 d l dd ep lep aep : Nat) (es : List E) (ps : List (Nat × E)) (x : Int) (xt : Nat) (cv : Option Value) (o : Nat × Value × Nat × Value) (dz dt : Nat) (u1 u2 u3 u4 u5 fep : Nat) (v1 v2 v3 v4 v5 : Value) (ex : List (Str × Nat × Value)) (sl : Array (Option Value)) (o1 : Option (Nat × Value)) (av2 : List Value) (aep3 dz1 dt1 : Nat) (s0 t : Nat) : List (Nat × Obj) := [(1133, liObj 1113 (n + 1)), (1113, lsObj xs 0), (1114, frG P [(str "aside", t1, .ref 1128), (str "state", t2, .ref (dz + (s0 + 1150))), (str "bag", t3, .ref (d + 1113)), (str "x", u1, .int x xt), (str "kind", u2, .int (x.fmod 5) (t + 2)), (str "amount", u3, .int (x.fdiv 20) (t + 8)), (str "held", u4, .ref (s0 + 1139)), (str "told", u5, .ref (dz + (s0 + 1146)))] 8 fsR), (1116, ceObj (some (.int ((x.fdiv 5).fmod 4) (t + 6)))), (d + 1113, dObj clsC (some (dd + 1113)) es ep), (l + 1113, lsObj (ps.map rfD) lep), (1128, lsObj as aep), (dd + 1113, dObj clsD none [] 0)]
noncomputable def nT3mnR (xs as : List Value) (n t1 t2 t3 d l dd ep lep aep : Nat) (es : List E) (ps : List (Nat × E)) (x : Int) (xt : Nat) (cv : Option Value) (o : Nat × Value × Nat × Value) (dz dt : Nat) (u1 u2 u3 u4 u5 fep : Nat) (v1 v2 v3 v4 v5 : Value) (ex : List (Str × Nat × Value)) (sl : Array (Option Value)) (o1 : Option (Nat × Value)) (av2 : List Value) (aep3 dz1 dt1 : Nat) (s0 t : Nat) : List (Nat × Obj) := [((dz + (s0 + 1150)), lsObj av2 aep3)]
theorem rT3mnR (xs as : List Value) (n t1 t2 t3 d l dd ep lep aep : Nat) (es : List E) (ps : List (Nat × E)) (x : Int) (xt : Nat) (cv : Option Value) (o : Nat × Value × Nat × Value) (dz dt : Nat) (u1 u2 u3 u4 u5 fep : Nat) (v1 v2 v3 v4 v5 : Value) (ex : List (Str × Nat × Value)) (sl : Array (Option Value)) (o1 : Option (Nat × Value)) (av2 : List Value) (aep3 dz1 dt1 : Nat) (s0 t : Nat) (k : Result → Sem PySem.Fin) (g : Bool) (lv : List Value) (fb0 : List Stmt) (pos pos' : Pos) (kp : List Value) (ca1 : Args) (ps1 : Pos) (gens : List GenState) : chk (tR tP (tW b c w) (KK (tW b c w)) [((.builtin "claim.caller" ca1), ps1)] 284 (oT3mnR (tW b c w).params xs as n t1 t2 t3 d l dd ep lep aep es ps x xt cv o dz dt u1 u2 u3 u4 u5 fep v1 v2 v3 v4 v5 ex sl o1 av2 aep3 dz1 dt1 s0 t) (mkT (iT3mnR (tW b c w).params xs as n t1 t2 t3 d l dd ep lep aep es ps x xt cv o dz dt u1 u2 u3 u4 u5 fep v1 v2 v3 v4 v5 ex sl o1 av2 aep3 dz1 dt1 s0 t)) 8 (s0 + 1134) gens t [ps.map tpD] (tD cLaw) cLaw pos' [.ret k none g lv (.func fb0 envL) pos kp] [] []) (turnsL 8 [19]) = chk' (tR tP (tW b c w) (KK (tW b c w)) [((.builtin "claim.caller" ca1), ps1)] 284 (oT3mnR (tW b c w).params xs as n t1 t2 t3 d l dd ep lep aep es ps x xt cv o dz dt u1 u2 u3 u4 u5 fep v1 v2 v3 v4 v5 ex sl o1 av2 aep3 dz1 dt1 s0 t) (mkT (iT3mnR (tW b c w).params xs as n t1 t2 t3 d l dd ep lep aep es ps x xt cv o dz dt u1 u2 u3 u4 u5 fep v1 v2 v3 v4 v5 ex sl o1 av2 aep3 dz1 dt1 s0 t)) 8 (s0 + 1134) gens t [ps.map tpD] (tD cLaw) cLaw pos' [.ret k none g lv (.func fb0 envL) pos kp] [] [])
    (tD cLaw, cLaw, [.ret k none g lv (.func fb0 envL) pos kp], (dz1 + (dz + (s0 + 1154))), (t + 11 + dt + 7 + (dt1 + 1) + 1), appG gens [], (jT3mnR (tW b c w).params xs as n t1 t2 t3 d l dd ep lep aep es ps x xt cv o dz dt u1 u2 u3 u4 u5 fep v1 v2 v3 v4 v5 ex sl o1 av2 aep3 dz1 dt1 s0 t).map some, (nT3mnR xs as n t1 t2 t3 d l dd ep lep aep es ps x xt cv o dz dt u1 u2 u3 u4 u5 fep v1 v2 v3 v4 v5 ex sl o1 av2 aep3 dz1 dt1 s0 t).map some, [[], [], ps.map tpD]) := by
  cases b <;> kernel_rfl
noncomputable def oTN3 (P : Params) (xs as : List Value) (n t1 t2 t3 d l dd ep lep aep : Nat) (es : List E) (ps : List (Nat × E)) (x : Int) (xt : Nat) (cv : Option Value) (o : Nat × Value × Nat × Value) (dz dt : Nat) (u1 u2 u3 u4 u5 fep : Nat) (v1 v2 v3 v4 v5 : Value) (ex : List (Str × Nat × Value)) (sl : Array (Option Value)) (o1 : Option (Nat × Value)) (av2 : List Value) (aep3 dz1 dt1 : Nat) (s0 t : Nat) : List Op := [.s 0, .k 0, .s 0, .a (fun _ _ _ => sLiNext 0 1 1133 1113 n xs 0 (.int x xt)), .s 2, .s 2, .s 2, .k 0, .s 2, .k 1, .s 2, .k 0, .s 8, .s 8, .s 8, .k 0, .s 8, .s 9, .s 9, .k 0, .s 9, .s 9, .s 9, .s 8, .s 9, .s 9, .s 9, .k 0, .s 9, .s 9, .s 9, .s 8, .s 9, .s 9, .s 9, .k 0, .s 9, .s 9, .s 9, .s 8, .s 9, .s 9, .s 9, .k 0, .s 9, .s 9, .s 9, .s 8, .s 9, .s 9, .s 11, .s 2, .s 2, .s 3, .s 3, .s 2, .s 2, .s 2, .s 5, .s 5, .k 0, .s 5, .s 12, .u (fun _ _ _ => (sHs P 12 5 14 3 13 (s0 + 1138) (l + 1113) (s0 + 1140) (s0 + 1139) lep (t + 6) 0 ((x.fdiv 5).fmod 4) ps none [] 0 dz dt (s0 + 1141)).at (s0 + 1141) (t + 11)), .s 2, .s 2, .s 14, .s 14, .s 2, .k 0, .a (fun cc _ _ => sCmp "int.__eq__" (x.fmod 5) 0 false cc), .s 2, .k 0, .a (fun cc _ _ => sCmp "int.__eq__" (x.fmod 5) 1 false cc), .s 2, .k 0, .a (fun cc _ _ => sCmp "int.__eq__" (x.fmod 5) 2 false cc), .s 2, .k 0, .a (fun cc _ _ => sCmp "int.__eq__" (x.fmod 5) 3 true cc), .s 2, .s 4, .k 2, .s 4, .k 2, .s 4, .k 2, .s 4, .s 7, .s 3, .k 0, .s 4, .k 0, .a (fun cc sz _ => sPopM (dd + 1113) 4 (d + 1113) es ep ((x.fdiv 5).fmod 4) (argTok cc 1) sz), .s 16, .s 2, .s 2, .s 16, .s 16, .s 16, .s 17, .s 17, .k 2, .s 16, .k 0, .s 16, .s 17, .s 17, .s 2, .s 2, .s 2, .s 2, .s 18, .s 13, .s 18, .k 0, .s 18, .s 13, .s 18, .s 13, .s 18, .s 13, .s 18, .s 13, .k 0, .s 2, .s 3, .k 0, .u (fun _ _ _ => (sWo P 5 (l + 1113) lep (t + 6) 1 ((x.fdiv 5).fmod 4) ps o1 av2 aep3 dz1 dt1 (dz + (s0 + 1147))).at (dz + (s0 + 1147)) (t + 11 + dt + 7)), .s 2, .s 2]
noncomputable def iTN3 (P : Params) (xs as : List Value) (n t1 t2 t3 d l dd ep lep aep : Nat) (es : List E) (ps : List (Nat × E)) (x : Int) (xt : Nat) (cv : Option Value) (o : Nat × Value × Nat × Value) (dz dt : Nat) (u1 u2 u3 u4 u5 fep : Nat) (v1 v2 v3 v4 v5 : Value) (ex : List (Str × Nat × Value)) (sl : Array (Option Value)) (o1 : Option (Nat × Value)) (av2 : List Value) (aep3 dz1 dt1 : Nat) (s0 t : Nat) : List (Nat × Obj) := [(1133, liObj 1113 n), (1113, lsObj xs 0), (1114, frG P [(str "aside", t1, .ref 1128), (str "state", t2, .ref (l + 1113)), (str "bag", t3, .ref (d + 1113))] 3 #[]), (1116, ceObj cv), (d + 1113, dObj clsC (some (dd + 1113)) es ep), (l + 1113, lsObj (ps.map rfD) lep), (1128, lsObj as aep), (dd + 1113, dObj clsD none [] 0)]
noncomputable def jTN3 (P : Params) (xs as : List Value) (n t1 t2 t3 d l dd ep lep aep : Nat) (es : List E) (ps : List (Nat × E)) (x : Int) (xt : Nat) (cv : Option Value) (o : Nat × Value × Nat × Value) (dz dt : Nat) (u1 u2 u3 u4 u5 fep : Nat) (v1 v2 v3 v4 v5 : Value) (ex : List (Str × Nat × Value)) (sl : Array (Option Value)) (o1 : Option (Nat × Value)) (av2 : List Value) (aep3 dz1 dt1 : Nat) (s0 t : Nat) : List (Nat × Obj) := [(1133, liObj 1113 (n + 1)), (1113, lsObj xs 0), (1114, frG P [(str "aside", t1, .ref 1128), (str "state", t2, .ref (dz + (s0 + 1150))), (str "bag", t3, .ref (d + 1113)), (str "x", t, .int x xt), (str "kind", (t + 9), .int (x.fmod 5) (t + 2)), (str "amount", (t + 10), .int (x.fdiv 20) (t + 8)), (str "held", (t + 11 + dt), .ref (s0 + 1139)), (str "told", (t + 11 + dt + 6), .ref (dz + (s0 + 1146)))] 8 fsR), (1116, ceObj (some (.int ((x.fdiv 5).fmod 4) (t + 6)))), (d + 1113, dObj clsC (some (dd + 1113)) es ep), (l + 1113, lsObj (ps.map rfD) lep), (1128, lsObj as aep), (dd + 1113, dObj clsD none [] 0)]
noncomputable def nTN3 (xs as : List Value) (n t1 t2 t3 d l dd ep lep aep : Nat) (es : List E) (ps : List (Nat × E)) (x : Int) (xt : Nat) (cv : Option Value) (o : Nat × Value × Nat × Value) (dz dt : Nat) (u1 u2 u3 u4 u5 fep : Nat) (v1 v2 v3 v4 v5 : Value) (ex : List (Str × Nat × Value)) (sl : Array (Option Value)) (o1 : Option (Nat × Value)) (av2 : List Value) (aep3 dz1 dt1 : Nat) (s0 t : Nat) : List (Nat × Obj) := [((dz + (s0 + 1150)), lsObj av2 aep3)]
theorem rTN3 (xs as : List Value) (n t1 t2 t3 d l dd ep lep aep : Nat) (es : List E) (ps : List (Nat × E)) (x : Int) (xt : Nat) (cv : Option Value) (o : Nat × Value × Nat × Value) (dz dt : Nat) (u1 u2 u3 u4 u5 fep : Nat) (v1 v2 v3 v4 v5 : Value) (ex : List (Str × Nat × Value)) (sl : Array (Option Value)) (o1 : Option (Nat × Value)) (av2 : List Value) (aep3 dz1 dt1 : Nat) (s0 t : Nat) (k : Result → Sem PySem.Fin) (g : Bool) (lv : List Value) (fb0 : List Stmt) (pos pos' : Pos) (kp : List Value) (ca1 : Args) (ps1 : Pos) (gens : List GenState) : chk (tR tP (tW b c w) (KK (tW b c w)) [((.builtin "claim.caller" ca1), ps1)] 286 (oTN3 (tW b c w).params xs as n t1 t2 t3 d l dd ep lep aep es ps x xt cv o dz dt u1 u2 u3 u4 u5 fep v1 v2 v3 v4 v5 ex sl o1 av2 aep3 dz1 dt1 s0 t) (mkT (iTN3 (tW b c w).params xs as n t1 t2 t3 d l dd ep lep aep es ps x xt cv o dz dt u1 u2 u3 u4 u5 fep v1 v2 v3 v4 v5 ex sl o1 av2 aep3 dz1 dt1 s0 t)) 8 (s0 + 1134) gens t [ps.map tpD] (tD cLaw) cLaw pos' [.ret k none g lv (.func fb0 envL) pos kp] [] []) (turnsL 8 [19]) = chk' (tR tP (tW b c w) (KK (tW b c w)) [((.builtin "claim.caller" ca1), ps1)] 286 (oTN3 (tW b c w).params xs as n t1 t2 t3 d l dd ep lep aep es ps x xt cv o dz dt u1 u2 u3 u4 u5 fep v1 v2 v3 v4 v5 ex sl o1 av2 aep3 dz1 dt1 s0 t) (mkT (iTN3 (tW b c w).params xs as n t1 t2 t3 d l dd ep lep aep es ps x xt cv o dz dt u1 u2 u3 u4 u5 fep v1 v2 v3 v4 v5 ex sl o1 av2 aep3 dz1 dt1 s0 t)) 8 (s0 + 1134) gens t [ps.map tpD] (tD cLaw) cLaw pos' [.ret k none g lv (.func fb0 envL) pos kp] [] [])
    (tD cLaw, cLaw, [.ret k none g lv (.func fb0 envL) pos kp], (dz1 + (dz + (s0 + 1154))), (t + 11 + dt + 7 + (dt1 + 1) + 1), appG gens [], (jTN3 (tW b c w).params xs as n t1 t2 t3 d l dd ep lep aep es ps x xt cv o dz dt u1 u2 u3 u4 u5 fep v1 v2 v3 v4 v5 ex sl o1 av2 aep3 dz1 dt1 s0 t).map some, (nTN3 xs as n t1 t2 t3 d l dd ep lep aep es ps x xt cv o dz dt u1 u2 u3 u4 u5 fep v1 v2 v3 v4 v5 ex sl o1 av2 aep3 dz1 dt1 s0 t).map some, [[], [], ps.map tpD]) := by
  cases b <;> kernel_rfl
end Mine
set_option linter.all false
namespace Mine
open PySem PySem.W
variable {b c : Bool} {w : World}
theorem ndG {sz tok dd i d : Nat} {es : List E} {ep : Nat} {x : Int} {t : Nat} : ((guard sz (sGM dd i d es ep x t tok)).new.map (·.1)).Nodup := by
  unfold guard
  cases Nat.ble 1113 sz <;> exact List.nodup_nil
theorem ndS {a : Nat} : [a].Nodup := List.nodup_cons.mpr ⟨List.not_mem_nil, List.nodup_nil⟩
theorem nd2 {a b : Nat} (h : a ≠ b) : [a, b].Nodup := List.nodup_cons.mpr ⟨fun z => h (List.mem_singleton.mp z), ndS⟩
theorem ndW : [0 + 9, 0 + 11].Nodup := by decide
theorem nd12 : ([1, 2] : List Nat).Nodup := by decide
theorem rdI {v : Int} {u : Nat} : Rd [] [.int v u] [.int v] := ⟨fun h _ => ⟨_, .cons (.int _ _) .nil⟩, rfl, by simp [PyData.depthAll, PyData.depth]⟩
theorem rdIIB {v v' : Int} {u u' : Nat} {r : Bool} : Rd [] [.int v u, .int v' u', .bool r] [.int v, .int v', .bool r] := ⟨fun h _ => ⟨_, .cons (.int _ _) (.cons (.int _ _) (.cons (.bool _) .nil))⟩, rfl, by simp [PyData.depthAll, PyData.depth]⟩
theorem rdINB {v : Int} {u : Nat} {r : Bool} : Rd [] [.int v u, .none, .bool r] [.int v, .none, .bool r] := ⟨fun h _ => ⟨_, .cons (.int _ _) (.cons .none (.cons (.bool _) .nil))⟩, rfl, by simp [PyData.depthAll, PyData.depth]⟩
theorem Inv.parts {s0 d dd l ep lep : Nat} {es : List E} {ps : List (Nat × E)} {ae : List AE} (hI : Inv (s0 + 1134) ⟨d + 1113, dd + 1113, l + 1113, ep, lep, es, ps⟩ ae) :
    ps.length ≤ 8 ∧ es.length ≤ sizeLine ∧ Adr (l + 1113) ∧ l + 1113 < s0 + 1134 ∧ d + 1113 < s0 + 1134 ∧ dd + 1113 < s0 + 1134 ∧ (∀ q ∈ ps.map tpD, Adr q.1 ∧ q.1 < s0 + 1134 ∧ q.1 ≠ l + 1113) ∧ ∀ {m : Nat}, s0 + 1134 ≤ m → ∀ q ∈ ps.map tpD, 1113 ≤ q.1 ∧ q.1 < m ∧ q.1 ≠ l + 1113 := by
  have h1 := hI.lt (l + 1113, lsObj (ps.map rfD) lep) (List.mem_append_left _ (mt (mt m0)))
  have h2 := hI.lt (d + 1113, dObj clsC (some (dd + 1113)) es ep) (List.mem_append_left _ m0)
  have h3 := hI.lt (dd + 1113, dObj clsD none [] 0) (List.mem_append_left _ (mt m0))
  have h4 : ∀ q ∈ ps.map tpD, Adr q.1 ∧ q.1 < s0 + 1134 ∧ q.1 ≠ l + 1113 := fun q hq => ⟨(hI.lt q (List.mem_append_right _ hq)).1, (hI.lt q (List.mem_append_right _ hq)).2, (hI.cd.np q hq).2.1⟩
  exact ⟨hI.cd.plen, hI.cd.lenz, h1.1, h1.2, h2.2, h3.2, h4, fun hm q hq => ⟨(h4 q hq).1.ge, Nat.lt_of_lt_of_le (h4 q hq).2.1 hm, (h4 q hq).2.2⟩⟩
theorem tk0h (xs as : List Value) (n t1 t2 t3 d l dd ep lep aep : Nat) (es : List E) (ps : List (Nat × E)) (x : Int) (xt : Nat) (cv : Option Value) (o : Nat × Value × Nat × Value)  (u1 u2 u3 u4 u5 fep : Nat) (v1 v2 v3 v4 v5 : Value) (ex : List (Str × Nat × Value)) (sl : Array (Option Value))   (w1 w2 : Nat × Value)    (s0 t : Nat) {ae : List AE} {e : E} {p : Nat × E} (hI : Inv (s0 + 1134) ⟨d + 1113, dd + 1113, l + 1113, ep, lep, es, ps⟩ ae) (hx : xs[n]? = some (.int x xt)) (hk : x.fmod 5 = 0) (ho : heO ps (t + 11) none = some o) (hh : hvs ((x.fdiv 5).fmod 4) ps = [p]) (hf : esFind es ((x.fdiv 5).fmod 4) = some e) (hv : p.2.v = e.v) (ho1 : wiO ps ((t + 11 + (2 * ps.length) + 8) + 1) none = some w1) (ho2 : wiO ps ((t + 11 + (2 * ps.length) + 8) + 1 + 2 * ps.length) none = some w2) :
    Turn b c w (iT0h (tW b c w).params xs as n t1 t2 t3 d l dd ep lep aep es ps x xt cv o (3 * ps.length) (2 * ps.length) u1 u2 u3 u4 u5 fep v1 v2 v3 v4 v5 ex sl e.v p.2.v e.u p.2.u p.1 w1 w2 ((wjR ((x.fdiv 5).fmod 4) (t + 6) (0 + p.2.v + x.fdiv 20) (t + 11 + (2 * ps.length) + 7) ps (0 + (((3 * ps.length) + (s0 + 1147)) + 12))).map rfD) ps.length 0 (2 * ps.length) 1 (2 * ps.length) (wjF ((x.fdiv 5).fmod 4) (t + 6) (0 + p.2.v + x.fdiv 20) (t + 11 + (2 * ps.length) + 7) ps (0 + (((3 * ps.length) + (s0 + 1147)) + 12))) s0 t) (jT0h (tW b c w).params xs as n t1 t2 t3 d l dd ep lep aep es ps x xt cv o (3 * ps.length) (2 * ps.length) u1 u2 u3 u4 u5 fep v1 v2 v3 v4 v5 ex sl e.v p.2.v e.u p.2.u p.1 w1 w2 ((wjR ((x.fdiv 5).fmod 4) (t + 6) (0 + p.2.v + x.fdiv 20) (t + 11 + (2 * ps.length) + 7) ps (0 + (((3 * ps.length) + (s0 + 1147)) + 12))).map rfD) ps.length 0 (2 * ps.length) 1 (2 * ps.length) (wjF ((x.fdiv 5).fmod 4) (t + 6) (0 + p.2.v + x.fdiv 20) (t + 11 + (2 * ps.length) + 7) ps (0 + (((3 * ps.length) + (s0 + 1147)) + 12))) s0 t) (ps.map tpD) (nT0h xs as n t1 t2 t3 d l dd ep lep aep es ps x xt cv o (3 * ps.length) (2 * ps.length) u1 u2 u3 u4 u5 fep v1 v2 v3 v4 v5 ex sl e.v p.2.v e.u p.2.u p.1 w1 w2 ((wjR ((x.fdiv 5).fmod 4) (t + 6) (0 + p.2.v + x.fdiv 20) (t + 11 + (2 * ps.length) + 7) ps (0 + (((3 * ps.length) + (s0 + 1147)) + 12))).map rfD) ps.length 0 (2 * ps.length) 1 (2 * ps.length) (wjF ((x.fdiv 5).fmod 4) (t + 6) (0 + p.2.v + x.fdiv 20) (t + 11 + (2 * ps.length) + 7) ps (0 + (((3 * ps.length) + (s0 + 1147)) + 12))) s0 t) [(wjF ((x.fdiv 5).fmod 4) (t + 6) (0 + p.2.v + x.fdiv 20) (t + 11 + (2 * ps.length) + 7) ps (0 + (((3 * ps.length) + (s0 + 1147)) + 12))), [], [], ps.map tpD] (s0 + 1134) t (0 + 1 + ((3 * ps.length) + (s0 + 1161))) (t + 11 + (2 * ps.length) + 8 + ((2 * ps.length) + (2 * ps.length) + 1) + 1) := by
  obtain ⟨hp8, hz, hl, hls, hdl, hdn, hn, hn2⟩ := hI.parts
  have ok : OpsOk (mdl tP (tW b c w)) (KK (tW b c w)) (oT0h (tW b c w).params xs as n t1 t2 t3 d l dd ep lep aep es ps x xt cv o (3 * ps.length) (2 * ps.length) u1 u2 u3 u4 u5 fep v1 v2 v3 v4 v5 ex sl e.v p.2.v e.u p.2.u p.1 w1 w2 ((wjR ((x.fdiv 5).fmod 4) (t + 6) (0 + p.2.v + x.fdiv 20) (t + 11 + (2 * ps.length) + 7) ps (0 + (((3 * ps.length) + (s0 + 1147)) + 12))).map rfD) ps.length 0 (2 * ps.length) 1 (2 * ps.length) (wjF ((x.fdiv 5).fmod 4) (t + 6) (0 + p.2.v + x.fdiv 20) (t + 11 + (2 * ps.length) + 7) ps (0 + (((3 * ps.length) + (s0 + 1147)) + 12))) s0 t) := ⟨fun cc sz tok _ _ => ⟨sLiNext_ok hx sz tok, nd0⟩,
    fun cc sz tok q1 q2 => ⟨Summ.at_ok (vHs hp8 hl hls hn ho (by rw [hh]; rfl) (by rw [hh]; rfl)) _ _ q1 q2, nd0⟩,
    fun cc sz tok _ _ => ⟨sEq_ok (by rw [hk]; rfl) cc sz tok, nd0⟩,
    fun cc sz tok _ _ => ⟨sGH_ok hf sz tok, nd0⟩,
    fun cc sz tok _ _ => ⟨sSetC_ok hz (Nat.le_add_left _ _) sz tok, nd0⟩,
    fun cc sz tok _ _ => ⟨sSum1_ok (by omega) (by omega) (by omega), nd0⟩,
    fun cc sz tok q1 q2 => ⟨Summ.at_ok (vWh hp8 (Nat.le_add_left _ _) (by omega) (hn2 (by omega)) hh ho1 ho2) _ _ q1 q2, ndS⟩, trivial⟩
  refine ⟨244, oT0h (tW b c w).params xs as n t1 t2 t3 d l dd ep lep aep es ps x xt cv o (3 * ps.length) (2 * ps.length) u1 u2 u3 u4 u5 fep v1 v2 v3 v4 v5 ex sl e.v p.2.v e.u p.2.u p.1 w1 w2 ((wjR ((x.fdiv 5).fmod 4) (t + 6) (0 + p.2.v + x.fdiv 20) (t + 11 + (2 * ps.length) + 7) ps (0 + (((3 * ps.length) + (s0 + 1147)) + 12))).map rfD) ps.length 0 (2 * ps.length) 1 (2 * ps.length) (wjF ((x.fdiv 5).fmod 4) (t + 6) (0 + p.2.v + x.fdiv 20) (t + 11 + (2 * ps.length) + 7) ps (0 + (((3 * ps.length) + (s0 + 1147)) + 12))) s0 t, [17], ok, ?_⟩
  intro k g lv fb0 pos pos' kp ca1 ps1 gens
  have r := @rT0h b c w xs as n t1 t2 t3 d l dd ep lep aep es ps x xt cv o (3 * ps.length) (2 * ps.length) u1 u2 u3 u4 u5 fep v1 v2 v3 v4 v5 ex sl e.v p.2.v e.u p.2.u p.1 w1 w2 ((wjR ((x.fdiv 5).fmod 4) (t + 6) (0 + p.2.v + x.fdiv 20) (t + 11 + (2 * ps.length) + 7) ps (0 + (((3 * ps.length) + (s0 + 1147)) + 12))).map rfD) ps.length 0 (2 * ps.length) 1 (2 * ps.length) (wjF ((x.fdiv 5).fmod 4) (t + 6) (0 + p.2.v + x.fdiv 20) (t + 11 + (2 * ps.length) + 7) ps (0 + (((3 * ps.length) + (s0 + 1147)) + 12))) s0 t k g lv fb0 pos pos' kp ca1 ps1 gens
  exact r
theorem tk0ms (xs as : List Value) (n t1 t2 t3 d l dd ep lep aep : Nat) (es : List E) (ps : List (Nat × E)) (x : Int) (xt : Nat) (cv : Option Value) (o : Nat × Value × Nat × Value)  (u1 u2 u3 u4 u5 fep : Nat) (v1 v2 v3 v4 v5 : Value) (ex : List (Str × Nat × Value)) (sl : Array (Option Value)) (o1 : Option (Nat × Value))   (s0 t : Nat) {ae : List AE} (hI : Inv (s0 + 1134) ⟨d + 1113, dd + 1113, l + 1113, ep, lep, es, ps⟩ ae) (hx : xs[n]? = some (.int x xt)) (hk : x.fmod 5 = 0) (ho : heO ps (t + 11) none = some o) (hh : hvs ((x.fdiv 5).fmod 4) ps = []) (hf : esFind es ((x.fdiv 5).fmod 4) = none) (ho1 : wiO ps ((t + 11 + (2 * ps.length) + 10) + 1) none = o1) :
    Turn b c w (iT0ms (tW b c w).params xs as n t1 t2 t3 d l dd ep lep aep es ps x xt cv o (3 * ps.length) (2 * ps.length) u1 u2 u3 u4 u5 fep v1 v2 v3 v4 v5 ex sl o1 (ps.map rfD ++ [.ref (0 + (((3 * ps.length) + (s0 + 1148)) + 9))]) 0 (2 * ps.length) s0 t) (jT0ms (tW b c w).params xs as n t1 t2 t3 d l dd ep lep aep es ps x xt cv o (3 * ps.length) (2 * ps.length) u1 u2 u3 u4 u5 fep v1 v2 v3 v4 v5 ex sl o1 (ps.map rfD ++ [.ref (0 + (((3 * ps.length) + (s0 + 1148)) + 9))]) 0 (2 * ps.length) s0 t) (ps.map tpD) (nT0ms xs as n t1 t2 t3 d l dd ep lep aep es ps x xt cv o (3 * ps.length) (2 * ps.length) u1 u2 u3 u4 u5 fep v1 v2 v3 v4 v5 ex sl o1 (ps.map rfD ++ [.ref (0 + (((3 * ps.length) + (s0 + 1148)) + 9))]) 0 (2 * ps.length) s0 t) [[], [], ps.map tpD] (s0 + 1134) t (0 + ((3 * ps.length) + (s0 + 1160))) (t + 11 + (2 * ps.length) + 10 + ((2 * ps.length) + 1) + 1) := by
  obtain ⟨hp8, hz, hl, hls, hdl, hdn, hn, hn2⟩ := hI.parts
  have ok : OpsOk (mdl tP (tW b c w)) (KK (tW b c w)) (oT0ms (tW b c w).params xs as n t1 t2 t3 d l dd ep lep aep es ps x xt cv o (3 * ps.length) (2 * ps.length) u1 u2 u3 u4 u5 fep v1 v2 v3 v4 v5 ex sl o1 (ps.map rfD ++ [.ref (0 + (((3 * ps.length) + (s0 + 1148)) + 9))]) 0 (2 * ps.length) s0 t) := ⟨fun cc sz tok _ _ => ⟨sLiNext_ok hx sz tok, nd0⟩,
    fun cc sz tok q1 q2 => ⟨Summ.at_ok (vHs hp8 hl hls hn ho (by rw [hh]; rfl) (by rw [hh]; rfl)) _ _ q1 q2, nd0⟩,
    fun cc sz tok _ _ => ⟨sEq_ok (by rw [hk]; rfl) cc sz tok, nd0⟩,
    fun cc sz tok _ _ => ⟨guard_ok fun hs => sGM_ok hf (Nat.le_add_left _ _) sz tok hs, ndG⟩,
    fun cc sz tok _ _ => ⟨sSetC_ok hz (Nat.le_add_left _ _) sz tok, nd0⟩,
    fun cc sz tok q1 q2 => ⟨Summ.at_ok (vWm hp8 (Nat.le_add_left _ _) (by omega) (hn2 (by omega)) hh rfl ho1) _ _ q1 q2, ndW⟩, trivial⟩
  refine ⟨261, oT0ms (tW b c w).params xs as n t1 t2 t3 d l dd ep lep aep es ps x xt cv o (3 * ps.length) (2 * ps.length) u1 u2 u3 u4 u5 fep v1 v2 v3 v4 v5 ex sl o1 (ps.map rfD ++ [.ref (0 + (((3 * ps.length) + (s0 + 1148)) + 9))]) 0 (2 * ps.length) s0 t, [19, 20], ok, ?_⟩
  intro k g lv fb0 pos pos' kp ca1 ps1 gens
  have r := @rT0ms b c w xs as n t1 t2 t3 d l dd ep lep aep es ps x xt cv o (3 * ps.length) (2 * ps.length) u1 u2 u3 u4 u5 fep v1 v2 v3 v4 v5 ex sl o1 (ps.map rfD ++ [.ref (0 + (((3 * ps.length) + (s0 + 1148)) + 9))]) 0 (2 * ps.length) s0 t k g lv fb0 pos pos' kp ca1 ps1 gens
  exact r
theorem tk1ms (xs as : List Value) (n t1 t2 t3 d l dd ep lep aep : Nat) (es : List E) (ps : List (Nat × E)) (x : Int) (xt : Nat) (cv : Option Value) (o : Nat × Value × Nat × Value)  (u1 u2 u3 u4 u5 fep : Nat) (v1 v2 v3 v4 v5 : Value) (ex : List (Str × Nat × Value)) (sl : Array (Option Value))   (o1 : Option (Nat × Value))   (s0 t : Nat) {ae : List AE} (hI : Inv (s0 + 1134) ⟨d + 1113, dd + 1113, l + 1113, ep, lep, es, ps⟩ ae) (hx : xs[n]? = some (.int x xt)) (hk : x.fmod 5 = 1) (ho : heO ps (t + 11) none = some o) (hh : hvs ((x.fdiv 5).fmod 4) ps = []) (hf : esFind es ((x.fdiv 5).fmod 4) = none) (ho1 : wiO ps ((t + 11 + (2 * ps.length) + 6) + 1) none = o1) :
    Turn b c w (iT1ms (tW b c w).params xs as n t1 t2 t3 d l dd ep lep aep es ps x xt cv o (3 * ps.length) (2 * ps.length) u1 u2 u3 u4 u5 fep v1 v2 v3 v4 v5 ex sl ((hvs ((x.fdiv 5).fmod 4) ps).map fun e => Value.int e.2.v e.2.u) (hvs ((x.fdiv 5).fmod 4) ps).length o1 ((wos ((x.fdiv 5).fmod 4) ps).map rfD) (wos ((x.fdiv 5).fmod 4) ps).length 0 (2 * ps.length) s0 t) (jT1ms (tW b c w).params xs as n t1 t2 t3 d l dd ep lep aep es ps x xt cv o (3 * ps.length) (2 * ps.length) u1 u2 u3 u4 u5 fep v1 v2 v3 v4 v5 ex sl ((hvs ((x.fdiv 5).fmod 4) ps).map fun e => Value.int e.2.v e.2.u) (hvs ((x.fdiv 5).fmod 4) ps).length o1 ((wos ((x.fdiv 5).fmod 4) ps).map rfD) (wos ((x.fdiv 5).fmod 4) ps).length 0 (2 * ps.length) s0 t) (ps.map tpD) (nT1ms xs as n t1 t2 t3 d l dd ep lep aep es ps x xt cv o (3 * ps.length) (2 * ps.length) u1 u2 u3 u4 u5 fep v1 v2 v3 v4 v5 ex sl ((hvs ((x.fdiv 5).fmod 4) ps).map fun e => Value.int e.2.v e.2.u) (hvs ((x.fdiv 5).fmod 4) ps).length o1 ((wos ((x.fdiv 5).fmod 4) ps).map rfD) (wos ((x.fdiv 5).fmod 4) ps).length 0 (2 * ps.length) s0 t) [[], [], ps.map tpD] (s0 + 1134) t (0 + ((3 * ps.length) + (s0 + 1151))) (t + 11 + (2 * ps.length) + 6 + ((2 * ps.length) + 1) + 1) := by
  obtain ⟨hp8, hz, hl, hls, hdl, hdn, hn, hn2⟩ := hI.parts
  have ok : OpsOk (mdl tP (tW b c w)) (KK (tW b c w)) (oT1ms (tW b c w).params xs as n t1 t2 t3 d l dd ep lep aep es ps x xt cv o (3 * ps.length) (2 * ps.length) u1 u2 u3 u4 u5 fep v1 v2 v3 v4 v5 ex sl ((hvs ((x.fdiv 5).fmod 4) ps).map fun e => Value.int e.2.v e.2.u) (hvs ((x.fdiv 5).fmod 4) ps).length o1 ((wos ((x.fdiv 5).fmod 4) ps).map rfD) (wos ((x.fdiv 5).fmod 4) ps).length 0 (2 * ps.length) s0 t) := ⟨fun cc sz tok _ _ => ⟨sLiNext_ok hx sz tok, nd0⟩,
    fun cc sz tok q1 q2 => ⟨Summ.at_ok (vHs hp8 hl hls hn ho rfl rfl) _ _ q1 q2, nd0⟩,
    fun cc sz tok _ _ => ⟨sEq_ok (by rw [hk]; rfl) cc sz tok, nd0⟩,
    fun cc sz tok _ _ => ⟨sEq_ok (by rw [hk]; rfl) cc sz tok, nd0⟩,
    fun cc sz tok _ _ => ⟨sHas_ok (by rw [hf]; rfl) (notSys (Nat.le_add_left _ _)) sz tok, nd0⟩,
    fun cc sz tok q1 q2 => ⟨Summ.at_ok (vWo hp8 (Nat.le_add_left _ _) (by omega) (hn2 (by omega)) ho1) _ _ q1 q2, ndS⟩, trivial⟩
  refine ⟨238, oT1ms (tW b c w).params xs as n t1 t2 t3 d l dd ep lep aep es ps x xt cv o (3 * ps.length) (2 * ps.length) u1 u2 u3 u4 u5 fep v1 v2 v3 v4 v5 ex sl ((hvs ((x.fdiv 5).fmod 4) ps).map fun e => Value.int e.2.v e.2.u) (hvs ((x.fdiv 5).fmod 4) ps).length o1 ((wos ((x.fdiv 5).fmod 4) ps).map rfD) (wos ((x.fdiv 5).fmod 4) ps).length 0 (2 * ps.length) s0 t, [16], ok, ?_⟩
  intro k g lv fb0 pos pos' kp ca1 ps1 gens
  have r := @rT1ms b c w xs as n t1 t2 t3 d l dd ep lep aep es ps x xt cv o (3 * ps.length) (2 * ps.length) u1 u2 u3 u4 u5 fep v1 v2 v3 v4 v5 ex sl ((hvs ((x.fdiv 5).fmod 4) ps).map fun e => Value.int e.2.v e.2.u) (hvs ((x.fdiv 5).fmod 4) ps).length o1 ((wos ((x.fdiv 5).fmod 4) ps).map rfD) (wos ((x.fdiv 5).fmod 4) ps).length 0 (2 * ps.length) s0 t k g lv fb0 pos pos' kp ca1 ps1 gens
  exact r
theorem tk2ms (xs as : List Value) (n t1 t2 t3 d l dd ep lep aep : Nat) (es : List E) (ps : List (Nat × E)) (x : Int) (xt : Nat) (cv : Option Value) (o : Nat × Value × Nat × Value)  (u1 u2 u3 u4 u5 fep : Nat) (v1 v2 v3 v4 v5 : Value) (ex : List (Str × Nat × Value)) (sl : Array (Option Value)) (s0 t : Nat) {ae : List AE} (hI : Inv (s0 + 1134) ⟨d + 1113, dd + 1113, l + 1113, ep, lep, es, ps⟩ ae) (hx : xs[n]? = some (.int x xt)) (hk : x.fmod 5 = 2) (ho : heO ps (t + 11) none = some o) (hh : hvs ((x.fdiv 5).fmod 4) ps = []) (hf : esFind es ((x.fdiv 5).fmod 4) = none) :
    Turn b c w (iT2ms (tW b c w).params xs as n t1 t2 t3 d l dd ep lep aep es ps x xt cv o (3 * ps.length) (2 * ps.length) u1 u2 u3 u4 u5 fep v1 v2 v3 v4 v5 ex sl s0 t) (jT2ms (tW b c w).params xs as n t1 t2 t3 d l dd ep lep aep es ps x xt cv o (3 * ps.length) (2 * ps.length) u1 u2 u3 u4 u5 fep v1 v2 v3 v4 v5 ex sl s0 t) (ps.map tpD) (nT2ms xs as n t1 t2 t3 d l dd ep lep aep es ps x xt cv o (3 * ps.length) (2 * ps.length) u1 u2 u3 u4 u5 fep v1 v2 v3 v4 v5 ex sl s0 t) [[], ps.map tpD] (s0 + 1134) t ((3 * ps.length) + (s0 + 1153)) (t + 11 + (2 * ps.length) + 12) := by
  obtain ⟨hp8, hz, hl, hls, hdl, hdn, hn, hn2⟩ := hI.parts
  have ok : OpsOk (mdl tP (tW b c w)) (KK (tW b c w)) (oT2ms (tW b c w).params xs as n t1 t2 t3 d l dd ep lep aep es ps x xt cv o (3 * ps.length) (2 * ps.length) u1 u2 u3 u4 u5 fep v1 v2 v3 v4 v5 ex sl s0 t) := ⟨fun cc sz tok _ _ => ⟨sLiNext_ok hx sz tok, nd0⟩,
    fun cc sz tok q1 q2 => ⟨Summ.at_ok (vHs hp8 hl hls hn ho (by rw [hh]; rfl) (by rw [hh]; rfl)) _ _ q1 q2, nd0⟩,
    fun cc sz tok _ _ => ⟨sEq_ok (by rw [hk]; rfl) cc sz tok, nd0⟩,
    fun cc sz tok _ _ => ⟨sEq_ok (by rw [hk]; rfl) cc sz tok, nd0⟩,
    fun cc sz tok _ _ => ⟨sEq_ok (by rw [hk]; rfl) cc sz tok, nd0⟩,
    fun cc sz tok _ _ => ⟨guard_ok fun hs => sGM_ok hf (Nat.le_add_left _ _) sz tok hs, ndG⟩,
    fun cc sz tok _ _ => ⟨sGetN_ok (by unfold esVal; rw [hf]; rfl) (notSys (Nat.le_add_left _ _)) sz tok, nd0⟩,
    fun cc sz tok _ _ => ⟨sHas_ok (by rw [hf]; rfl) (notSys (Nat.le_add_left _ _)) sz tok, nd0⟩,
    fun cc sz tok _ _ => ⟨sLsNe_ok rdINB rdINB rfl sz tok, nd0⟩, trivial⟩
  refine ⟨348, oT2ms (tW b c w).params xs as n t1 t2 t3 d l dd ep lep aep es ps x xt cv o (3 * ps.length) (2 * ps.length) u1 u2 u3 u4 u5 fep v1 v2 v3 v4 v5 ex sl s0 t, [], ok, ?_⟩
  intro k g lv fb0 pos pos' kp ca1 ps1 gens
  have r := @rT2ms b c w xs as n t1 t2 t3 d l dd ep lep aep es ps x xt cv o (3 * ps.length) (2 * ps.length) u1 u2 u3 u4 u5 fep v1 v2 v3 v4 v5 ex sl s0 t k g lv fb0 pos pos' kp ca1 ps1 gens
  exact r
theorem tk4s (xs as : List Value) (n t1 t2 t3 d l dd ep lep aep : Nat) (es : List E) (ps : List (Nat × E)) (x : Int) (xt : Nat) (cv : Option Value) (o : Nat × Value × Nat × Value)  (u1 u2 u3 u4 u5 fep : Nat) (v1 v2 v3 v4 v5 : Value) (ex : List (Str × Nat × Value)) (sl : Array (Option Value))   (s0 t : Nat) {ae : List AE} (hI : Inv (s0 + 1134) ⟨d + 1113, dd + 1113, l + 1113, ep, lep, es, ps⟩ ae) (hx : xs[n]? = some (.int x xt)) (hk : x.fmod 5 = 4) (ho : heO ps (t + 11) none = some o) (ha : as.length ≤ 64) :
    Turn b c w (iT4s (tW b c w).params xs as n t1 t2 t3 d l dd ep lep aep es ps x xt cv o (3 * ps.length) (2 * ps.length) u1 u2 u3 u4 u5 fep v1 v2 v3 v4 v5 ex sl ((hvs ((x.fdiv 5).fmod 4) ps).map fun e => Value.int e.2.v e.2.u) (hvs ((x.fdiv 5).fmod 4) ps).length s0 t) (jT4s (tW b c w).params xs as n t1 t2 t3 d l dd ep lep aep es ps x xt cv o (3 * ps.length) (2 * ps.length) u1 u2 u3 u4 u5 fep v1 v2 v3 v4 v5 ex sl ((hvs ((x.fdiv 5).fmod 4) ps).map fun e => Value.int e.2.v e.2.u) (hvs ((x.fdiv 5).fmod 4) ps).length s0 t) (ps.map tpD) (nT4s xs as n t1 t2 t3 d l dd ep lep aep es ps x xt cv o (3 * ps.length) (2 * ps.length) u1 u2 u3 u4 u5 fep v1 v2 v3 v4 v5 ex sl ((hvs ((x.fdiv 5).fmod 4) ps).map fun e => Value.int e.2.v e.2.u) (hvs ((x.fdiv 5).fmod 4) ps).length s0 t) [[], ps.map tpD] (s0 + 1134) t ((3 * ps.length) + (s0 + 1160)) (t + 11 + (2 * ps.length) + 5 + 23 + 1) := by
  obtain ⟨hp8, hz, hl, hls, hdl, hdn, hn, hn2⟩ := hI.parts
  have ok : OpsOk (mdl tP (tW b c w)) (KK (tW b c w)) (oT4s (tW b c w).params xs as n t1 t2 t3 d l dd ep lep aep es ps x xt cv o (3 * ps.length) (2 * ps.length) u1 u2 u3 u4 u5 fep v1 v2 v3 v4 v5 ex sl ((hvs ((x.fdiv 5).fmod 4) ps).map fun e => Value.int e.2.v e.2.u) (hvs ((x.fdiv 5).fmod 4) ps).length s0 t) := ⟨fun cc sz tok _ _ => ⟨sLiNext_ok hx sz tok, nd0⟩,
    fun cc sz tok q1 q2 => ⟨Summ.at_ok (vHs hp8 hl hls hn ho rfl rfl) _ _ q1 q2, nd0⟩,
    fun cc sz tok _ _ => ⟨sEq_ok (by rw [hk]; rfl) cc sz tok, nd0⟩,
    fun cc sz tok _ _ => ⟨sEq_ok (by rw [hk]; rfl) cc sz tok, nd0⟩,
    fun cc sz tok _ _ => ⟨sEq_ok (by rw [hk]; rfl) cc sz tok, nd0⟩,
    fun cc sz tok _ _ => ⟨sEq_ok (by rw [hk]; rfl) cc sz tok, nd0⟩,
    fun cc sz tok _ _ => ⟨sApp_ok ha sz tok, nd0⟩,
    fun cc sz tok q1 q2 => ⟨Summ.at_ok (sCp_ok (d := d + 1113) (dd := dd + 1113) hI.cd.len8 hI.cd.good.1 (nd2 (show d + 1113 ≠ dd + 1113 from hI.cd.n1)) (all_cons (Nat.le_add_left _ _) (all_cons (Nat.le_add_left _ _) all_nil)) _ _ (by omega) (all_cons (by omega) (all_cons (by omega) all_nil))) _ _ q1 q2, nd12⟩, trivial⟩
  refine ⟨255, oT4s (tW b c w).params xs as n t1 t2 t3 d l dd ep lep aep es ps x xt cv o (3 * ps.length) (2 * ps.length) u1 u2 u3 u4 u5 fep v1 v2 v3 v4 v5 ex sl ((hvs ((x.fdiv 5).fmod 4) ps).map fun e => Value.int e.2.v e.2.u) (hvs ((x.fdiv 5).fmod 4) ps).length s0 t, [15, 16, 17], ok, ?_⟩
  intro k g lv fb0 pos pos' kp ca1 ps1 gens
  have r := @rT4s b c w xs as n t1 t2 t3 d l dd ep lep aep es ps x xt cv o (3 * ps.length) (2 * ps.length) u1 u2 u3 u4 u5 fep v1 v2 v3 v4 v5 ex sl ((hvs ((x.fdiv 5).fmod 4) ps).map fun e => Value.int e.2.v e.2.u) (hvs ((x.fdiv 5).fmod 4) ps).length s0 t k g lv fb0 pos pos' kp ca1 ps1 gens
  exact r
theorem tk3msE (xs as : List Value) (n t1 t2 t3 d l dd ep lep aep : Nat) (es : List E) (ps : List (Nat × E)) (x : Int) (xt : Nat) (cv : Option Value) (o : Nat × Value × Nat × Value)  (u1 u2 u3 u4 u5 fep : Nat) (v1 v2 v3 v4 v5 : Value) (ex : List (Str × Nat × Value)) (sl : Array (Option Value)) (o1 : Option (Nat × Value))   (s0 t : Nat) {ae : List AE} (hI : Inv (s0 + 1134) ⟨d + 1113, dd + 1113, l + 1113, ep, lep, es, ps⟩ ae) (hx : xs[n]? = some (.int x xt)) (hk : x.fmod 5 = 3) (ho : heO ps (t + 11) none = some o) (hh : hvs ((x.fdiv 5).fmod 4) ps = []) (hf : esFind es ((x.fdiv 5).fmod 4) = none) (ho1 : wiO ps ((t + 11 + (2 * ps.length) + 7) + 1) none = o1) :
    Turn b c w (iT3msE (tW b c w).params xs as n t1 t2 t3 d l dd ep lep aep es ps x xt cv o (3 * ps.length) (2 * ps.length) u1 u2 u3 u4 u5 fep v1 v2 v3 v4 v5 ex sl o1 ((wos ((x.fdiv 5).fmod 4) ps).map rfD) (wos ((x.fdiv 5).fmod 4) ps).length 0 (2 * ps.length) s0 t) (jT3msE (tW b c w).params xs as n t1 t2 t3 d l dd ep lep aep es ps x xt cv o (3 * ps.length) (2 * ps.length) u1 u2 u3 u4 u5 fep v1 v2 v3 v4 v5 ex sl o1 ((wos ((x.fdiv 5).fmod 4) ps).map rfD) (wos ((x.fdiv 5).fmod 4) ps).length 0 (2 * ps.length) s0 t) (ps.map tpD) (nT3msE xs as n t1 t2 t3 d l dd ep lep aep es ps x xt cv o (3 * ps.length) (2 * ps.length) u1 u2 u3 u4 u5 fep v1 v2 v3 v4 v5 ex sl o1 ((wos ((x.fdiv 5).fmod 4) ps).map rfD) (wos ((x.fdiv 5).fmod 4) ps).length 0 (2 * ps.length) s0 t) [[], [], ps.map tpD] (s0 + 1134) t (0 + ((3 * ps.length) + (s0 + 1154))) (t + 11 + (2 * ps.length) + 7 + ((2 * ps.length) + 1) + 1) := by
  obtain ⟨hp8, hz, hl, hls, hdl, hdn, hn, hn2⟩ := hI.parts
  have ok : OpsOk (mdl tP (tW b c w)) (KK (tW b c w)) (oT3msE (tW b c w).params xs as n t1 t2 t3 d l dd ep lep aep es ps x xt cv o (3 * ps.length) (2 * ps.length) u1 u2 u3 u4 u5 fep v1 v2 v3 v4 v5 ex sl o1 ((wos ((x.fdiv 5).fmod 4) ps).map rfD) (wos ((x.fdiv 5).fmod 4) ps).length 0 (2 * ps.length) s0 t) := ⟨fun cc sz tok _ _ => ⟨sLiNext_ok hx sz tok, nd0⟩,
    fun cc sz tok q1 q2 => ⟨Summ.at_ok (vHs hp8 hl hls hn ho (by rw [hh]; rfl) (by rw [hh]; rfl)) _ _ q1 q2, nd0⟩,
    fun cc sz tok _ _ => ⟨sEq_ok (by rw [hk]; rfl) cc sz tok, nd0⟩,
    fun cc sz tok _ _ => ⟨sEq_ok (by rw [hk]; rfl) cc sz tok, nd0⟩,
    fun cc sz tok _ _ => ⟨sEq_ok (by rw [hk]; rfl) cc sz tok, nd0⟩,
    fun cc sz tok _ _ => ⟨sEq_ok (by rw [hk]; rfl) cc sz tok, nd0⟩,
    fun cc sz tok _ _ => ⟨sPopM_ok hf (Nat.le_add_left _ _) sz tok, nd01⟩,
    fun cc sz tok q1 q2 => ⟨Summ.at_ok (vWo hp8 (Nat.le_add_left _ _) (by omega) (hn2 (by omega)) ho1) _ _ q1 q2, ndS⟩, trivial⟩
  refine ⟨294, oT3msE (tW b c w).params xs as n t1 t2 t3 d l dd ep lep aep es ps x xt cv o (3 * ps.length) (2 * ps.length) u1 u2 u3 u4 u5 fep v1 v2 v3 v4 v5 ex sl o1 ((wos ((x.fdiv 5).fmod 4) ps).map rfD) (wos ((x.fdiv 5).fmod 4) ps).length 0 (2 * ps.length) s0 t, [19], ok, ?_⟩
  intro k g lv fb0 pos pos' kp ca1 ps1 gens
  have r := @rT3msE b c w xs as n t1 t2 t3 d l dd ep lep aep es ps x xt cv o (3 * ps.length) (2 * ps.length) u1 u2 u3 u4 u5 fep v1 v2 v3 v4 v5 ex sl o1 ((wos ((x.fdiv 5).fmod 4) ps).map rfD) (wos ((x.fdiv 5).fmod 4) ps).length 0 (2 * ps.length) s0 t k g lv fb0 pos pos' kp ca1 ps1 gens
  exact r
theorem tk3msU (xs as : List Value) (n t1 t2 t3 d l dd ep lep aep : Nat) (es : List E) (ps : List (Nat × E)) (x : Int) (xt : Nat) (cv : Option Value) (o : Nat × Value × Nat × Value)  (u1 u2 u3 u4 u5 fep : Nat) (v1 v2 v3 v4 v5 : Value) (ex : List (Str × Nat × Value)) (sl : Array (Option Value)) (o1 : Option (Nat × Value))   (s0 t : Nat) {ae : List AE} (hI : Inv (s0 + 1134) ⟨d + 1113, dd + 1113, l + 1113, ep, lep, es, ps⟩ ae) (hx : xs[n]? = some (.int x xt)) (hk : x.fmod 5 = 3) (ho : heO ps (t + 11) none = some o) (hh : hvs ((x.fdiv 5).fmod 4) ps = []) (hf : esFind es ((x.fdiv 5).fmod 4) = none) (ho1 : wiO ps ((t + 11 + (2 * ps.length) + 7) + 1) none = o1) :
    Turn b c w (iT3msU (tW b c w).params xs as n t1 t2 t3 d l dd ep lep aep es ps x xt cv o (3 * ps.length) (2 * ps.length) u1 u2 u3 u4 u5 fep v1 v2 v3 v4 v5 ex sl o1 ((wos ((x.fdiv 5).fmod 4) ps).map rfD) (wos ((x.fdiv 5).fmod 4) ps).length 0 (2 * ps.length) s0 t) (jT3msU (tW b c w).params xs as n t1 t2 t3 d l dd ep lep aep es ps x xt cv o (3 * ps.length) (2 * ps.length) u1 u2 u3 u4 u5 fep v1 v2 v3 v4 v5 ex sl o1 ((wos ((x.fdiv 5).fmod 4) ps).map rfD) (wos ((x.fdiv 5).fmod 4) ps).length 0 (2 * ps.length) s0 t) (ps.map tpD) (nT3msU xs as n t1 t2 t3 d l dd ep lep aep es ps x xt cv o (3 * ps.length) (2 * ps.length) u1 u2 u3 u4 u5 fep v1 v2 v3 v4 v5 ex sl o1 ((wos ((x.fdiv 5).fmod 4) ps).map rfD) (wos ((x.fdiv 5).fmod 4) ps).length 0 (2 * ps.length) s0 t) [[], [], ps.map tpD] (s0 + 1134) t (0 + ((3 * ps.length) + (s0 + 1154))) (t + 11 + (2 * ps.length) + 7 + ((2 * ps.length) + 1) + 1) := by
  obtain ⟨hp8, hz, hl, hls, hdl, hdn, hn, hn2⟩ := hI.parts
  have ok : OpsOk (mdl tP (tW b c w)) (KK (tW b c w)) (oT3msU (tW b c w).params xs as n t1 t2 t3 d l dd ep lep aep es ps x xt cv o (3 * ps.length) (2 * ps.length) u1 u2 u3 u4 u5 fep v1 v2 v3 v4 v5 ex sl o1 ((wos ((x.fdiv 5).fmod 4) ps).map rfD) (wos ((x.fdiv 5).fmod 4) ps).length 0 (2 * ps.length) s0 t) := ⟨fun cc sz tok _ _ => ⟨sLiNext_ok hx sz tok, nd0⟩,
    fun cc sz tok q1 q2 => ⟨Summ.at_ok (vHs hp8 hl hls hn ho (by rw [hh]; rfl) (by rw [hh]; rfl)) _ _ q1 q2, nd0⟩,
    fun cc sz tok _ _ => ⟨sEq_ok (by rw [hk]; rfl) cc sz tok, nd0⟩,
    fun cc sz tok _ _ => ⟨sEq_ok (by rw [hk]; rfl) cc sz tok, nd0⟩,
    fun cc sz tok _ _ => ⟨sEq_ok (by rw [hk]; rfl) cc sz tok, nd0⟩,
    fun cc sz tok _ _ => ⟨sEq_ok (by rw [hk]; rfl) cc sz tok, nd0⟩,
    fun cc sz tok _ _ => ⟨sPopM_ok hf (Nat.le_add_left _ _) sz tok, nd01⟩,
    fun cc sz tok q1 q2 => ⟨Summ.at_ok (vWo hp8 (Nat.le_add_left _ _) (by omega) (hn2 (by omega)) ho1) _ _ q1 q2, ndS⟩, trivial⟩
  refine ⟨294, oT3msU (tW b c w).params xs as n t1 t2 t3 d l dd ep lep aep es ps x xt cv o (3 * ps.length) (2 * ps.length) u1 u2 u3 u4 u5 fep v1 v2 v3 v4 v5 ex sl o1 ((wos ((x.fdiv 5).fmod 4) ps).map rfD) (wos ((x.fdiv 5).fmod 4) ps).length 0 (2 * ps.length) s0 t, [19], ok, ?_⟩
  intro k g lv fb0 pos pos' kp ca1 ps1 gens
  have r := @rT3msU b c w xs as n t1 t2 t3 d l dd ep lep aep es ps x xt cv o (3 * ps.length) (2 * ps.length) u1 u2 u3 u4 u5 fep v1 v2 v3 v4 v5 ex sl o1 ((wos ((x.fdiv 5).fmod 4) ps).map rfD) (wos ((x.fdiv 5).fmod 4) ps).length 0 (2 * ps.length) s0 t k g lv fb0 pos pos' kp ca1 ps1 gens
  exact r
theorem tk3msR (xs as : List Value) (n t1 t2 t3 d l dd ep lep aep : Nat) (es : List E) (ps : List (Nat × E)) (x : Int) (xt : Nat) (cv : Option Value) (o : Nat × Value × Nat × Value)  (u1 u2 u3 u4 u5 fep : Nat) (v1 v2 v3 v4 v5 : Value) (ex : List (Str × Nat × Value)) (sl : Array (Option Value)) (o1 : Option (Nat × Value))   (s0 t : Nat) {ae : List AE} (hI : Inv (s0 + 1134) ⟨d + 1113, dd + 1113, l + 1113, ep, lep, es, ps⟩ ae) (hx : xs[n]? = some (.int x xt)) (hk : x.fmod 5 = 3) (ho : heO ps (t + 11) none = some o) (hh : hvs ((x.fdiv 5).fmod 4) ps = []) (hf : esFind es ((x.fdiv 5).fmod 4) = none) (ho1 : wiO ps ((t + 11 + (2 * ps.length) + 7) + 1) none = o1) :
    Turn b c w (iT3msR (tW b c w).params xs as n t1 t2 t3 d l dd ep lep aep es ps x xt cv o (3 * ps.length) (2 * ps.length) u1 u2 u3 u4 u5 fep v1 v2 v3 v4 v5 ex sl o1 ((wos ((x.fdiv 5).fmod 4) ps).map rfD) (wos ((x.fdiv 5).fmod 4) ps).length 0 (2 * ps.length) s0 t) (jT3msR (tW b c w).params xs as n t1 t2 t3 d l dd ep lep aep es ps x xt cv o (3 * ps.length) (2 * ps.length) u1 u2 u3 u4 u5 fep v1 v2 v3 v4 v5 ex sl o1 ((wos ((x.fdiv 5).fmod 4) ps).map rfD) (wos ((x.fdiv 5).fmod 4) ps).length 0 (2 * ps.length) s0 t) (ps.map tpD) (nT3msR xs as n t1 t2 t3 d l dd ep lep aep es ps x xt cv o (3 * ps.length) (2 * ps.length) u1 u2 u3 u4 u5 fep v1 v2 v3 v4 v5 ex sl o1 ((wos ((x.fdiv 5).fmod 4) ps).map rfD) (wos ((x.fdiv 5).fmod 4) ps).length 0 (2 * ps.length) s0 t) [[], [], ps.map tpD] (s0 + 1134) t (0 + ((3 * ps.length) + (s0 + 1154))) (t + 11 + (2 * ps.length) + 7 + ((2 * ps.length) + 1) + 1) := by
  obtain ⟨hp8, hz, hl, hls, hdl, hdn, hn, hn2⟩ := hI.parts
  have ok : OpsOk (mdl tP (tW b c w)) (KK (tW b c w)) (oT3msR (tW b c w).params xs as n t1 t2 t3 d l dd ep lep aep es ps x xt cv o (3 * ps.length) (2 * ps.length) u1 u2 u3 u4 u5 fep v1 v2 v3 v4 v5 ex sl o1 ((wos ((x.fdiv 5).fmod 4) ps).map rfD) (wos ((x.fdiv 5).fmod 4) ps).length 0 (2 * ps.length) s0 t) := ⟨fun cc sz tok _ _ => ⟨sLiNext_ok hx sz tok, nd0⟩,
    fun cc sz tok q1 q2 => ⟨Summ.at_ok (vHs hp8 hl hls hn ho (by rw [hh]; rfl) (by rw [hh]; rfl)) _ _ q1 q2, nd0⟩,
    fun cc sz tok _ _ => ⟨sEq_ok (by rw [hk]; rfl) cc sz tok, nd0⟩,
    fun cc sz tok _ _ => ⟨sEq_ok (by rw [hk]; rfl) cc sz tok, nd0⟩,
    fun cc sz tok _ _ => ⟨sEq_ok (by rw [hk]; rfl) cc sz tok, nd0⟩,
    fun cc sz tok _ _ => ⟨sEq_ok (by rw [hk]; rfl) cc sz tok, nd0⟩,
    fun cc sz tok _ _ => ⟨sPopM_ok hf (Nat.le_add_left _ _) sz tok, nd01⟩,
    fun cc sz tok q1 q2 => ⟨Summ.at_ok (vWo hp8 (Nat.le_add_left _ _) (by omega) (hn2 (by omega)) ho1) _ _ q1 q2, ndS⟩, trivial⟩
  refine ⟨292, oT3msR (tW b c w).params xs as n t1 t2 t3 d l dd ep lep aep es ps x xt cv o (3 * ps.length) (2 * ps.length) u1 u2 u3 u4 u5 fep v1 v2 v3 v4 v5 ex sl o1 ((wos ((x.fdiv 5).fmod 4) ps).map rfD) (wos ((x.fdiv 5).fmod 4) ps).length 0 (2 * ps.length) s0 t, [19], ok, ?_⟩
  intro k g lv fb0 pos pos' kp ca1 ps1 gens
  have r := @rT3msR b c w xs as n t1 t2 t3 d l dd ep lep aep es ps x xt cv o (3 * ps.length) (2 * ps.length) u1 u2 u3 u4 u5 fep v1 v2 v3 v4 v5 ex sl o1 ((wos ((x.fdiv 5).fmod 4) ps).map rfD) (wos ((x.fdiv 5).fmod 4) ps).length 0 (2 * ps.length) s0 t k g lv fb0 pos pos' kp ca1 ps1 gens
  exact r
theorem tk0mn (xs as : List Value) (n t1 t2 t3 d l dd ep lep aep : Nat) (es : List E) (ps : List (Nat × E)) (x : Int) (xt : Nat) (cv : Option Value) (o : Nat × Value × Nat × Value)  (u1 u2 u3 u4 u5 fep : Nat) (v1 v2 v3 v4 v5 : Value) (ex : List (Str × Nat × Value)) (sl : Array (Option Value)) (o1 : Option (Nat × Value))   (s0 t : Nat) {ae : List AE} (hI : Inv (s0 + 1134) ⟨d + 1113, dd + 1113, l + 1113, ep, lep, es, ps⟩ ae) (hx : xs[n]? = some (.int x xt)) (hk : x.fmod 5 = 0) (ho : heO ps (t + 11) none = none) (hh : hvs ((x.fdiv 5).fmod 4) ps = []) (hf : esFind es ((x.fdiv 5).fmod 4) = none) (ho1 : wiO ps ((t + 11 + (2 * ps.length) + 10) + 1) none = o1) :
    Turn b c w (iT0mn (tW b c w).params xs as n t1 t2 t3 d l dd ep lep aep es ps x xt cv o (3 * ps.length) (2 * ps.length) u1 u2 u3 u4 u5 fep v1 v2 v3 v4 v5 ex sl o1 (ps.map rfD ++ [.ref (0 + (((3 * ps.length) + (s0 + 1148)) + 9))]) 0 (2 * ps.length) s0 t) (jT0mn (tW b c w).params xs as n t1 t2 t3 d l dd ep lep aep es ps x xt cv o (3 * ps.length) (2 * ps.length) u1 u2 u3 u4 u5 fep v1 v2 v3 v4 v5 ex sl o1 (ps.map rfD ++ [.ref (0 + (((3 * ps.length) + (s0 + 1148)) + 9))]) 0 (2 * ps.length) s0 t) (ps.map tpD) (nT0mn xs as n t1 t2 t3 d l dd ep lep aep es ps x xt cv o (3 * ps.length) (2 * ps.length) u1 u2 u3 u4 u5 fep v1 v2 v3 v4 v5 ex sl o1 (ps.map rfD ++ [.ref (0 + (((3 * ps.length) + (s0 + 1148)) + 9))]) 0 (2 * ps.length) s0 t) [[], [], ps.map tpD] (s0 + 1134) t (0 + ((3 * ps.length) + (s0 + 1160))) (t + 11 + (2 * ps.length) + 10 + ((2 * ps.length) + 1) + 1) := by
  obtain ⟨hp8, hz, hl, hls, hdl, hdn, hn, hn2⟩ := hI.parts
  have ok : OpsOk (mdl tP (tW b c w)) (KK (tW b c w)) (oT0mn (tW b c w).params xs as n t1 t2 t3 d l dd ep lep aep es ps x xt cv o (3 * ps.length) (2 * ps.length) u1 u2 u3 u4 u5 fep v1 v2 v3 v4 v5 ex sl o1 (ps.map rfD ++ [.ref (0 + (((3 * ps.length) + (s0 + 1148)) + 9))]) 0 (2 * ps.length) s0 t) := ⟨fun cc sz tok _ _ => ⟨sLiNext_ok hx sz tok, nd0⟩,
    fun cc sz tok q1 q2 => ⟨Summ.at_ok (vHs hp8 hl hls hn ho (by rw [hh]; rfl) (by rw [hh]; rfl)) _ _ q1 q2, nd0⟩,
    fun cc sz tok _ _ => ⟨sEq_ok (by rw [hk]; rfl) cc sz tok, nd0⟩,
    fun cc sz tok _ _ => ⟨guard_ok fun hs => sGM_ok hf (Nat.le_add_left _ _) sz tok hs, ndG⟩,
    fun cc sz tok _ _ => ⟨sSetC_ok hz (Nat.le_add_left _ _) sz tok, nd0⟩,
    fun cc sz tok q1 q2 => ⟨Summ.at_ok (vWm hp8 (Nat.le_add_left _ _) (by omega) (hn2 (by omega)) hh rfl ho1) _ _ q1 q2, ndW⟩, trivial⟩
  refine ⟨253, oT0mn (tW b c w).params xs as n t1 t2 t3 d l dd ep lep aep es ps x xt cv o (3 * ps.length) (2 * ps.length) u1 u2 u3 u4 u5 fep v1 v2 v3 v4 v5 ex sl o1 (ps.map rfD ++ [.ref (0 + (((3 * ps.length) + (s0 + 1148)) + 9))]) 0 (2 * ps.length) s0 t, [19, 20], ok, ?_⟩
  intro k g lv fb0 pos pos' kp ca1 ps1 gens
  have r := @rT0mn b c w xs as n t1 t2 t3 d l dd ep lep aep es ps x xt cv o (3 * ps.length) (2 * ps.length) u1 u2 u3 u4 u5 fep v1 v2 v3 v4 v5 ex sl o1 (ps.map rfD ++ [.ref (0 + (((3 * ps.length) + (s0 + 1148)) + 9))]) 0 (2 * ps.length) s0 t k g lv fb0 pos pos' kp ca1 ps1 gens
  exact r
theorem tk1mn (xs as : List Value) (n t1 t2 t3 d l dd ep lep aep : Nat) (es : List E) (ps : List (Nat × E)) (x : Int) (xt : Nat) (cv : Option Value) (o : Nat × Value × Nat × Value)  (u1 u2 u3 u4 u5 fep : Nat) (v1 v2 v3 v4 v5 : Value) (ex : List (Str × Nat × Value)) (sl : Array (Option Value))   (o1 : Option (Nat × Value))   (s0 t : Nat) {ae : List AE} (hI : Inv (s0 + 1134) ⟨d + 1113, dd + 1113, l + 1113, ep, lep, es, ps⟩ ae) (hx : xs[n]? = some (.int x xt)) (hk : x.fmod 5 = 1) (ho : heO ps (t + 11) none = none) (hh : hvs ((x.fdiv 5).fmod 4) ps = []) (hf : esFind es ((x.fdiv 5).fmod 4) = none) (ho1 : wiO ps ((t + 11 + (2 * ps.length) + 6) + 1) none = o1) :
    Turn b c w (iT1mn (tW b c w).params xs as n t1 t2 t3 d l dd ep lep aep es ps x xt cv o (3 * ps.length) (2 * ps.length) u1 u2 u3 u4 u5 fep v1 v2 v3 v4 v5 ex sl ((hvs ((x.fdiv 5).fmod 4) ps).map fun e => Value.int e.2.v e.2.u) (hvs ((x.fdiv 5).fmod 4) ps).length o1 ((wos ((x.fdiv 5).fmod 4) ps).map rfD) (wos ((x.fdiv 5).fmod 4) ps).length 0 (2 * ps.length) s0 t) (jT1mn (tW b c w).params xs as n t1 t2 t3 d l dd ep lep aep es ps x xt cv o (3 * ps.length) (2 * ps.length) u1 u2 u3 u4 u5 fep v1 v2 v3 v4 v5 ex sl ((hvs ((x.fdiv 5).fmod 4) ps).map fun e => Value.int e.2.v e.2.u) (hvs ((x.fdiv 5).fmod 4) ps).length o1 ((wos ((x.fdiv 5).fmod 4) ps).map rfD) (wos ((x.fdiv 5).fmod 4) ps).length 0 (2 * ps.length) s0 t) (ps.map tpD) (nT1mn xs as n t1 t2 t3 d l dd ep lep aep es ps x xt cv o (3 * ps.length) (2 * ps.length) u1 u2 u3 u4 u5 fep v1 v2 v3 v4 v5 ex sl ((hvs ((x.fdiv 5).fmod 4) ps).map fun e => Value.int e.2.v e.2.u) (hvs ((x.fdiv 5).fmod 4) ps).length o1 ((wos ((x.fdiv 5).fmod 4) ps).map rfD) (wos ((x.fdiv 5).fmod 4) ps).length 0 (2 * ps.length) s0 t) [[], [], ps.map tpD] (s0 + 1134) t (0 + ((3 * ps.length) + (s0 + 1151))) (t + 11 + (2 * ps.length) + 6 + ((2 * ps.length) + 1) + 1) := by
  obtain ⟨hp8, hz, hl, hls, hdl, hdn, hn, hn2⟩ := hI.parts
  have ok : OpsOk (mdl tP (tW b c w)) (KK (tW b c w)) (oT1mn (tW b c w).params xs as n t1 t2 t3 d l dd ep lep aep es ps x xt cv o (3 * ps.length) (2 * ps.length) u1 u2 u3 u4 u5 fep v1 v2 v3 v4 v5 ex sl ((hvs ((x.fdiv 5).fmod 4) ps).map fun e => Value.int e.2.v e.2.u) (hvs ((x.fdiv 5).fmod 4) ps).length o1 ((wos ((x.fdiv 5).fmod 4) ps).map rfD) (wos ((x.fdiv 5).fmod 4) ps).length 0 (2 * ps.length) s0 t) := ⟨fun cc sz tok _ _ => ⟨sLiNext_ok hx sz tok, nd0⟩,
    fun cc sz tok q1 q2 => ⟨Summ.at_ok (vHs hp8 hl hls hn ho rfl rfl) _ _ q1 q2, nd0⟩,
    fun cc sz tok _ _ => ⟨sEq_ok (by rw [hk]; rfl) cc sz tok, nd0⟩,
    fun cc sz tok _ _ => ⟨sEq_ok (by rw [hk]; rfl) cc sz tok, nd0⟩,
    fun cc sz tok _ _ => ⟨sHas_ok (by rw [hf]; rfl) (notSys (Nat.le_add_left _ _)) sz tok, nd0⟩,
    fun cc sz tok q1 q2 => ⟨Summ.at_ok (vWo hp8 (Nat.le_add_left _ _) (by omega) (hn2 (by omega)) ho1) _ _ q1 q2, ndS⟩, trivial⟩
  refine ⟨230, oT1mn (tW b c w).params xs as n t1 t2 t3 d l dd ep lep aep es ps x xt cv o (3 * ps.length) (2 * ps.length) u1 u2 u3 u4 u5 fep v1 v2 v3 v4 v5 ex sl ((hvs ((x.fdiv 5).fmod 4) ps).map fun e => Value.int e.2.v e.2.u) (hvs ((x.fdiv 5).fmod 4) ps).length o1 ((wos ((x.fdiv 5).fmod 4) ps).map rfD) (wos ((x.fdiv 5).fmod 4) ps).length 0 (2 * ps.length) s0 t, [16], ok, ?_⟩
  intro k g lv fb0 pos pos' kp ca1 ps1 gens
  have r := @rT1mn b c w xs as n t1 t2 t3 d l dd ep lep aep es ps x xt cv o (3 * ps.length) (2 * ps.length) u1 u2 u3 u4 u5 fep v1 v2 v3 v4 v5 ex sl ((hvs ((x.fdiv 5).fmod 4) ps).map fun e => Value.int e.2.v e.2.u) (hvs ((x.fdiv 5).fmod 4) ps).length o1 ((wos ((x.fdiv 5).fmod 4) ps).map rfD) (wos ((x.fdiv 5).fmod 4) ps).length 0 (2 * ps.length) s0 t k g lv fb0 pos pos' kp ca1 ps1 gens
  exact r
theorem tk2mn (xs as : List Value) (n t1 t2 t3 d l dd ep lep aep : Nat) (es : List E) (ps : List (Nat × E)) (x : Int) (xt : Nat) (cv : Option Value) (o : Nat × Value × Nat × Value)  (u1 u2 u3 u4 u5 fep : Nat) (v1 v2 v3 v4 v5 : Value) (ex : List (Str × Nat × Value)) (sl : Array (Option Value)) (s0 t : Nat) {ae : List AE} (hI : Inv (s0 + 1134) ⟨d + 1113, dd + 1113, l + 1113, ep, lep, es, ps⟩ ae) (hx : xs[n]? = some (.int x xt)) (hk : x.fmod 5 = 2) (ho : heO ps (t + 11) none = none) (hh : hvs ((x.fdiv 5).fmod 4) ps = []) (hf : esFind es ((x.fdiv 5).fmod 4) = none) :
    Turn b c w (iT2mn (tW b c w).params xs as n t1 t2 t3 d l dd ep lep aep es ps x xt cv o (3 * ps.length) (2 * ps.length) u1 u2 u3 u4 u5 fep v1 v2 v3 v4 v5 ex sl s0 t) (jT2mn (tW b c w).params xs as n t1 t2 t3 d l dd ep lep aep es ps x xt cv o (3 * ps.length) (2 * ps.length) u1 u2 u3 u4 u5 fep v1 v2 v3 v4 v5 ex sl s0 t) (ps.map tpD) (nT2mn xs as n t1 t2 t3 d l dd ep lep aep es ps x xt cv o (3 * ps.length) (2 * ps.length) u1 u2 u3 u4 u5 fep v1 v2 v3 v4 v5 ex sl s0 t) [[], ps.map tpD] (s0 + 1134) t ((3 * ps.length) + (s0 + 1153)) (t + 11 + (2 * ps.length) + 12) := by
  obtain ⟨hp8, hz, hl, hls, hdl, hdn, hn, hn2⟩ := hI.parts
  have ok : OpsOk (mdl tP (tW b c w)) (KK (tW b c w)) (oT2mn (tW b c w).params xs as n t1 t2 t3 d l dd ep lep aep es ps x xt cv o (3 * ps.length) (2 * ps.length) u1 u2 u3 u4 u5 fep v1 v2 v3 v4 v5 ex sl s0 t) := ⟨fun cc sz tok _ _ => ⟨sLiNext_ok hx sz tok, nd0⟩,
    fun cc sz tok q1 q2 => ⟨Summ.at_ok (vHs hp8 hl hls hn ho (by rw [hh]; rfl) (by rw [hh]; rfl)) _ _ q1 q2, nd0⟩,
    fun cc sz tok _ _ => ⟨sEq_ok (by rw [hk]; rfl) cc sz tok, nd0⟩,
    fun cc sz tok _ _ => ⟨sEq_ok (by rw [hk]; rfl) cc sz tok, nd0⟩,
    fun cc sz tok _ _ => ⟨sEq_ok (by rw [hk]; rfl) cc sz tok, nd0⟩,
    fun cc sz tok _ _ => ⟨guard_ok fun hs => sGM_ok hf (Nat.le_add_left _ _) sz tok hs, ndG⟩,
    fun cc sz tok _ _ => ⟨sGetN_ok (by unfold esVal; rw [hf]; rfl) (notSys (Nat.le_add_left _ _)) sz tok, nd0⟩,
    fun cc sz tok _ _ => ⟨sHas_ok (by rw [hf]; rfl) (notSys (Nat.le_add_left _ _)) sz tok, nd0⟩,
    fun cc sz tok _ _ => ⟨sLsNe_ok rdINB rdINB rfl sz tok, nd0⟩, trivial⟩
  refine ⟨340, oT2mn (tW b c w).params xs as n t1 t2 t3 d l dd ep lep aep es ps x xt cv o (3 * ps.length) (2 * ps.length) u1 u2 u3 u4 u5 fep v1 v2 v3 v4 v5 ex sl s0 t, [], ok, ?_⟩
  intro k g lv fb0 pos pos' kp ca1 ps1 gens
  have r := @rT2mn b c w xs as n t1 t2 t3 d l dd ep lep aep es ps x xt cv o (3 * ps.length) (2 * ps.length) u1 u2 u3 u4 u5 fep v1 v2 v3 v4 v5 ex sl s0 t k g lv fb0 pos pos' kp ca1 ps1 gens
  exact r
theorem tk4n (xs as : List Value) (n t1 t2 t3 d l dd ep lep aep : Nat) (es : List E) (ps : List (Nat × E)) (x : Int) (xt : Nat) (cv : Option Value) (o : Nat × Value × Nat × Value)  (u1 u2 u3 u4 u5 fep : Nat) (v1 v2 v3 v4 v5 : Value) (ex : List (Str × Nat × Value)) (sl : Array (Option Value))   (s0 t : Nat) {ae : List AE} (hI : Inv (s0 + 1134) ⟨d + 1113, dd + 1113, l + 1113, ep, lep, es, ps⟩ ae) (hx : xs[n]? = some (.int x xt)) (hk : x.fmod 5 = 4) (ho : heO ps (t + 11) none = none) (ha : as.length ≤ 64) :
    Turn b c w (iT4n (tW b c w).params xs as n t1 t2 t3 d l dd ep lep aep es ps x xt cv o (3 * ps.length) (2 * ps.length) u1 u2 u3 u4 u5 fep v1 v2 v3 v4 v5 ex sl ((hvs ((x.fdiv 5).fmod 4) ps).map fun e => Value.int e.2.v e.2.u) (hvs ((x.fdiv 5).fmod 4) ps).length s0 t) (jT4n (tW b c w).params xs as n t1 t2 t3 d l dd ep lep aep es ps x xt cv o (3 * ps.length) (2 * ps.length) u1 u2 u3 u4 u5 fep v1 v2 v3 v4 v5 ex sl ((hvs ((x.fdiv 5).fmod 4) ps).map fun e => Value.int e.2.v e.2.u) (hvs ((x.fdiv 5).fmod 4) ps).length s0 t) (ps.map tpD) (nT4n xs as n t1 t2 t3 d l dd ep lep aep es ps x xt cv o (3 * ps.length) (2 * ps.length) u1 u2 u3 u4 u5 fep v1 v2 v3 v4 v5 ex sl ((hvs ((x.fdiv 5).fmod 4) ps).map fun e => Value.int e.2.v e.2.u) (hvs ((x.fdiv 5).fmod 4) ps).length s0 t) [[], ps.map tpD] (s0 + 1134) t ((3 * ps.length) + (s0 + 1160)) (t + 11 + (2 * ps.length) + 5 + 23 + 1) := by
  obtain ⟨hp8, hz, hl, hls, hdl, hdn, hn, hn2⟩ := hI.parts
  have ok : OpsOk (mdl tP (tW b c w)) (KK (tW b c w)) (oT4n (tW b c w).params xs as n t1 t2 t3 d l dd ep lep aep es ps x xt cv o (3 * ps.length) (2 * ps.length) u1 u2 u3 u4 u5 fep v1 v2 v3 v4 v5 ex sl ((hvs ((x.fdiv 5).fmod 4) ps).map fun e => Value.int e.2.v e.2.u) (hvs ((x.fdiv 5).fmod 4) ps).length s0 t) := ⟨fun cc sz tok _ _ => ⟨sLiNext_ok hx sz tok, nd0⟩,
    fun cc sz tok q1 q2 => ⟨Summ.at_ok (vHs hp8 hl hls hn ho rfl rfl) _ _ q1 q2, nd0⟩,
    fun cc sz tok _ _ => ⟨sEq_ok (by rw [hk]; rfl) cc sz tok, nd0⟩,
    fun cc sz tok _ _ => ⟨sEq_ok (by rw [hk]; rfl) cc sz tok, nd0⟩,
    fun cc sz tok _ _ => ⟨sEq_ok (by rw [hk]; rfl) cc sz tok, nd0⟩,
    fun cc sz tok _ _ => ⟨sEq_ok (by rw [hk]; rfl) cc sz tok, nd0⟩,
    fun cc sz tok _ _ => ⟨sApp_ok ha sz tok, nd0⟩,
    fun cc sz tok q1 q2 => ⟨Summ.at_ok (sCp_ok (d := d + 1113) (dd := dd + 1113) hI.cd.len8 hI.cd.good.1 (nd2 (show d + 1113 ≠ dd + 1113 from hI.cd.n1)) (all_cons (Nat.le_add_left _ _) (all_cons (Nat.le_add_left _ _) all_nil)) _ _ (by omega) (all_cons (by omega) (all_cons (by omega) all_nil))) _ _ q1 q2, nd12⟩, trivial⟩
  refine ⟨247, oT4n (tW b c w).params xs as n t1 t2 t3 d l dd ep lep aep es ps x xt cv o (3 * ps.length) (2 * ps.length) u1 u2 u3 u4 u5 fep v1 v2 v3 v4 v5 ex sl ((hvs ((x.fdiv 5).fmod 4) ps).map fun e => Value.int e.2.v e.2.u) (hvs ((x.fdiv 5).fmod 4) ps).length s0 t, [15, 16, 17], ok, ?_⟩
  intro k g lv fb0 pos pos' kp ca1 ps1 gens
  have r := @rT4n b c w xs as n t1 t2 t3 d l dd ep lep aep es ps x xt cv o (3 * ps.length) (2 * ps.length) u1 u2 u3 u4 u5 fep v1 v2 v3 v4 v5 ex sl ((hvs ((x.fdiv 5).fmod 4) ps).map fun e => Value.int e.2.v e.2.u) (hvs ((x.fdiv 5).fmod 4) ps).length s0 t k g lv fb0 pos pos' kp ca1 ps1 gens
  exact r
theorem tk3mnE (xs as : List Value) (n t1 t2 t3 d l dd ep lep aep : Nat) (es : List E) (ps : List (Nat × E)) (x : Int) (xt : Nat) (cv : Option Value) (o : Nat × Value × Nat × Value)  (u1 u2 u3 u4 u5 fep : Nat) (v1 v2 v3 v4 v5 : Value) (ex : List (Str × Nat × Value)) (sl : Array (Option Value)) (o1 : Option (Nat × Value))   (s0 t : Nat) {ae : List AE} (hI : Inv (s0 + 1134) ⟨d + 1113, dd + 1113, l + 1113, ep, lep, es, ps⟩ ae) (hx : xs[n]? = some (.int x xt)) (hk : x.fmod 5 = 3) (ho : heO ps (t + 11) none = none) (hh : hvs ((x.fdiv 5).fmod 4) ps = []) (hf : esFind es ((x.fdiv 5).fmod 4) = none) (ho1 : wiO ps ((t + 11 + (2 * ps.length) + 7) + 1) none = o1) :
    Turn b c w (iT3mnE (tW b c w).params xs as n t1 t2 t3 d l dd ep lep aep es ps x xt cv o (3 * ps.length) (2 * ps.length) u1 u2 u3 u4 u5 fep v1 v2 v3 v4 v5 ex sl o1 ((wos ((x.fdiv 5).fmod 4) ps).map rfD) (wos ((x.fdiv 5).fmod 4) ps).length 0 (2 * ps.length) s0 t) (jT3mnE (tW b c w).params xs as n t1 t2 t3 d l dd ep lep aep es ps x xt cv o (3 * ps.length) (2 * ps.length) u1 u2 u3 u4 u5 fep v1 v2 v3 v4 v5 ex sl o1 ((wos ((x.fdiv 5).fmod 4) ps).map rfD) (wos ((x.fdiv 5).fmod 4) ps).length 0 (2 * ps.length) s0 t) (ps.map tpD) (nT3mnE xs as n t1 t2 t3 d l dd ep lep aep es ps x xt cv o (3 * ps.length) (2 * ps.length) u1 u2 u3 u4 u5 fep v1 v2 v3 v4 v5 ex sl o1 ((wos ((x.fdiv 5).fmod 4) ps).map rfD) (wos ((x.fdiv 5).fmod 4) ps).length 0 (2 * ps.length) s0 t) [[], [], ps.map tpD] (s0 + 1134) t (0 + ((3 * ps.length) + (s0 + 1154))) (t + 11 + (2 * ps.length) + 7 + ((2 * ps.length) + 1) + 1) := by
  obtain ⟨hp8, hz, hl, hls, hdl, hdn, hn, hn2⟩ := hI.parts
  have ok : OpsOk (mdl tP (tW b c w)) (KK (tW b c w)) (oT3mnE (tW b c w).params xs as n t1 t2 t3 d l dd ep lep aep es ps x xt cv o (3 * ps.length) (2 * ps.length) u1 u2 u3 u4 u5 fep v1 v2 v3 v4 v5 ex sl o1 ((wos ((x.fdiv 5).fmod 4) ps).map rfD) (wos ((x.fdiv 5).fmod 4) ps).length 0 (2 * ps.length) s0 t) := ⟨fun cc sz tok _ _ => ⟨sLiNext_ok hx sz tok, nd0⟩,
    fun cc sz tok q1 q2 => ⟨Summ.at_ok (vHs hp8 hl hls hn ho (by rw [hh]; rfl) (by rw [hh]; rfl)) _ _ q1 q2, nd0⟩,
    fun cc sz tok _ _ => ⟨sEq_ok (by rw [hk]; rfl) cc sz tok, nd0⟩,
    fun cc sz tok _ _ => ⟨sEq_ok (by rw [hk]; rfl) cc sz tok, nd0⟩,
    fun cc sz tok _ _ => ⟨sEq_ok (by rw [hk]; rfl) cc sz tok, nd0⟩,
    fun cc sz tok _ _ => ⟨sEq_ok (by rw [hk]; rfl) cc sz tok, nd0⟩,
    fun cc sz tok _ _ => ⟨sPopM_ok hf (Nat.le_add_left _ _) sz tok, nd01⟩,
    fun cc sz tok q1 q2 => ⟨Summ.at_ok (vWo hp8 (Nat.le_add_left _ _) (by omega) (hn2 (by omega)) ho1) _ _ q1 q2, ndS⟩, trivial⟩
  refine ⟨286, oT3mnE (tW b c w).params xs as n t1 t2 t3 d l dd ep lep aep es ps x xt cv o (3 * ps.length) (2 * ps.length) u1 u2 u3 u4 u5 fep v1 v2 v3 v4 v5 ex sl o1 ((wos ((x.fdiv 5).fmod 4) ps).map rfD) (wos ((x.fdiv 5).fmod 4) ps).length 0 (2 * ps.length) s0 t, [19], ok, ?_⟩
  intro k g lv fb0 pos pos' kp ca1 ps1 gens
  have r := @rT3mnE b c w xs as n t1 t2 t3 d l dd ep lep aep es ps x xt cv o (3 * ps.length) (2 * ps.length) u1 u2 u3 u4 u5 fep v1 v2 v3 v4 v5 ex sl o1 ((wos ((x.fdiv 5).fmod 4) ps).map rfD) (wos ((x.fdiv 5).fmod 4) ps).length 0 (2 * ps.length) s0 t k g lv fb0 pos pos' kp ca1 ps1 gens
  exact r
theorem tk3mnU (xs as : List Value) (n t1 t2 t3 d l dd ep lep aep : Nat) (es : List E) (ps : List (Nat × E)) (x : Int) (xt : Nat) (cv : Option Value) (o : Nat × Value × Nat × Value)  (u1 u2 u3 u4 u5 fep : Nat) (v1 v2 v3 v4 v5 : Value) (ex : List (Str × Nat × Value)) (sl : Array (Option Value)) (o1 : Option (Nat × Value))   (s0 t : Nat) {ae : List AE} (hI : Inv (s0 + 1134) ⟨d + 1113, dd + 1113, l + 1113, ep, lep, es, ps⟩ ae) (hx : xs[n]? = some (.int x xt)) (hk : x.fmod 5 = 3) (ho : heO ps (t + 11) none = none) (hh : hvs ((x.fdiv 5).fmod 4) ps = []) (hf : esFind es ((x.fdiv 5).fmod 4) = none) (ho1 : wiO ps ((t + 11 + (2 * ps.length) + 7) + 1) none = o1) :
    Turn b c w (iT3mnU (tW b c w).params xs as n t1 t2 t3 d l dd ep lep aep es ps x xt cv o (3 * ps.length) (2 * ps.length) u1 u2 u3 u4 u5 fep v1 v2 v3 v4 v5 ex sl o1 ((wos ((x.fdiv 5).fmod 4) ps).map rfD) (wos ((x.fdiv 5).fmod 4) ps).length 0 (2 * ps.length) s0 t) (jT3mnU (tW b c w).params xs as n t1 t2 t3 d l dd ep lep aep es ps x xt cv o (3 * ps.length) (2 * ps.length) u1 u2 u3 u4 u5 fep v1 v2 v3 v4 v5 ex sl o1 ((wos ((x.fdiv 5).fmod 4) ps).map rfD) (wos ((x.fdiv 5).fmod 4) ps).length 0 (2 * ps.length) s0 t) (ps.map tpD) (nT3mnU xs as n t1 t2 t3 d l dd ep lep aep es ps x xt cv o (3 * ps.length) (2 * ps.length) u1 u2 u3 u4 u5 fep v1 v2 v3 v4 v5 ex sl o1 ((wos ((x.fdiv 5).fmod 4) ps).map rfD) (wos ((x.fdiv 5).fmod 4) ps).length 0 (2 * ps.length) s0 t) [[], [], ps.map tpD] (s0 + 1134) t (0 + ((3 * ps.length) + (s0 + 1154))) (t + 11 + (2 * ps.length) + 7 + ((2 * ps.length) + 1) + 1) := by
  obtain ⟨hp8, hz, hl, hls, hdl, hdn, hn, hn2⟩ := hI.parts
  have ok : OpsOk (mdl tP (tW b c w)) (KK (tW b c w)) (oT3mnU (tW b c w).params xs as n t1 t2 t3 d l dd ep lep aep es ps x xt cv o (3 * ps.length) (2 * ps.length) u1 u2 u3 u4 u5 fep v1 v2 v3 v4 v5 ex sl o1 ((wos ((x.fdiv 5).fmod 4) ps).map rfD) (wos ((x.fdiv 5).fmod 4) ps).length 0 (2 * ps.length) s0 t) := ⟨fun cc sz tok _ _ => ⟨sLiNext_ok hx sz tok, nd0⟩,
    fun cc sz tok q1 q2 => ⟨Summ.at_ok (vHs hp8 hl hls hn ho (by rw [hh]; rfl) (by rw [hh]; rfl)) _ _ q1 q2, nd0⟩,
    fun cc sz tok _ _ => ⟨sEq_ok (by rw [hk]; rfl) cc sz tok, nd0⟩,
    fun cc sz tok _ _ => ⟨sEq_ok (by rw [hk]; rfl) cc sz tok, nd0⟩,
    fun cc sz tok _ _ => ⟨sEq_ok (by rw [hk]; rfl) cc sz tok, nd0⟩,
    fun cc sz tok _ _ => ⟨sEq_ok (by rw [hk]; rfl) cc sz tok, nd0⟩,
    fun cc sz tok _ _ => ⟨sPopM_ok hf (Nat.le_add_left _ _) sz tok, nd01⟩,
    fun cc sz tok q1 q2 => ⟨Summ.at_ok (vWo hp8 (Nat.le_add_left _ _) (by omega) (hn2 (by omega)) ho1) _ _ q1 q2, ndS⟩, trivial⟩
  refine ⟨286, oT3mnU (tW b c w).params xs as n t1 t2 t3 d l dd ep lep aep es ps x xt cv o (3 * ps.length) (2 * ps.length) u1 u2 u3 u4 u5 fep v1 v2 v3 v4 v5 ex sl o1 ((wos ((x.fdiv 5).fmod 4) ps).map rfD) (wos ((x.fdiv 5).fmod 4) ps).length 0 (2 * ps.length) s0 t, [19], ok, ?_⟩
  intro k g lv fb0 pos pos' kp ca1 ps1 gens
  have r := @rT3mnU b c w xs as n t1 t2 t3 d l dd ep lep aep es ps x xt cv o (3 * ps.length) (2 * ps.length) u1 u2 u3 u4 u5 fep v1 v2 v3 v4 v5 ex sl o1 ((wos ((x.fdiv 5).fmod 4) ps).map rfD) (wos ((x.fdiv 5).fmod 4) ps).length 0 (2 * ps.length) s0 t k g lv fb0 pos pos' kp ca1 ps1 gens
  exact r
theorem tk3mnR (xs as : List Value) (n t1 t2 t3 d l dd ep lep aep : Nat) (es : List E) (ps : List (Nat × E)) (x : Int) (xt : Nat) (cv : Option Value) (o : Nat × Value × Nat × Value)  (u1 u2 u3 u4 u5 fep : Nat) (v1 v2 v3 v4 v5 : Value) (ex : List (Str × Nat × Value)) (sl : Array (Option Value)) (o1 : Option (Nat × Value))   (s0 t : Nat) {ae : List AE} (hI : Inv (s0 + 1134) ⟨d + 1113, dd + 1113, l + 1113, ep, lep, es, ps⟩ ae) (hx : xs[n]? = some (.int x xt)) (hk : x.fmod 5 = 3) (ho : heO ps (t + 11) none = none) (hh : hvs ((x.fdiv 5).fmod 4) ps = []) (hf : esFind es ((x.fdiv 5).fmod 4) = none) (ho1 : wiO ps ((t + 11 + (2 * ps.length) + 7) + 1) none = o1) :
    Turn b c w (iT3mnR (tW b c w).params xs as n t1 t2 t3 d l dd ep lep aep es ps x xt cv o (3 * ps.length) (2 * ps.length) u1 u2 u3 u4 u5 fep v1 v2 v3 v4 v5 ex sl o1 ((wos ((x.fdiv 5).fmod 4) ps).map rfD) (wos ((x.fdiv 5).fmod 4) ps).length 0 (2 * ps.length) s0 t) (jT3mnR (tW b c w).params xs as n t1 t2 t3 d l dd ep lep aep es ps x xt cv o (3 * ps.length) (2 * ps.length) u1 u2 u3 u4 u5 fep v1 v2 v3 v4 v5 ex sl o1 ((wos ((x.fdiv 5).fmod 4) ps).map rfD) (wos ((x.fdiv 5).fmod 4) ps).length 0 (2 * ps.length) s0 t) (ps.map tpD) (nT3mnR xs as n t1 t2 t3 d l dd ep lep aep es ps x xt cv o (3 * ps.length) (2 * ps.length) u1 u2 u3 u4 u5 fep v1 v2 v3 v4 v5 ex sl o1 ((wos ((x.fdiv 5).fmod 4) ps).map rfD) (wos ((x.fdiv 5).fmod 4) ps).length 0 (2 * ps.length) s0 t) [[], [], ps.map tpD] (s0 + 1134) t (0 + ((3 * ps.length) + (s0 + 1154))) (t + 11 + (2 * ps.length) + 7 + ((2 * ps.length) + 1) + 1) := by
  obtain ⟨hp8, hz, hl, hls, hdl, hdn, hn, hn2⟩ := hI.parts
  have ok : OpsOk (mdl tP (tW b c w)) (KK (tW b c w)) (oT3mnR (tW b c w).params xs as n t1 t2 t3 d l dd ep lep aep es ps x xt cv o (3 * ps.length) (2 * ps.length) u1 u2 u3 u4 u5 fep v1 v2 v3 v4 v5 ex sl o1 ((wos ((x.fdiv 5).fmod 4) ps).map rfD) (wos ((x.fdiv 5).fmod 4) ps).length 0 (2 * ps.length) s0 t) := ⟨fun cc sz tok _ _ => ⟨sLiNext_ok hx sz tok, nd0⟩,
    fun cc sz tok q1 q2 => ⟨Summ.at_ok (vHs hp8 hl hls hn ho (by rw [hh]; rfl) (by rw [hh]; rfl)) _ _ q1 q2, nd0⟩,
    fun cc sz tok _ _ => ⟨sEq_ok (by rw [hk]; rfl) cc sz tok, nd0⟩,
    fun cc sz tok _ _ => ⟨sEq_ok (by rw [hk]; rfl) cc sz tok, nd0⟩,
    fun cc sz tok _ _ => ⟨sEq_ok (by rw [hk]; rfl) cc sz tok, nd0⟩,
    fun cc sz tok _ _ => ⟨sEq_ok (by rw [hk]; rfl) cc sz tok, nd0⟩,
    fun cc sz tok _ _ => ⟨sPopM_ok hf (Nat.le_add_left _ _) sz tok, nd01⟩,
    fun cc sz tok q1 q2 => ⟨Summ.at_ok (vWo hp8 (Nat.le_add_left _ _) (by omega) (hn2 (by omega)) ho1) _ _ q1 q2, ndS⟩, trivial⟩
  refine ⟨284, oT3mnR (tW b c w).params xs as n t1 t2 t3 d l dd ep lep aep es ps x xt cv o (3 * ps.length) (2 * ps.length) u1 u2 u3 u4 u5 fep v1 v2 v3 v4 v5 ex sl o1 ((wos ((x.fdiv 5).fmod 4) ps).map rfD) (wos ((x.fdiv 5).fmod 4) ps).length 0 (2 * ps.length) s0 t, [19], ok, ?_⟩
  intro k g lv fb0 pos pos' kp ca1 ps1 gens
  have r := @rT3mnR b c w xs as n t1 t2 t3 d l dd ep lep aep es ps x xt cv o (3 * ps.length) (2 * ps.length) u1 u2 u3 u4 u5 fep v1 v2 v3 v4 v5 ex sl o1 ((wos ((x.fdiv 5).fmod 4) ps).map rfD) (wos ((x.fdiv 5).fmod 4) ps).length 0 (2 * ps.length) s0 t k g lv fb0 pos pos' kp ca1 ps1 gens
  exact r
theorem tk1h (xs as : List Value) (n t1 t2 t3 d l dd ep lep aep : Nat) (es : List E) (ps : List (Nat × E)) (x : Int) (xt : Nat) (cv : Option Value) (o : Nat × Value × Nat × Value)  (u1 u2 u3 u4 u5 fep : Nat) (v1 v2 v3 v4 v5 : Value) (ex : List (Str × Nat × Value)) (sl : Array (Option Value))   (o1 : Option (Nat × Value))   (s0 t : Nat) {ae : List AE} {e : E} {p : Nat × E} (hI : Inv (s0 + 1134) ⟨d + 1113, dd + 1113, l + 1113, ep, lep, es, ps⟩ ae) (hx : xs[n]? = some (.int x xt)) (hk : x.fmod 5 = 1) (ho : heO ps (t + 11) none = some o) (hh : hvs ((x.fdiv 5).fmod 4) ps = [p]) (hf : esFind es ((x.fdiv 5).fmod 4) = some e) (hv : p.2.v = e.v) (ho1 : wiO ps ((t + 11 + (2 * ps.length) + 8) + 1) none = o1) :
    Turn b c w (iT1h (tW b c w).params xs as n t1 t2 t3 d l dd ep lep aep es ps x xt cv o (3 * ps.length) (2 * ps.length) u1 u2 u3 u4 u5 fep v1 v2 v3 v4 v5 ex sl ((hvs ((x.fdiv 5).fmod 4) ps).map fun e => Value.int e.2.v e.2.u) (hvs ((x.fdiv 5).fmod 4) ps).length o1 ((wos ((x.fdiv 5).fmod 4) ps).map rfD) (wos ((x.fdiv 5).fmod 4) ps).length 0 (2 * ps.length) s0 t) (jT1h (tW b c w).params xs as n t1 t2 t3 d l dd ep lep aep es ps x xt cv o (3 * ps.length) (2 * ps.length) u1 u2 u3 u4 u5 fep v1 v2 v3 v4 v5 ex sl ((hvs ((x.fdiv 5).fmod 4) ps).map fun e => Value.int e.2.v e.2.u) (hvs ((x.fdiv 5).fmod 4) ps).length o1 ((wos ((x.fdiv 5).fmod 4) ps).map rfD) (wos ((x.fdiv 5).fmod 4) ps).length 0 (2 * ps.length) s0 t) (ps.map tpD) (nT1h xs as n t1 t2 t3 d l dd ep lep aep es ps x xt cv o (3 * ps.length) (2 * ps.length) u1 u2 u3 u4 u5 fep v1 v2 v3 v4 v5 ex sl ((hvs ((x.fdiv 5).fmod 4) ps).map fun e => Value.int e.2.v e.2.u) (hvs ((x.fdiv 5).fmod 4) ps).length o1 ((wos ((x.fdiv 5).fmod 4) ps).map rfD) (wos ((x.fdiv 5).fmod 4) ps).length 0 (2 * ps.length) s0 t) [[], [], ps.map tpD] (s0 + 1134) t (0 + ((3 * ps.length) + (s0 + 1153))) (t + 11 + (2 * ps.length) + 8 + ((2 * ps.length) + 1) + 1) := by
  obtain ⟨hp8, hz, hl, hls, hdl, hdn, hn, hn2⟩ := hI.parts
  have ok : OpsOk (mdl tP (tW b c w)) (KK (tW b c w)) (oT1h (tW b c w).params xs as n t1 t2 t3 d l dd ep lep aep es ps x xt cv o (3 * ps.length) (2 * ps.length) u1 u2 u3 u4 u5 fep v1 v2 v3 v4 v5 ex sl ((hvs ((x.fdiv 5).fmod 4) ps).map fun e => Value.int e.2.v e.2.u) (hvs ((x.fdiv 5).fmod 4) ps).length o1 ((wos ((x.fdiv 5).fmod 4) ps).map rfD) (wos ((x.fdiv 5).fmod 4) ps).length 0 (2 * ps.length) s0 t) := ⟨fun cc sz tok _ _ => ⟨sLiNext_ok hx sz tok, nd0⟩,
    fun cc sz tok q1 q2 => ⟨Summ.at_ok (vHs hp8 hl hls hn ho rfl rfl) _ _ q1 q2, nd0⟩,
    fun cc sz tok _ _ => ⟨sEq_ok (by rw [hk]; rfl) cc sz tok, nd0⟩,
    fun cc sz tok _ _ => ⟨sEq_ok (by rw [hk]; rfl) cc sz tok, nd0⟩,
    fun cc sz tok _ _ => ⟨sHas_ok (by rw [hf]; rfl) (notSys (Nat.le_add_left _ _)) sz tok, nd0⟩,
    fun acts sz tok => mSupA_ok acts sz tok,
    fun cc sz tok _ _ => ⟨sDel_ok hf hz (Nat.le_add_left _ _) sz tok, nd0⟩,
    fun cc sz tok q1 q2 => ⟨Summ.at_ok (vWo hp8 (Nat.le_add_left _ _) (by omega) (hn2 (by omega)) ho1) _ _ q1 q2, ndS⟩, trivial⟩
  refine ⟨301, oT1h (tW b c w).params xs as n t1 t2 t3 d l dd ep lep aep es ps x xt cv o (3 * ps.length) (2 * ps.length) u1 u2 u3 u4 u5 fep v1 v2 v3 v4 v5 ex sl ((hvs ((x.fdiv 5).fmod 4) ps).map fun e => Value.int e.2.v e.2.u) (hvs ((x.fdiv 5).fmod 4) ps).length o1 ((wos ((x.fdiv 5).fmod 4) ps).map rfD) (wos ((x.fdiv 5).fmod 4) ps).length 0 (2 * ps.length) s0 t, [18], ok, ?_⟩
  intro k g lv fb0 pos pos' kp ca1 ps1 gens
  have r := @rT1h b c w xs as n t1 t2 t3 d l dd ep lep aep es ps x xt cv o (3 * ps.length) (2 * ps.length) u1 u2 u3 u4 u5 fep v1 v2 v3 v4 v5 ex sl ((hvs ((x.fdiv 5).fmod 4) ps).map fun e => Value.int e.2.v e.2.u) (hvs ((x.fdiv 5).fmod 4) ps).length o1 ((wos ((x.fdiv 5).fmod 4) ps).map rfD) (wos ((x.fdiv 5).fmod 4) ps).length 0 (2 * ps.length) s0 t k g lv fb0 pos pos' kp ca1 ps1 gens
  exact r
theorem tk2h (xs as : List Value) (n t1 t2 t3 d l dd ep lep aep : Nat) (es : List E) (ps : List (Nat × E)) (x : Int) (xt : Nat) (cv : Option Value) (o : Nat × Value × Nat × Value)  (u1 u2 u3 u4 u5 fep : Nat) (v1 v2 v3 v4 v5 : Value) (ex : List (Str × Nat × Value)) (sl : Array (Option Value))   (s0 t : Nat) {ae : List AE} {e : E} {p : Nat × E} (hI : Inv (s0 + 1134) ⟨d + 1113, dd + 1113, l + 1113, ep, lep, es, ps⟩ ae) (hx : xs[n]? = some (.int x xt)) (hk : x.fmod 5 = 2) (ho : heO ps (t + 11) none = some o) (hh : hvs ((x.fdiv 5).fmod 4) ps = [p]) (hf : esFind es ((x.fdiv 5).fmod 4) = some e) (hv : p.2.v = e.v) :
    Turn b c w (iT2h (tW b c w).params xs as n t1 t2 t3 d l dd ep lep aep es ps x xt cv o (3 * ps.length) (2 * ps.length) u1 u2 u3 u4 u5 fep v1 v2 v3 v4 v5 ex sl e.v p.2.v e.u p.2.u s0 t) (jT2h (tW b c w).params xs as n t1 t2 t3 d l dd ep lep aep es ps x xt cv o (3 * ps.length) (2 * ps.length) u1 u2 u3 u4 u5 fep v1 v2 v3 v4 v5 ex sl e.v p.2.v e.u p.2.u s0 t) (ps.map tpD) (nT2h xs as n t1 t2 t3 d l dd ep lep aep es ps x xt cv o (3 * ps.length) (2 * ps.length) u1 u2 u3 u4 u5 fep v1 v2 v3 v4 v5 ex sl e.v p.2.v e.u p.2.u s0 t) [[], ps.map tpD] (s0 + 1134) t ((3 * ps.length) + (s0 + 1152)) (t + 11 + (2 * ps.length) + 10) := by
  obtain ⟨hp8, hz, hl, hls, hdl, hdn, hn, hn2⟩ := hI.parts
  have ok : OpsOk (mdl tP (tW b c w)) (KK (tW b c w)) (oT2h (tW b c w).params xs as n t1 t2 t3 d l dd ep lep aep es ps x xt cv o (3 * ps.length) (2 * ps.length) u1 u2 u3 u4 u5 fep v1 v2 v3 v4 v5 ex sl e.v p.2.v e.u p.2.u s0 t) := ⟨fun cc sz tok _ _ => ⟨sLiNext_ok hx sz tok, nd0⟩,
    fun cc sz tok q1 q2 => ⟨Summ.at_ok (vHs hp8 hl hls hn ho (by rw [hh]; rfl) (by rw [hh]; rfl)) _ _ q1 q2, nd0⟩,
    fun cc sz tok _ _ => ⟨sEq_ok (by rw [hk]; rfl) cc sz tok, nd0⟩,
    fun cc sz tok _ _ => ⟨sEq_ok (by rw [hk]; rfl) cc sz tok, nd0⟩,
    fun cc sz tok _ _ => ⟨sEq_ok (by rw [hk]; rfl) cc sz tok, nd0⟩,
    fun cc sz tok _ _ => ⟨sGH_ok hf sz tok, nd0⟩,
    fun cc sz tok _ _ => ⟨sGetN_ok (by unfold esVal; rw [hf]; rfl) (notSys (Nat.le_add_left _ _)) sz tok, nd0⟩,
    fun cc sz tok _ _ => ⟨sHas_ok (by rw [hf]; rfl) (notSys (Nat.le_add_left _ _)) sz tok, nd0⟩,
    fun cc sz tok _ _ => ⟨sSum1_ok (by omega) (by omega) (by omega), nd0⟩,
    fun cc sz tok _ _ => ⟨sLsNe_ok rdIIB rdIIB (by rw [hv]; simp [PyData.eqvAll, PyData.eqv]) sz tok, nd0⟩, trivial⟩
  refine ⟨327, oT2h (tW b c w).params xs as n t1 t2 t3 d l dd ep lep aep es ps x xt cv o (3 * ps.length) (2 * ps.length) u1 u2 u3 u4 u5 fep v1 v2 v3 v4 v5 ex sl e.v p.2.v e.u p.2.u s0 t, [], ok, ?_⟩
  intro k g lv fb0 pos pos' kp ca1 ps1 gens
  have r := @rT2h b c w xs as n t1 t2 t3 d l dd ep lep aep es ps x xt cv o (3 * ps.length) (2 * ps.length) u1 u2 u3 u4 u5 fep v1 v2 v3 v4 v5 ex sl e.v p.2.v e.u p.2.u s0 t k g lv fb0 pos pos' kp ca1 ps1 gens
  exact r
theorem tk3hE (xs as : List Value) (n t1 t2 t3 d l dd ep lep aep : Nat) (es : List E) (ps : List (Nat × E)) (x : Int) (xt : Nat) (cv : Option Value) (o : Nat × Value × Nat × Value)  (u1 u2 u3 u4 u5 fep : Nat) (v1 v2 v3 v4 v5 : Value) (ex : List (Str × Nat × Value)) (sl : Array (Option Value))   (o1 : Option (Nat × Value))   (s0 t : Nat) {ae : List AE} {e : E} {p : Nat × E} (hI : Inv (s0 + 1134) ⟨d + 1113, dd + 1113, l + 1113, ep, lep, es, ps⟩ ae) (hx : xs[n]? = some (.int x xt)) (hk : x.fmod 5 = 3) (ho : heO ps (t + 11) none = some o) (hh : hvs ((x.fdiv 5).fmod 4) ps = [p]) (hf : esFind es ((x.fdiv 5).fmod 4) = some e) (hv : p.2.v = e.v) (ho1 : wiO ps ((t + 11 + (2 * ps.length) + 7) + 1) none = o1) :
    Turn b c w (iT3hE (tW b c w).params xs as n t1 t2 t3 d l dd ep lep aep es ps x xt cv o (3 * ps.length) (2 * ps.length) u1 u2 u3 u4 u5 fep v1 v2 v3 v4 v5 ex sl e.v p.2.v e.u p.2.u o1 ((wos ((x.fdiv 5).fmod 4) ps).map rfD) (wos ((x.fdiv 5).fmod 4) ps).length 0 (2 * ps.length) s0 t) (jT3hE (tW b c w).params xs as n t1 t2 t3 d l dd ep lep aep es ps x xt cv o (3 * ps.length) (2 * ps.length) u1 u2 u3 u4 u5 fep v1 v2 v3 v4 v5 ex sl e.v p.2.v e.u p.2.u o1 ((wos ((x.fdiv 5).fmod 4) ps).map rfD) (wos ((x.fdiv 5).fmod 4) ps).length 0 (2 * ps.length) s0 t) (ps.map tpD) (nT3hE xs as n t1 t2 t3 d l dd ep lep aep es ps x xt cv o (3 * ps.length) (2 * ps.length) u1 u2 u3 u4 u5 fep v1 v2 v3 v4 v5 ex sl e.v p.2.v e.u p.2.u o1 ((wos ((x.fdiv 5).fmod 4) ps).map rfD) (wos ((x.fdiv 5).fmod 4) ps).length 0 (2 * ps.length) s0 t) [[], [], ps.map tpD] (s0 + 1134) t (0 + ((3 * ps.length) + (s0 + 1151))) (t + 11 + (2 * ps.length) + 7 + ((2 * ps.length) + 1) + 1) := by
  obtain ⟨hp8, hz, hl, hls, hdl, hdn, hn, hn2⟩ := hI.parts
  have ok : OpsOk (mdl tP (tW b c w)) (KK (tW b c w)) (oT3hE (tW b c w).params xs as n t1 t2 t3 d l dd ep lep aep es ps x xt cv o (3 * ps.length) (2 * ps.length) u1 u2 u3 u4 u5 fep v1 v2 v3 v4 v5 ex sl e.v p.2.v e.u p.2.u o1 ((wos ((x.fdiv 5).fmod 4) ps).map rfD) (wos ((x.fdiv 5).fmod 4) ps).length 0 (2 * ps.length) s0 t) := ⟨fun cc sz tok _ _ => ⟨sLiNext_ok hx sz tok, nd0⟩,
    fun cc sz tok q1 q2 => ⟨Summ.at_ok (vHs hp8 hl hls hn ho (by rw [hh]; rfl) (by rw [hh]; rfl)) _ _ q1 q2, nd0⟩,
    fun cc sz tok _ _ => ⟨sEq_ok (by rw [hk]; rfl) cc sz tok, nd0⟩,
    fun cc sz tok _ _ => ⟨sEq_ok (by rw [hk]; rfl) cc sz tok, nd0⟩,
    fun cc sz tok _ _ => ⟨sEq_ok (by rw [hk]; rfl) cc sz tok, nd0⟩,
    fun cc sz tok _ _ => ⟨sEq_ok (by rw [hk]; rfl) cc sz tok, nd0⟩,
    fun cc sz tok _ _ => ⟨sPopH_ok hf hz (Nat.le_add_left _ _) sz tok, nd0⟩,
    fun cc sz tok _ _ => ⟨sLsNe_ok rdI rdI (by rw [hv]; simp [PyData.eqvAll, PyData.eqv]) sz tok, nd0⟩,
    fun cc sz tok q1 q2 => ⟨Summ.at_ok (vWo hp8 (Nat.le_add_left _ _) (by omega) (hn2 (by omega)) ho1) _ _ q1 q2, ndS⟩, trivial⟩
  refine ⟨258, oT3hE (tW b c w).params xs as n t1 t2 t3 d l dd ep lep aep es ps x xt cv o (3 * ps.length) (2 * ps.length) u1 u2 u3 u4 u5 fep v1 v2 v3 v4 v5 ex sl e.v p.2.v e.u p.2.u o1 ((wos ((x.fdiv 5).fmod 4) ps).map rfD) (wos ((x.fdiv 5).fmod 4) ps).length 0 (2 * ps.length) s0 t, [16], ok, ?_⟩
  intro k g lv fb0 pos pos' kp ca1 ps1 gens
  have r := @rT3hE b c w xs as n t1 t2 t3 d l dd ep lep aep es ps x xt cv o (3 * ps.length) (2 * ps.length) u1 u2 u3 u4 u5 fep v1 v2 v3 v4 v5 ex sl e.v p.2.v e.u p.2.u o1 ((wos ((x.fdiv 5).fmod 4) ps).map rfD) (wos ((x.fdiv 5).fmod 4) ps).length 0 (2 * ps.length) s0 t k g lv fb0 pos pos' kp ca1 ps1 gens
  exact r
theorem tk3hT (xs as : List Value) (n t1 t2 t3 d l dd ep lep aep : Nat) (es : List E) (ps : List (Nat × E)) (x : Int) (xt : Nat) (cv : Option Value) (o : Nat × Value × Nat × Value)  (u1 u2 u3 u4 u5 fep : Nat) (v1 v2 v3 v4 v5 : Value) (ex : List (Str × Nat × Value)) (sl : Array (Option Value))   (o1 : Option (Nat × Value))   (s0 t : Nat) {ae : List AE} {e : E} {p : Nat × E} (hI : Inv (s0 + 1134) ⟨d + 1113, dd + 1113, l + 1113, ep, lep, es, ps⟩ ae) (hx : xs[n]? = some (.int x xt)) (hk : x.fmod 5 = 3) (ho : heO ps (t + 11) none = some o) (hh : hvs ((x.fdiv 5).fmod 4) ps = [p]) (hf : esFind es ((x.fdiv 5).fmod 4) = some e) (hv : p.2.v = e.v) (ho1 : wiO ps ((t + 11 + (2 * ps.length) + 7) + 1) none = o1) :
    Turn b c w (iT3hT (tW b c w).params xs as n t1 t2 t3 d l dd ep lep aep es ps x xt cv o (3 * ps.length) (2 * ps.length) u1 u2 u3 u4 u5 fep v1 v2 v3 v4 v5 ex sl e.v p.2.v e.u p.2.u o1 ((wos ((x.fdiv 5).fmod 4) ps).map rfD) (wos ((x.fdiv 5).fmod 4) ps).length 0 (2 * ps.length) s0 t) (jT3hT (tW b c w).params xs as n t1 t2 t3 d l dd ep lep aep es ps x xt cv o (3 * ps.length) (2 * ps.length) u1 u2 u3 u4 u5 fep v1 v2 v3 v4 v5 ex sl e.v p.2.v e.u p.2.u o1 ((wos ((x.fdiv 5).fmod 4) ps).map rfD) (wos ((x.fdiv 5).fmod 4) ps).length 0 (2 * ps.length) s0 t) (ps.map tpD) (nT3hT xs as n t1 t2 t3 d l dd ep lep aep es ps x xt cv o (3 * ps.length) (2 * ps.length) u1 u2 u3 u4 u5 fep v1 v2 v3 v4 v5 ex sl e.v p.2.v e.u p.2.u o1 ((wos ((x.fdiv 5).fmod 4) ps).map rfD) (wos ((x.fdiv 5).fmod 4) ps).length 0 (2 * ps.length) s0 t) [[], [], ps.map tpD] (s0 + 1134) t (0 + ((3 * ps.length) + (s0 + 1151))) (t + 11 + (2 * ps.length) + 7 + ((2 * ps.length) + 1) + 1) := by
  obtain ⟨hp8, hz, hl, hls, hdl, hdn, hn, hn2⟩ := hI.parts
  have ok : OpsOk (mdl tP (tW b c w)) (KK (tW b c w)) (oT3hT (tW b c w).params xs as n t1 t2 t3 d l dd ep lep aep es ps x xt cv o (3 * ps.length) (2 * ps.length) u1 u2 u3 u4 u5 fep v1 v2 v3 v4 v5 ex sl e.v p.2.v e.u p.2.u o1 ((wos ((x.fdiv 5).fmod 4) ps).map rfD) (wos ((x.fdiv 5).fmod 4) ps).length 0 (2 * ps.length) s0 t) := ⟨fun cc sz tok _ _ => ⟨sLiNext_ok hx sz tok, nd0⟩,
    fun cc sz tok q1 q2 => ⟨Summ.at_ok (vHs hp8 hl hls hn ho (by rw [hh]; rfl) (by rw [hh]; rfl)) _ _ q1 q2, nd0⟩,
    fun cc sz tok _ _ => ⟨sEq_ok (by rw [hk]; rfl) cc sz tok, nd0⟩,
    fun cc sz tok _ _ => ⟨sEq_ok (by rw [hk]; rfl) cc sz tok, nd0⟩,
    fun cc sz tok _ _ => ⟨sEq_ok (by rw [hk]; rfl) cc sz tok, nd0⟩,
    fun cc sz tok _ _ => ⟨sEq_ok (by rw [hk]; rfl) cc sz tok, nd0⟩,
    fun cc sz tok _ _ => ⟨sPopH_ok hf hz (Nat.le_add_left _ _) sz tok, nd0⟩,
    fun cc sz tok _ _ => ⟨sLsNe_ok rdI rdI (by rw [hv]; simp [PyData.eqvAll, PyData.eqv]) sz tok, nd0⟩,
    fun cc sz tok q1 q2 => ⟨Summ.at_ok (vWo hp8 (Nat.le_add_left _ _) (by omega) (hn2 (by omega)) ho1) _ _ q1 q2, ndS⟩, trivial⟩
  refine ⟨258, oT3hT (tW b c w).params xs as n t1 t2 t3 d l dd ep lep aep es ps x xt cv o (3 * ps.length) (2 * ps.length) u1 u2 u3 u4 u5 fep v1 v2 v3 v4 v5 ex sl e.v p.2.v e.u p.2.u o1 ((wos ((x.fdiv 5).fmod 4) ps).map rfD) (wos ((x.fdiv 5).fmod 4) ps).length 0 (2 * ps.length) s0 t, [16], ok, ?_⟩
  intro k g lv fb0 pos pos' kp ca1 ps1 gens
  have r := @rT3hT b c w xs as n t1 t2 t3 d l dd ep lep aep es ps x xt cv o (3 * ps.length) (2 * ps.length) u1 u2 u3 u4 u5 fep v1 v2 v3 v4 v5 ex sl e.v p.2.v e.u p.2.u o1 ((wos ((x.fdiv 5).fmod 4) ps).map rfD) (wos ((x.fdiv 5).fmod 4) ps).length 0 (2 * ps.length) s0 t k g lv fb0 pos pos' kp ca1 ps1 gens
  exact r
theorem tkN0 (xs as : List Value) (n t1 t2 t3 d l dd ep lep aep : Nat) (es : List E) (ps : List (Nat × E)) (x : Int) (xt : Nat) (cv : Option Value) (o : Nat × Value × Nat × Value)  (u1 u2 u3 u4 u5 fep : Nat) (v1 v2 v3 v4 v5 : Value) (ex : List (Str × Nat × Value)) (sl : Array (Option Value)) (o1 : Option (Nat × Value))   (s0 t : Nat) {ae : List AE} (hI : Inv (s0 + 1134) ⟨d + 1113, dd + 1113, l + 1113, ep, lep, es, ps⟩ ae) (hx : xs[n]? = some (.int x xt)) (hk : x.fmod 5 = 0) (ho : heO ps (t + 11) none = none) (hh : hvs ((x.fdiv 5).fmod 4) ps = []) (hf : esFind es ((x.fdiv 5).fmod 4) = none) (ho1 : wiO ps ((t + 11 + (2 * ps.length) + 10) + 1) none = o1) :
    Turn b c w (iTN0 (tW b c w).params xs as n t1 t2 t3 d l dd ep lep aep es ps x xt cv o (3 * ps.length) (2 * ps.length) u1 u2 u3 u4 u5 fep v1 v2 v3 v4 v5 ex sl o1 (ps.map rfD ++ [.ref (0 + (((3 * ps.length) + (s0 + 1148)) + 9))]) 0 (2 * ps.length) s0 t) (jTN0 (tW b c w).params xs as n t1 t2 t3 d l dd ep lep aep es ps x xt cv o (3 * ps.length) (2 * ps.length) u1 u2 u3 u4 u5 fep v1 v2 v3 v4 v5 ex sl o1 (ps.map rfD ++ [.ref (0 + (((3 * ps.length) + (s0 + 1148)) + 9))]) 0 (2 * ps.length) s0 t) (ps.map tpD) (nTN0 xs as n t1 t2 t3 d l dd ep lep aep es ps x xt cv o (3 * ps.length) (2 * ps.length) u1 u2 u3 u4 u5 fep v1 v2 v3 v4 v5 ex sl o1 (ps.map rfD ++ [.ref (0 + (((3 * ps.length) + (s0 + 1148)) + 9))]) 0 (2 * ps.length) s0 t) [[], [], ps.map tpD] (s0 + 1134) t (0 + ((3 * ps.length) + (s0 + 1160))) (t + 11 + (2 * ps.length) + 10 + ((2 * ps.length) + 1) + 1) := by
  obtain ⟨hp8, hz, hl, hls, hdl, hdn, hn, hn2⟩ := hI.parts
  have ok : OpsOk (mdl tP (tW b c w)) (KK (tW b c w)) (oTN0 (tW b c w).params xs as n t1 t2 t3 d l dd ep lep aep es ps x xt cv o (3 * ps.length) (2 * ps.length) u1 u2 u3 u4 u5 fep v1 v2 v3 v4 v5 ex sl o1 (ps.map rfD ++ [.ref (0 + (((3 * ps.length) + (s0 + 1148)) + 9))]) 0 (2 * ps.length) s0 t) := ⟨fun cc sz tok _ _ => ⟨sLiNext_ok hx sz tok, nd0⟩,
    fun cc sz tok q1 q2 => ⟨Summ.at_ok (vHs hp8 hl hls hn ho (by rw [hh]; rfl) (by rw [hh]; rfl)) _ _ q1 q2, nd0⟩,
    fun cc sz tok _ _ => ⟨sEq_ok (by rw [hk]; rfl) cc sz tok, nd0⟩,
    fun cc sz tok _ _ => ⟨guard_ok fun hs => sGM_ok hf (Nat.le_add_left _ _) sz tok hs, ndG⟩,
    fun cc sz tok _ _ => ⟨sSetC_ok hz (Nat.le_add_left _ _) sz tok, nd0⟩,
    fun cc sz tok q1 q2 => ⟨Summ.at_ok (vWm hp8 (Nat.le_add_left _ _) (by omega) (hn2 (by omega)) hh rfl ho1) _ _ q1 q2, ndW⟩, trivial⟩
  refine ⟨253, oTN0 (tW b c w).params xs as n t1 t2 t3 d l dd ep lep aep es ps x xt cv o (3 * ps.length) (2 * ps.length) u1 u2 u3 u4 u5 fep v1 v2 v3 v4 v5 ex sl o1 (ps.map rfD ++ [.ref (0 + (((3 * ps.length) + (s0 + 1148)) + 9))]) 0 (2 * ps.length) s0 t, [19, 20], ok, ?_⟩
  intro k g lv fb0 pos pos' kp ca1 ps1 gens
  have r := @rTN0 b c w xs as n t1 t2 t3 d l dd ep lep aep es ps x xt cv o (3 * ps.length) (2 * ps.length) u1 u2 u3 u4 u5 fep v1 v2 v3 v4 v5 ex sl o1 (ps.map rfD ++ [.ref (0 + (((3 * ps.length) + (s0 + 1148)) + 9))]) 0 (2 * ps.length) s0 t k g lv fb0 pos pos' kp ca1 ps1 gens
  exact r
theorem tkN1 (xs as : List Value) (n t1 t2 t3 d l dd ep lep aep : Nat) (es : List E) (ps : List (Nat × E)) (x : Int) (xt : Nat) (cv : Option Value) (o : Nat × Value × Nat × Value)  (u1 u2 u3 u4 u5 fep : Nat) (v1 v2 v3 v4 v5 : Value) (ex : List (Str × Nat × Value)) (sl : Array (Option Value))   (o1 : Option (Nat × Value))   (s0 t : Nat) {ae : List AE} (hI : Inv (s0 + 1134) ⟨d + 1113, dd + 1113, l + 1113, ep, lep, es, ps⟩ ae) (hx : xs[n]? = some (.int x xt)) (hk : x.fmod 5 = 1) (ho : heO ps (t + 11) none = none) (hh : hvs ((x.fdiv 5).fmod 4) ps = []) (hf : esFind es ((x.fdiv 5).fmod 4) = none) (ho1 : wiO ps ((t + 11 + (2 * ps.length) + 6) + 1) none = o1) :
    Turn b c w (iTN1 (tW b c w).params xs as n t1 t2 t3 d l dd ep lep aep es ps x xt cv o (3 * ps.length) (2 * ps.length) u1 u2 u3 u4 u5 fep v1 v2 v3 v4 v5 ex sl ((hvs ((x.fdiv 5).fmod 4) ps).map fun e => Value.int e.2.v e.2.u) (hvs ((x.fdiv 5).fmod 4) ps).length o1 ((wos ((x.fdiv 5).fmod 4) ps).map rfD) (wos ((x.fdiv 5).fmod 4) ps).length 0 (2 * ps.length) s0 t) (jTN1 (tW b c w).params xs as n t1 t2 t3 d l dd ep lep aep es ps x xt cv o (3 * ps.length) (2 * ps.length) u1 u2 u3 u4 u5 fep v1 v2 v3 v4 v5 ex sl ((hvs ((x.fdiv 5).fmod 4) ps).map fun e => Value.int e.2.v e.2.u) (hvs ((x.fdiv 5).fmod 4) ps).length o1 ((wos ((x.fdiv 5).fmod 4) ps).map rfD) (wos ((x.fdiv 5).fmod 4) ps).length 0 (2 * ps.length) s0 t) (ps.map tpD) (nTN1 xs as n t1 t2 t3 d l dd ep lep aep es ps x xt cv o (3 * ps.length) (2 * ps.length) u1 u2 u3 u4 u5 fep v1 v2 v3 v4 v5 ex sl ((hvs ((x.fdiv 5).fmod 4) ps).map fun e => Value.int e.2.v e.2.u) (hvs ((x.fdiv 5).fmod 4) ps).length o1 ((wos ((x.fdiv 5).fmod 4) ps).map rfD) (wos ((x.fdiv 5).fmod 4) ps).length 0 (2 * ps.length) s0 t) [[], [], ps.map tpD] (s0 + 1134) t (0 + ((3 * ps.length) + (s0 + 1151))) (t + 11 + (2 * ps.length) + 6 + ((2 * ps.length) + 1) + 1) := by
  obtain ⟨hp8, hz, hl, hls, hdl, hdn, hn, hn2⟩ := hI.parts
  have ok : OpsOk (mdl tP (tW b c w)) (KK (tW b c w)) (oTN1 (tW b c w).params xs as n t1 t2 t3 d l dd ep lep aep es ps x xt cv o (3 * ps.length) (2 * ps.length) u1 u2 u3 u4 u5 fep v1 v2 v3 v4 v5 ex sl ((hvs ((x.fdiv 5).fmod 4) ps).map fun e => Value.int e.2.v e.2.u) (hvs ((x.fdiv 5).fmod 4) ps).length o1 ((wos ((x.fdiv 5).fmod 4) ps).map rfD) (wos ((x.fdiv 5).fmod 4) ps).length 0 (2 * ps.length) s0 t) := ⟨fun cc sz tok _ _ => ⟨sLiNext_ok hx sz tok, nd0⟩,
    fun cc sz tok q1 q2 => ⟨Summ.at_ok (vHs hp8 hl hls hn ho rfl rfl) _ _ q1 q2, nd0⟩,
    fun cc sz tok _ _ => ⟨sEq_ok (by rw [hk]; rfl) cc sz tok, nd0⟩,
    fun cc sz tok _ _ => ⟨sEq_ok (by rw [hk]; rfl) cc sz tok, nd0⟩,
    fun cc sz tok _ _ => ⟨sHas_ok (by rw [hf]; rfl) (notSys (Nat.le_add_left _ _)) sz tok, nd0⟩,
    fun cc sz tok q1 q2 => ⟨Summ.at_ok (vWo hp8 (Nat.le_add_left _ _) (by omega) (hn2 (by omega)) ho1) _ _ q1 q2, ndS⟩, trivial⟩
  refine ⟨230, oTN1 (tW b c w).params xs as n t1 t2 t3 d l dd ep lep aep es ps x xt cv o (3 * ps.length) (2 * ps.length) u1 u2 u3 u4 u5 fep v1 v2 v3 v4 v5 ex sl ((hvs ((x.fdiv 5).fmod 4) ps).map fun e => Value.int e.2.v e.2.u) (hvs ((x.fdiv 5).fmod 4) ps).length o1 ((wos ((x.fdiv 5).fmod 4) ps).map rfD) (wos ((x.fdiv 5).fmod 4) ps).length 0 (2 * ps.length) s0 t, [16], ok, ?_⟩
  intro k g lv fb0 pos pos' kp ca1 ps1 gens
  have r := @rTN1 b c w xs as n t1 t2 t3 d l dd ep lep aep es ps x xt cv o (3 * ps.length) (2 * ps.length) u1 u2 u3 u4 u5 fep v1 v2 v3 v4 v5 ex sl ((hvs ((x.fdiv 5).fmod 4) ps).map fun e => Value.int e.2.v e.2.u) (hvs ((x.fdiv 5).fmod 4) ps).length o1 ((wos ((x.fdiv 5).fmod 4) ps).map rfD) (wos ((x.fdiv 5).fmod 4) ps).length 0 (2 * ps.length) s0 t k g lv fb0 pos pos' kp ca1 ps1 gens
  exact r
theorem tkN2 (xs as : List Value) (n t1 t2 t3 d l dd ep lep aep : Nat) (es : List E) (ps : List (Nat × E)) (x : Int) (xt : Nat) (cv : Option Value) (o : Nat × Value × Nat × Value)  (u1 u2 u3 u4 u5 fep : Nat) (v1 v2 v3 v4 v5 : Value) (ex : List (Str × Nat × Value)) (sl : Array (Option Value)) (s0 t : Nat) {ae : List AE} (hI : Inv (s0 + 1134) ⟨d + 1113, dd + 1113, l + 1113, ep, lep, es, ps⟩ ae) (hx : xs[n]? = some (.int x xt)) (hk : x.fmod 5 = 2) (ho : heO ps (t + 11) none = none) (hh : hvs ((x.fdiv 5).fmod 4) ps = []) (hf : esFind es ((x.fdiv 5).fmod 4) = none) :
    Turn b c w (iTN2 (tW b c w).params xs as n t1 t2 t3 d l dd ep lep aep es ps x xt cv o (3 * ps.length) (2 * ps.length) u1 u2 u3 u4 u5 fep v1 v2 v3 v4 v5 ex sl s0 t) (jTN2 (tW b c w).params xs as n t1 t2 t3 d l dd ep lep aep es ps x xt cv o (3 * ps.length) (2 * ps.length) u1 u2 u3 u4 u5 fep v1 v2 v3 v4 v5 ex sl s0 t) (ps.map tpD) (nTN2 xs as n t1 t2 t3 d l dd ep lep aep es ps x xt cv o (3 * ps.length) (2 * ps.length) u1 u2 u3 u4 u5 fep v1 v2 v3 v4 v5 ex sl s0 t) [[], ps.map tpD] (s0 + 1134) t ((3 * ps.length) + (s0 + 1153)) (t + 11 + (2 * ps.length) + 12) := by
  obtain ⟨hp8, hz, hl, hls, hdl, hdn, hn, hn2⟩ := hI.parts
  have ok : OpsOk (mdl tP (tW b c w)) (KK (tW b c w)) (oTN2 (tW b c w).params xs as n t1 t2 t3 d l dd ep lep aep es ps x xt cv o (3 * ps.length) (2 * ps.length) u1 u2 u3 u4 u5 fep v1 v2 v3 v4 v5 ex sl s0 t) := ⟨fun cc sz tok _ _ => ⟨sLiNext_ok hx sz tok, nd0⟩,
    fun cc sz tok q1 q2 => ⟨Summ.at_ok (vHs hp8 hl hls hn ho (by rw [hh]; rfl) (by rw [hh]; rfl)) _ _ q1 q2, nd0⟩,
    fun cc sz tok _ _ => ⟨sEq_ok (by rw [hk]; rfl) cc sz tok, nd0⟩,
    fun cc sz tok _ _ => ⟨sEq_ok (by rw [hk]; rfl) cc sz tok, nd0⟩,
    fun cc sz tok _ _ => ⟨sEq_ok (by rw [hk]; rfl) cc sz tok, nd0⟩,
    fun cc sz tok _ _ => ⟨guard_ok fun hs => sGM_ok hf (Nat.le_add_left _ _) sz tok hs, ndG⟩,
    fun cc sz tok _ _ => ⟨sGetN_ok (by unfold esVal; rw [hf]; rfl) (notSys (Nat.le_add_left _ _)) sz tok, nd0⟩,
    fun cc sz tok _ _ => ⟨sHas_ok (by rw [hf]; rfl) (notSys (Nat.le_add_left _ _)) sz tok, nd0⟩,
    fun cc sz tok _ _ => ⟨sLsNe_ok rdINB rdINB rfl sz tok, nd0⟩, trivial⟩
  refine ⟨340, oTN2 (tW b c w).params xs as n t1 t2 t3 d l dd ep lep aep es ps x xt cv o (3 * ps.length) (2 * ps.length) u1 u2 u3 u4 u5 fep v1 v2 v3 v4 v5 ex sl s0 t, [], ok, ?_⟩
  intro k g lv fb0 pos pos' kp ca1 ps1 gens
  have r := @rTN2 b c w xs as n t1 t2 t3 d l dd ep lep aep es ps x xt cv o (3 * ps.length) (2 * ps.length) u1 u2 u3 u4 u5 fep v1 v2 v3 v4 v5 ex sl s0 t k g lv fb0 pos pos' kp ca1 ps1 gens
  exact r
theorem tkN4 (xs as : List Value) (n t1 t2 t3 d l dd ep lep aep : Nat) (es : List E) (ps : List (Nat × E)) (x : Int) (xt : Nat) (cv : Option Value) (o : Nat × Value × Nat × Value)  (u1 u2 u3 u4 u5 fep : Nat) (v1 v2 v3 v4 v5 : Value) (ex : List (Str × Nat × Value)) (sl : Array (Option Value))   (s0 t : Nat) {ae : List AE} (hI : Inv (s0 + 1134) ⟨d + 1113, dd + 1113, l + 1113, ep, lep, es, ps⟩ ae) (hx : xs[n]? = some (.int x xt)) (hk : x.fmod 5 = 4) (ho : heO ps (t + 11) none = none) (ha : as.length ≤ 64) :
    Turn b c w (iTN4 (tW b c w).params xs as n t1 t2 t3 d l dd ep lep aep es ps x xt cv o (3 * ps.length) (2 * ps.length) u1 u2 u3 u4 u5 fep v1 v2 v3 v4 v5 ex sl ((hvs ((x.fdiv 5).fmod 4) ps).map fun e => Value.int e.2.v e.2.u) (hvs ((x.fdiv 5).fmod 4) ps).length s0 t) (jTN4 (tW b c w).params xs as n t1 t2 t3 d l dd ep lep aep es ps x xt cv o (3 * ps.length) (2 * ps.length) u1 u2 u3 u4 u5 fep v1 v2 v3 v4 v5 ex sl ((hvs ((x.fdiv 5).fmod 4) ps).map fun e => Value.int e.2.v e.2.u) (hvs ((x.fdiv 5).fmod 4) ps).length s0 t) (ps.map tpD) (nTN4 xs as n t1 t2 t3 d l dd ep lep aep es ps x xt cv o (3 * ps.length) (2 * ps.length) u1 u2 u3 u4 u5 fep v1 v2 v3 v4 v5 ex sl ((hvs ((x.fdiv 5).fmod 4) ps).map fun e => Value.int e.2.v e.2.u) (hvs ((x.fdiv 5).fmod 4) ps).length s0 t) [[], ps.map tpD] (s0 + 1134) t ((3 * ps.length) + (s0 + 1160)) (t + 11 + (2 * ps.length) + 5 + 23 + 1) := by
  obtain ⟨hp8, hz, hl, hls, hdl, hdn, hn, hn2⟩ := hI.parts
  have ok : OpsOk (mdl tP (tW b c w)) (KK (tW b c w)) (oTN4 (tW b c w).params xs as n t1 t2 t3 d l dd ep lep aep es ps x xt cv o (3 * ps.length) (2 * ps.length) u1 u2 u3 u4 u5 fep v1 v2 v3 v4 v5 ex sl ((hvs ((x.fdiv 5).fmod 4) ps).map fun e => Value.int e.2.v e.2.u) (hvs ((x.fdiv 5).fmod 4) ps).length s0 t) := ⟨fun cc sz tok _ _ => ⟨sLiNext_ok hx sz tok, nd0⟩,
    fun cc sz tok q1 q2 => ⟨Summ.at_ok (vHs hp8 hl hls hn ho rfl rfl) _ _ q1 q2, nd0⟩,
    fun cc sz tok _ _ => ⟨sEq_ok (by rw [hk]; rfl) cc sz tok, nd0⟩,
    fun cc sz tok _ _ => ⟨sEq_ok (by rw [hk]; rfl) cc sz tok, nd0⟩,
    fun cc sz tok _ _ => ⟨sEq_ok (by rw [hk]; rfl) cc sz tok, nd0⟩,
    fun cc sz tok _ _ => ⟨sEq_ok (by rw [hk]; rfl) cc sz tok, nd0⟩,
    fun cc sz tok _ _ => ⟨sApp_ok ha sz tok, nd0⟩,
    fun cc sz tok q1 q2 => ⟨Summ.at_ok (sCp_ok (d := d + 1113) (dd := dd + 1113) hI.cd.len8 hI.cd.good.1 (nd2 (show d + 1113 ≠ dd + 1113 from hI.cd.n1)) (all_cons (Nat.le_add_left _ _) (all_cons (Nat.le_add_left _ _) all_nil)) _ _ (by omega) (all_cons (by omega) (all_cons (by omega) all_nil))) _ _ q1 q2, nd12⟩, trivial⟩
  refine ⟨247, oTN4 (tW b c w).params xs as n t1 t2 t3 d l dd ep lep aep es ps x xt cv o (3 * ps.length) (2 * ps.length) u1 u2 u3 u4 u5 fep v1 v2 v3 v4 v5 ex sl ((hvs ((x.fdiv 5).fmod 4) ps).map fun e => Value.int e.2.v e.2.u) (hvs ((x.fdiv 5).fmod 4) ps).length s0 t, [15, 16, 17], ok, ?_⟩
  intro k g lv fb0 pos pos' kp ca1 ps1 gens
  have r := @rTN4 b c w xs as n t1 t2 t3 d l dd ep lep aep es ps x xt cv o (3 * ps.length) (2 * ps.length) u1 u2 u3 u4 u5 fep v1 v2 v3 v4 v5 ex sl ((hvs ((x.fdiv 5).fmod 4) ps).map fun e => Value.int e.2.v e.2.u) (hvs ((x.fdiv 5).fmod 4) ps).length s0 t k g lv fb0 pos pos' kp ca1 ps1 gens
  exact r
theorem tkN3 (xs as : List Value) (n t1 t2 t3 d l dd ep lep aep : Nat) (es : List E) (ps : List (Nat × E)) (x : Int) (xt : Nat) (cv : Option Value) (o : Nat × Value × Nat × Value)  (u1 u2 u3 u4 u5 fep : Nat) (v1 v2 v3 v4 v5 : Value) (ex : List (Str × Nat × Value)) (sl : Array (Option Value)) (o1 : Option (Nat × Value))   (s0 t : Nat) {ae : List AE} (hI : Inv (s0 + 1134) ⟨d + 1113, dd + 1113, l + 1113, ep, lep, es, ps⟩ ae) (hx : xs[n]? = some (.int x xt)) (hk : x.fmod 5 = 3) (ho : heO ps (t + 11) none = none) (hh : hvs ((x.fdiv 5).fmod 4) ps = []) (hf : esFind es ((x.fdiv 5).fmod 4) = none) (ho1 : wiO ps ((t + 11 + (2 * ps.length) + 7) + 1) none = o1) :
    Turn b c w (iTN3 (tW b c w).params xs as n t1 t2 t3 d l dd ep lep aep es ps x xt cv o (3 * ps.length) (2 * ps.length) u1 u2 u3 u4 u5 fep v1 v2 v3 v4 v5 ex sl o1 ((wos ((x.fdiv 5).fmod 4) ps).map rfD) (wos ((x.fdiv 5).fmod 4) ps).length 0 (2 * ps.length) s0 t) (jTN3 (tW b c w).params xs as n t1 t2 t3 d l dd ep lep aep es ps x xt cv o (3 * ps.length) (2 * ps.length) u1 u2 u3 u4 u5 fep v1 v2 v3 v4 v5 ex sl o1 ((wos ((x.fdiv 5).fmod 4) ps).map rfD) (wos ((x.fdiv 5).fmod 4) ps).length 0 (2 * ps.length) s0 t) (ps.map tpD) (nTN3 xs as n t1 t2 t3 d l dd ep lep aep es ps x xt cv o (3 * ps.length) (2 * ps.length) u1 u2 u3 u4 u5 fep v1 v2 v3 v4 v5 ex sl o1 ((wos ((x.fdiv 5).fmod 4) ps).map rfD) (wos ((x.fdiv 5).fmod 4) ps).length 0 (2 * ps.length) s0 t) [[], [], ps.map tpD] (s0 + 1134) t (0 + ((3 * ps.length) + (s0 + 1154))) (t + 11 + (2 * ps.length) + 7 + ((2 * ps.length) + 1) + 1) := by
  obtain ⟨hp8, hz, hl, hls, hdl, hdn, hn, hn2⟩ := hI.parts
  have ok : OpsOk (mdl tP (tW b c w)) (KK (tW b c w)) (oTN3 (tW b c w).params xs as n t1 t2 t3 d l dd ep lep aep es ps x xt cv o (3 * ps.length) (2 * ps.length) u1 u2 u3 u4 u5 fep v1 v2 v3 v4 v5 ex sl o1 ((wos ((x.fdiv 5).fmod 4) ps).map rfD) (wos ((x.fdiv 5).fmod 4) ps).length 0 (2 * ps.length) s0 t) := ⟨fun cc sz tok _ _ => ⟨sLiNext_ok hx sz tok, nd0⟩,
    fun cc sz tok q1 q2 => ⟨Summ.at_ok (vHs hp8 hl hls hn ho (by rw [hh]; rfl) (by rw [hh]; rfl)) _ _ q1 q2, nd0⟩,
    fun cc sz tok _ _ => ⟨sEq_ok (by rw [hk]; rfl) cc sz tok, nd0⟩,
    fun cc sz tok _ _ => ⟨sEq_ok (by rw [hk]; rfl) cc sz tok, nd0⟩,
    fun cc sz tok _ _ => ⟨sEq_ok (by rw [hk]; rfl) cc sz tok, nd0⟩,
    fun cc sz tok _ _ => ⟨sEq_ok (by rw [hk]; rfl) cc sz tok, nd0⟩,
    fun cc sz tok _ _ => ⟨sPopM_ok hf (Nat.le_add_left _ _) sz tok, nd01⟩,
    fun cc sz tok q1 q2 => ⟨Summ.at_ok (vWo hp8 (Nat.le_add_left _ _) (by omega) (hn2 (by omega)) ho1) _ _ q1 q2, ndS⟩, trivial⟩
  refine ⟨286, oTN3 (tW b c w).params xs as n t1 t2 t3 d l dd ep lep aep es ps x xt cv o (3 * ps.length) (2 * ps.length) u1 u2 u3 u4 u5 fep v1 v2 v3 v4 v5 ex sl o1 ((wos ((x.fdiv 5).fmod 4) ps).map rfD) (wos ((x.fdiv 5).fmod 4) ps).length 0 (2 * ps.length) s0 t, [19], ok, ?_⟩
  intro k g lv fb0 pos pos' kp ca1 ps1 gens
  have r := @rTN3 b c w xs as n t1 t2 t3 d l dd ep lep aep es ps x xt cv o (3 * ps.length) (2 * ps.length) u1 u2 u3 u4 u5 fep v1 v2 v3 v4 v5 ex sl o1 ((wos ((x.fdiv 5).fmod 4) ps).map rfD) (wos ((x.fdiv 5).fmod 4) ps).length 0 (2 * ps.length) s0 t k g lv fb0 pos pos' kp ca1 ps1 gens
  exact r
end Mine
set_option linter.all false
namespace Mine
open PySem PySem.W
variable {b c : Bool} {w : World}
theorem nmc {a b : Nat} {l : List Nat} (h : a ≠ b) (t : a ∉ l) : a ∉ b :: l := fun z => (List.mem_cons.mp z).elim h t
theorem nmn {a : Nat} : a ∉ ([] : List Nat) := List.not_mem_nil
theorem ndc {a : Nat} {l : List Nat} (h : a ∉ l) (t : l.Nodup) : (a :: l).Nodup := List.nodup_cons.mpr ⟨h, t⟩
theorem Adr.far {x y : Nat} (h : Adr y) (hx : x < 1114 ∨ x = 1115) : x ≠ y := by unfold Adr at h; omega
theorem far_c {x k : Nat} (hx : x < 1114 ∨ x = 1115) (h : 1115 < k) : x ≠ k := by omega
theorem far_4 {x : Nat} (hx : x < 1114 ∨ x = 1115) : x ≠ 1114 := by omega
structure Step (b c : Bool) (w : World) (xs : List Value) (t1 t2 t3 : Nat) (S S' : LS) : Prop where
  n : S'.n = S.n + 1
  ok : S'.Ok
  nf : S'.fr ≠ .N
  turn : ∃ es ep NW FF, Turn b c w (S.I (tW b c w).params xs t1 t2 t3) (S.J (tW b c w).params xs t1 t2 t3 S' es ep) (S.G.ps.map tpD) NW FF S.sz S.tok S'.sz S'.tok ∧
    ∀ q ∈ S'.all, q ∈ S.J (tW b c w).params xs t1 t2 t3 S' es ep ∨ q ∈ NW ∨ (∃ l ∈ FF, q ∈ l) ∨ (q ∈ S.all ∧ q.1 ≠ S.G.d)
theorem memA {a a' : Nat} {o : Obj} {r : List (Nat × Obj)} (h : a = a') : (a', o) ∈ (a, o) :: r := by subst h; exact m0
theorem Inv.d {sz : Nat} {G : Cur} {as : List AE} (h : Inv sz G as) : Adr G.d ∧ G.d < sz := h.lt (G.d, _) (List.mem_append_left _ m0)
theorem Inv.dd {sz : Nat} {G : Cur} {as : List AE} (h : Inv sz G as) : Adr G.dd ∧ G.dd < sz := h.lt (G.dd, _) (List.mem_append_left _ (mt m0))
theorem Inv.l {sz : Nat} {G : Cur} {as : List AE} (h : Inv sz G as) : Adr G.l ∧ G.l < sz := h.lt (G.l, _) (List.mem_append_left _ (mt (mt m0)))
theorem Inv.p {sz : Nat} {G : Cur} {as : List AE} (h : Inv sz G as) : ∀ q ∈ G.ps.map tpD, Adr q.1 ∧ q.1 < sz := fun q hq => h.lt q (List.mem_append_right _ hq)
theorem mem_flat {as : List AE} {q : Nat × Obj} (h : q ∈ as.flatMap AE.objs) : ∃ a ∈ as, q ∈ a.objs := List.mem_flatMap.mp h
theorem LS.all_G {S : LS} {q : Nat × Obj} (h : q ∈ S.G.objs) : q ∈ S.all := List.mem_append_left _ h
theorem LS.all_a {S : LS} {q : Nat × Obj} {a : AE} (ha : a ∈ S.as) (h : q ∈ a.objs) : q ∈ S.all := List.mem_append_right _ (List.mem_flatMap.mpr ⟨a, ha, h⟩)
theorem objs_cases {G : Cur} {q : Nat × Obj} (h : q ∈ G.objs) : q = (G.d, dObj clsC (some G.dd) G.es G.ep) ∨ q = (G.dd, dObj clsD none [] 0) ∨ q = (G.l, lsObj (G.ps.map rfD) G.lep) ∨ q ∈ G.ps.map tpD := by
  rcases List.mem_append.mp h with h | h
  · rcases List.mem_cons.mp h with h | h
    · exact .inl h
    rcases List.mem_cons.mp h with h | h
    · exact .inr (.inl h)
    exact .inr (.inr (.inl (List.mem_singleton.mp h)))
  · exact .inr (.inr (.inr h))
/-- the address of an object of the Counter, its own apart, is another -/
theorem objs_ne {G : Cur} (hc : Cd G) {q : Nat × Obj} (h : q ∈ G.objs) : q = (G.d, dObj clsC (some G.dd) G.es G.ep) ∨ q.1 ≠ G.d := by
  rcases objs_cases h with h | h | h | h
  · exact .inl h
  · exact .inr (h ▸ fun z => hc.n1 z.symm)
  · exact .inr (h ▸ fun z => hc.n2 z.symm)
  · exact .inr (hc.np q h).1
theorem LS.Ok.adr {S : LS} (hS : S.Ok) : ∀ q ∈ S.all, Adr q.1 ∧ q.1 < S.sz := fun q hq => by
  rcases List.mem_append.mp hq with h | h
  · exact hS.inv.lt q h
  · obtain ⟨a, ha, h⟩ := mem_flat h
    exact ⟨((hS.inv.al a ha).2 q h).1, ((hS.inv.al a ha).2 q h).2.1⟩
theorem adr_of {x sz : Nat} (h : 1134 ≤ sz) (h1 : sz ≤ x) : Adr x := .inl (Nat.le_trans h h1)
section
variable {xs : List Value} {t1 t2 t3 : Nat} {S : LS} {NW : List (Nat × Obj)} {FF : List (List (Nat × Obj))}
/-- the list of pairs is a new one -/
theorem stepL (hS : S.Ok) {l' lep' ep' sz' tok' : Nat} {es' : List E} {ps' : List (Nat × E)} {fr' : Fr} {cv' : Option Value} (hs : kvp ps' = kve es') (hg : Good 4 es') (h1 : S.sz ≤ l') (h2 : l' < sz') (hfr : fr' ≠ .N)
    (hNW : (l', lsObj (ps'.map rfD) lep') ∈ NW) (hps : ∀ q ∈ ps'.map tpD, q ∈ S.G.ps.map tpD ∨ (S.sz ≤ q.1 ∧ q.1 < sz' ∧ q.1 ≠ l' ∧ (q ∈ NW ∨ ∃ l ∈ FF, q ∈ l)))
    (T : Turn b c w (S.I (tW b c w).params xs t1 t2 t3) (S.J (tW b c w).params xs t1 t2 t3 ⟨S.n + 1, ⟨S.G.d, S.G.dd, l', ep', lep', es', ps'⟩, fr', cv', S.as, S.aep, sz', tok'⟩ es' ep') (S.G.ps.map tpD) NW FF S.sz S.tok sz' tok') :
    Step b c w xs t1 t2 t3 S ⟨S.n + 1, ⟨S.G.d, S.G.dd, l', ep', lep', es', ps'⟩, fr', cv', S.as, S.aep, sz', tok'⟩ := by
  have hI := hS.inv
  have cd := hI.cd
  have hd := hI.d
  have hdd := hI.dd
  have big := hI.big
  have np : ∀ q ∈ ps'.map tpD, q.1 ≠ S.G.d ∧ q.1 ≠ l' ∧ q.1 ≠ S.G.dd := fun q hq => by
    rcases hps q hq with h | ⟨a1, a2, a3, _⟩
    · have h3 := cd.np q h
      have h4 := hI.p q h
      exact ⟨h3.1, by omega, h3.2.2⟩
    · exact ⟨by omega, a3, by omega⟩
  refine ⟨rfl, ⟨⟨⟨hs, hg, cd.n1, by show S.G.d ≠ l'; omega, by show l' ≠ S.G.dd; omega, np⟩, fun q hq => ?_, by show 1134 ≤ sz'; omega, fun a ha => ⟨(hI.al a ha).1, fun q hq => ?_⟩⟩, Nat.le_succ_of_le hS.len, fun z => absurd z hfr⟩, hfr, es', ep', NW, FF, T, fun q hq => ?_⟩
  · rcases objs_cases hq with h | h | h | h
    · subst h; exact ⟨hd.1, by show S.G.d < sz'; omega⟩
    · subst h; exact ⟨hdd.1, by show S.G.dd < sz'; omega⟩
    · subst h; exact ⟨adr_of big h1, h2⟩
    · rcases hps q h with h | ⟨a1, a2, a3, _⟩
      · exact ⟨(hI.p q h).1, by have := (hI.p q h).2; show q.1 < sz'; omega⟩
      · exact ⟨adr_of big a1, a2⟩
  · have h := (hI.al a ha).2 q hq
    exact ⟨h.1, by have := h.2.1; show q.1 < sz'; omega, h.2.2⟩
  · rcases List.mem_append.mp hq with hq | hq
    · rcases objs_cases hq with h | h | h | h
      · subst h; exact .inl (mt (mt (mt (mt m0))))
      · subst h; exact .inl (mt (mt (mt (mt (mt (mt (mt m0)))))))
      · subst h; exact .inr (.inl hNW)
      · rcases hps q h with h | ⟨a1, a2, a3, a4⟩
        · exact .inr (.inr (.inr ⟨LS.all_G (List.mem_append_right _ h), (cd.np q h).1⟩))
        · rcases a4 with a4 | a4
          · exact .inr (.inl a4)
          · exact .inr (.inr (.inl a4))
    · obtain ⟨a, ha, h⟩ := mem_flat hq
      exact .inr (.inr (.inr ⟨LS.all_a ha h, ((hI.al a ha).2 q h).2.2⟩))
/-- nothing but the frame is another -/
theorem stepS (hS : S.Ok) {sz' tok' : Nat} {fr' : Fr} {cv' : Option Value} (h1 : S.sz ≤ sz') (hfr : fr' ≠ .N)
    (T : Turn b c w (S.I (tW b c w).params xs t1 t2 t3) (S.J (tW b c w).params xs t1 t2 t3 ⟨S.n + 1, S.G, fr', cv', S.as, S.aep, sz', tok'⟩ S.G.es S.G.ep) (S.G.ps.map tpD) NW FF S.sz S.tok sz' tok') :
    Step b c w xs t1 t2 t3 S ⟨S.n + 1, S.G, fr', cv', S.as, S.aep, sz', tok'⟩ := by
  have hI := hS.inv
  refine ⟨rfl, ⟨⟨hI.cd, fun q hq => ⟨(hI.lt q hq).1, Nat.lt_of_lt_of_le (hI.lt q hq).2 h1⟩, Nat.le_trans hI.big h1, fun a ha => ⟨(hI.al a ha).1, fun q hq => ⟨((hI.al a ha).2 q hq).1, Nat.lt_of_lt_of_le ((hI.al a ha).2 q hq).2.1 h1, ((hI.al a ha).2 q hq).2.2⟩⟩⟩, Nat.le_succ_of_le hS.len, fun z => absurd z hfr⟩, hfr, S.G.es, S.G.ep, NW, FF, T, fun q hq => ?_⟩
  rcases List.mem_append.mp hq with hq | hq
  · rcases objs_ne hI.cd hq with h | h
    · subst h; exact .inl (mt (mt (mt (mt m0))))
    · exact .inr (.inr (.inr ⟨LS.all_G hq, h⟩))
  · obtain ⟨a, ha, h⟩ := mem_flat hq
    exact .inr (.inr (.inr ⟨LS.all_a ha h, ((hI.al a ha).2 q h).2.2⟩))
/-- the Counter is laid aside -/
theorem stepC (hS : S.Ok) {ta dd' d' ep' sz' tok' : Nat} {fr' : Fr} {cv' : Option Value} (h1 : S.sz ≤ ta) (h2 : ta < dd') (h3 : dd' < d') (h4 : d' < sz') (hfr : fr' ≠ .N)
    (k1 : (ta, tupObj [.ref S.G.d, .ref S.G.l]) ∈ NW) (k2 : (dd', dObj clsD none [] 0) ∈ NW) (k3 : (d', dObj clsC (some dd') S.G.es ep') ∈ NW)
    (T : Turn b c w (S.I (tW b c w).params xs t1 t2 t3) (S.J (tW b c w).params xs t1 t2 t3 ⟨S.n + 1, ⟨d', dd', S.G.l, ep', S.G.lep, S.G.es, S.G.ps⟩, fr', cv', S.as ++ [⟨ta, S.G⟩], S.aep + 1, sz', tok'⟩ S.G.es S.G.ep) (S.G.ps.map tpD) NW FF S.sz S.tok sz' tok') :
    Step b c w xs t1 t2 t3 S ⟨S.n + 1, ⟨d', dd', S.G.l, ep', S.G.lep, S.G.es, S.G.ps⟩, fr', cv', S.as ++ [⟨ta, S.G⟩], S.aep + 1, sz', tok'⟩ := by
  have hI := hS.inv
  have cd := hI.cd
  have hd := hI.d
  have hdd := hI.dd
  have hl := hI.l
  have big := hI.big
  refine ⟨rfl, ⟨⟨⟨cd.same, cd.good, by show d' ≠ dd'; omega, by show d' ≠ S.G.l; omega, by show S.G.l ≠ dd'; omega, fun q hq => ?_⟩, fun q hq => ?_, by show 1134 ≤ sz'; omega, fun a ha => ?_⟩, ?_, fun z => absurd z hfr⟩, hfr, S.G.es, S.G.ep, NW, FF, T, fun q hq => ?_⟩
  · have h := hI.p q hq
    exact ⟨by show q.1 ≠ d'; omega, (cd.np q hq).2.1, by show q.1 ≠ dd'; omega⟩
  · rcases objs_cases hq with h | h | h | h
    · subst h; exact ⟨adr_of big (by show S.sz ≤ d'; omega), h4⟩
    · subst h; exact ⟨adr_of big (by show S.sz ≤ dd'; omega), by show dd' < sz'; omega⟩
    · subst h; exact ⟨hl.1, by show S.G.l < sz'; omega⟩
    · have h := hI.p q h
      exact ⟨h.1, by show q.1 < sz'; omega⟩
  · rcases List.mem_append.mp ha with ha | ha
    · refine ⟨(hI.al a ha).1, fun q hq => ?_⟩
      have h := (hI.al a ha).2 q hq
      exact ⟨h.1, by show q.1 < sz'; omega, by show q.1 ≠ d'; omega⟩
    · obtain rfl := List.mem_singleton.mp ha
      refine ⟨cd, fun q hq => ?_⟩
      rcases List.mem_cons.mp hq with h | h
      · subst h; exact ⟨adr_of big h1, by show ta < sz'; omega, by show ta ≠ d'; omega⟩
      · have h := hI.lt q h
        exact ⟨h.1, by show q.1 < sz'; omega, by show q.1 ≠ d'; omega⟩
  · have := hS.len
    show (S.as ++ [_]).length ≤ S.n + 1
    rw [List.length_append, List.length_singleton]
    omega
  · rcases List.mem_append.mp hq with hq | hq
    · rcases objs_cases hq with h | h | h | h
      · subst h; exact .inr (.inl k3)
      · subst h; exact .inr (.inl k2)
      · subst h; exact .inr (.inr (.inr ⟨LS.all_G (List.mem_append_left _ (mt (mt m0))), fun z => cd.n2 z.symm⟩))
      · exact .inr (.inr (.inr ⟨LS.all_G (List.mem_append_right _ h), (cd.np q h).1⟩))
    · obtain ⟨a, ha, h⟩ := mem_flat hq
      rcases List.mem_append.mp ha with ha | ha
      · exact .inr (.inr (.inr ⟨LS.all_a ha h, ((hI.al a ha).2 q h).2.2⟩))
      · obtain rfl := List.mem_singleton.mp ha
        rcases List.mem_cons.mp h with h | h
        · subst h; exact .inr (.inl k1)
        · rcases objs_ne cd h with h1 | h1
          · subst h1; exact .inl (mt (mt (mt (mt m0))))
          · exact .inr (.inr (.inr ⟨LS.all_G h, h1⟩))
end
/-- what the heap holds where the loop stands -/
structure Holds (P : Params) (xs : List Value) (t1 t2 t3 : Nat) (h : Heap) (S : LS) : Prop where
  i : ∀ q ∈ S.I P xs t1 t2 t3, h.get? q.1 = some q.2
  all : ∀ q ∈ S.all, h.get? q.1 = some q.2
  sz : h.objs.size = S.sz
theorem LS.Ok.nd {S : LS} (hS : S.Ok) {P : Params} {xs : List Value} {t1 t2 t3 : Nat} : ((S.I P xs t1 t2 t3).map (·.1)).Nodup := by
  show [1133, 1113, 1114, 1116, S.G.d, S.G.l, 1128, S.G.dd].Nodup
  obtain ⟨a1, a2, a3, a4, a5⟩ := hS.inv.d.1.ne
  obtain ⟨b1, b2, b3, b4, b5⟩ := hS.inv.l.1.ne
  obtain ⟨c1, c2, c3, c4, c5⟩ := hS.inv.dd.1.ne
  exact ndc (nmc (by decide) (nmc (by decide) (nmc (by decide) (nmc a1.symm (nmc b1.symm (nmc (by decide) (nmc c1.symm nmn))))))) (ndc (nmc (by decide) (nmc (by decide) (nmc a2.symm (nmc b2.symm (nmc (by decide) (nmc c2.symm nmn)))))) (ndc (nmc (by decide) (nmc a3.symm (nmc b3.symm (nmc (by decide) (nmc c3.symm nmn))))) (ndc (nmc a4.symm (nmc b4.symm (nmc (by decide) (nmc c4.symm nmn)))) (ndc (nmc hS.inv.cd.n2 (nmc a5 (nmc hS.inv.cd.n1 nmn))) (ndc (nmc b5 (nmc hS.inv.cd.n3 nmn)) (ndc (nmc c5.symm nmn) (ndc nmn List.nodup_nil)))))))
/-- a place beside the slots -/
theorem LS.not_mem {S : LS} {P : Params} {xs : List Value} {t1 t2 t3 x : Nat} (h : Adr x) (h1 : x ≠ S.G.d) (h2 : x ≠ S.G.l) (h3 : x ≠ S.G.dd) : x ∉ (S.I P xs t1 t2 t3).map (·.1) := by
  show x ∉ [1133, 1113, 1114, 1116, S.G.d, S.G.l, 1128, S.G.dd]
  obtain ⟨a1, a2, a3, a4, a5⟩ := h.ne
  exact nmc a1 (nmc a2 (nmc a3 (nmc a4 (nmc h1 (nmc h2 (nmc a5 (nmc h3 nmn)))))))
theorem Step.heap {xs : List Value} {t1 t2 t3 : Nat} {S S' : LS} (hS : S.Ok) (H : Step b c w xs t1 t2 t3 S S')
    {s : Shared} {k : Result → Sem PySem.Fin} {g : Bool} {lv : List Value} {fb0 : List Stmt} {pos pos' : Pos} {kp : List Value} {ca1 : Args} {ps1 : Pos} {st : List Frame} (hW : st.map Frame.where_ = [((.builtin "claim.caller" ca1), ps1)]) (hb : topHandled st = none)
    (hK : ∀ a o, KK (tW b c w) a = some o → s.heap.get? a = some o) (hh : Holds (tW b c w).params xs t1 t2 t3 s.heap S) (ht : s.toks = S.tok) :
    ∃ h' pos'', Comes (mdl tP (tW b c w)) s ⟨tD cLaw, cLaw, pos', .ret k none g lv (.func fb0 envL) pos kp :: st⟩ { s with heap := h', toks := S'.tok } ⟨tD cLaw, cLaw, pos'', .ret k none g lv (.func fb0 envL) pos kp :: st⟩ ∧
      Holds (tW b c w).params xs t1 t2 t3 h' S' ∧ ∀ (x : Nat) o, s.heap.get? x = some o → (x < 1114 ∨ x = 1115) → h'.get? x = some o := by
  obtain ⟨hn, hok, _, es, ep, NW, FF, T, hall⟩ := H
  have hI := hS.inv
  obtain ⟨h', pos'', C, c1, c2, c3, c4, c5⟩ := T.heap rfl hS.nd rfl (all_cons (by show 1113 ≤ 1133; decide) (all_cons (by show 1113 ≤ 1113; decide) (all_cons (by show 1113 ≤ 1114; decide) (all_cons (by show 1113 ≤ 1116; decide) (all_cons hI.d.1.ge (all_cons hI.l.1.ge (all_cons (by show 1113 ≤ 1128; decide) (all_cons hI.dd.1.ge all_nil))))))))
    (fun q hq => LS.not_mem (hI.p q hq).1 (hI.cd.np q hq).1 (hI.cd.np q hq).2.1 (hI.cd.np q hq).2.2) (k := k) (g := g) (lv := lv) (fb0 := fb0) (pos := pos) (pos' := pos') (kp := kp) hW hb hK hh.i (fun q hq => hh.all q (LS.all_G (List.mem_append_right _ hq))) hh.sz ht
  have all' : ∀ q ∈ S'.all, h'.get? q.1 = some q.2 := fun q hq => by
    rcases hall q hq with h | h | ⟨l, hl, h⟩ | ⟨h, hd⟩
    · exact c2 q h
    · exact c3 q h
    · exact c4 l hl q h
    · have hq2 := hh.all q h
      have ha := hS.adr q h
      by_cases e1 : q.1 = S.G.l
      · have : s.heap.get? q.1 = some (lsObj (S.G.ps.map rfD) S.G.lep) := e1 ▸ hh.i (S.G.l, _) (mt (mt (mt (mt (mt m0)))))
        rw [hq2] at this
        rw [this, e1]
        exact c2 (S.G.l, _) (mt (mt (mt (mt (mt m0)))))
      by_cases e2 : q.1 = S.G.dd
      · have : s.heap.get? q.1 = some (dObj clsD none [] 0) := e2 ▸ hh.i (S.G.dd, _) (mt (mt (mt (mt (mt (mt (mt m0)))))))
        rw [hq2] at this
        rw [this, e2]
        exact c2 (S.G.dd, _) (mt (mt (mt (mt (mt (mt (mt m0)))))))
      exact c5 _ _ hq2 (LS.not_mem ha.1 hd e1 e2)
  refine ⟨h', pos'', C, ⟨?_, all', c1⟩, fun x o hx hlt => ?_⟩
  · have j0 := c2 (1133, liObj 1113 (S.n + 1)) m0
    rw [← hn] at j0
    exact all_cons j0 (all_cons (c2 (1113, _) (mt m0)) (all_cons (c2 (1114, _) (mt (mt m0))) (all_cons (c2 (1116, _) (mt (mt (mt m0)))) (all_cons (all' _ (LS.all_G (List.mem_append_left _ m0))) (all_cons (all' _ (LS.all_G (List.mem_append_left _ (mt (mt m0))))) (all_cons (c2 (1128, _) (mt (mt (mt (mt (mt (mt m0))))))) (all_cons (all' _ (LS.all_G (List.mem_append_left _ (mt m0)))) all_nil)))))))
  · by_cases e : x = 1113
    · subst e
      have := hh.i (1113, lsObj xs 0) (mt m0)
      rw [hx] at this
      rw [this]
      exact c2 (1113, _) (mt m0)
    refine c5 x o hx ?_
    show x ∉ [1133, 1113, 1114, 1116, S.G.d, S.G.l, 1128, S.G.dd]
    exact nmc (far_c hlt (by decide)) (nmc e (nmc (far_4 hlt) (nmc (far_c hlt (by decide)) (nmc (hI.d.1.far hlt) (nmc (hI.l.1.far hlt) (nmc (far_c hlt (by decide)) (nmc (hI.dd.1.far hlt) nmn)))))))
end Mine
set_option linter.all false
namespace Mine
open PySem PySem.W
variable {b c : Bool} {w : World}
theorem wos_sub {key : Int} {ps : List (Nat × E)} : ∀ q ∈ (wos key ps).map tpD, q ∈ ps.map tpD := fun q hq => by
  obtain ⟨x, hx, rfl⟩ := List.mem_map.mp hq
  exact List.mem_map.mpr ⟨x, (List.mem_filter.mp hx).1, rfl⟩
theorem asV_app {as : List AE} {ta : Nat} {G : Cur} : asV (as ++ [⟨ta, G⟩]) = asV as ++ [.ref ta] := by
  unfold asV
  rw [List.map_append]; rfl
theorem sp0h {xs : List Value} {n t1 t2 t3 d l dd ep lep aep : Nat} {es : List E} {ps : List (Nat × E)} {x : Int} {xt : Nat} {cv : Option Value} {as : List AE} {s0 t : Nat} {u1 u2 u3 u4 : Nat} {v1 v2 v3 v4 : Value} {tl : Tl} {o : Nat × Value × Nat × Value} {e : E} {p : Nat × E} {w1 w2 : Nat × Value} (hS : LS.Ok (⟨n, ⟨d + 1113, dd + 1113, l + 1113, ep, lep, es, ps⟩, (.S u1 v1 u2 v2 u3 v3 u4 v4 tl), cv, as, aep, s0 + 1134, t⟩ : LS)) (hx : xs[n]? = some (.int x xt)) (hk : x.fmod 5 = 0) (ho : heO ps (t + 11) none = some o) (hh : hvs ((x.fdiv 5).fmod 4) ps = [p]) (hf : esFind es ((x.fdiv 5).fmod 4) = some e) (hv : p.2.v = e.v) (ho1 : wiO ps ((t + 11 + (2 * ps.length) + 8) + 1) none = some w1) (ho2 : wiO ps ((t + 11 + (2 * ps.length) + 8) + 1 + 2 * ps.length) none = some w2) (hkv : ∀ kt cn ct z t u, kvp (wjR ((x.fdiv 5).fmod 4) kt cn ct ps z) = kve (esSet es ((x.fdiv 5).fmod 4) t cn u)) : ∃ S', Step b c w xs t1 t2 t3 (⟨n, ⟨d + 1113, dd + 1113, l + 1113, ep, lep, es, ps⟩, (.S u1 v1 u2 v2 u3 v3 u4 v4 tl), cv, as, aep, s0 + 1134, t⟩ : LS) S' := by
  exact ⟨_, stepL (S := (⟨n, ⟨d + 1113, dd + 1113, l + 1113, ep, lep, es, ps⟩, (.S u1 v1 u2 v2 u3 v3 u4 v4 tl), cv, as, aep, s0 + 1134, t⟩ : LS)) hS (l' := (0 + ((3 * ps.length) + (s0 + 1157)))) (lep' := ps.length) (ep' := (match esFind es ((x.fdiv 5).fmod 4) with | some _ => ep | none => ep + 1)) (es' := esSet es ((x.fdiv 5).fmod 4) (t + 6) (e.v + x.fdiv 20) (t + 11 + (2 * ps.length) + 3)) (ps' := wjR ((x.fdiv 5).fmod 4) (t + 6) (0 + p.2.v + x.fdiv 20) (t + 11 + (2 * ps.length) + 7) ps (0 + (((3 * ps.length) + (s0 + 1147)) + 12))) (fr' := (.S u1 (.int x xt) u2 (.int (x.fmod 5) (t + 2)) u3 (.int (x.fdiv 20) (t + 8)) u4 (.ref (s0 + 1139)) tl)) (cv' := (some (.int ((x.fdiv 5).fmod 4) (t + 6))))
    (by rw [show e.v + x.fdiv 20 = 0 + p.2.v + x.fdiv 20 by rw [hv]; omega]; exact hkv _ _ _ _ _ _) (hS.inv.cd.good.keys (esSet_keys hf)) (by show s0 + 1134 ≤ _; omega) (by omega) Fr.noConfusion (memA (by omega)) (fun q hq => (wjR_mem q hq).imp id fun h => ⟨(by have := wjF_ge q h; show s0 + 1134 ≤ _; omega), (by have := wjF_lt q h; rw [hh] at this; show q.1 < _; have e1 : [p].length = 1 := rfl; omega), (by have := wjF_ge q h; omega), .inr ⟨_, m0, h⟩⟩) (tk0h (b := b) (c := c) (w := w) xs (asV as) n t1 t2 t3 d l dd ep lep aep es ps x xt cv o u1 u2 u3 u4 0 tl.ep v1 v2 v3 v4 .none tl.ex tl.sl w1 w2 s0 t hS.inv hx hk ho hh hf hv ho1 ho2)⟩
theorem sp0ms {xs : List Value} {n t1 t2 t3 d l dd ep lep aep : Nat} {es : List E} {ps : List (Nat × E)} {x : Int} {xt : Nat} {cv : Option Value} {as : List AE} {s0 t : Nat} {u1 u2 u3 u4 : Nat} {v1 v2 v3 v4 : Value} {tl : Tl} {o : Nat × Value × Nat × Value} {o1 : Option (Nat × Value)} (hS : LS.Ok (⟨n, ⟨d + 1113, dd + 1113, l + 1113, ep, lep, es, ps⟩, (.S u1 v1 u2 v2 u3 v3 u4 v4 tl), cv, as, aep, s0 + 1134, t⟩ : LS)) (hk4 : 0 ≤ ((x.fdiv 5).fmod 4) ∧ ((x.fdiv 5).fmod 4) < 4) (hx : xs[n]? = some (.int x xt)) (hk : x.fmod 5 = 0) (ho : heO ps (t + 11) none = some o) (hh : hvs ((x.fdiv 5).fmod 4) ps = []) (hf : esFind es ((x.fdiv 5).fmod 4) = none) (ho1 : wiO ps ((t + 11 + (2 * ps.length) + 10) + 1) none = o1) : ∃ S', Step b c w xs t1 t2 t3 (⟨n, ⟨d + 1113, dd + 1113, l + 1113, ep, lep, es, ps⟩, (.S u1 v1 u2 v2 u3 v3 u4 v4 tl), cv, as, aep, s0 + 1134, t⟩ : LS) S' := by
  have hz : (ps.map rfD ++ [.ref (0 + (((3 * ps.length) + (s0 + 1148)) + 9))]) = ((ps ++ [((((3 * ps.length) + (s0 + 1148)) + (0 + 9)), (⟨((x.fdiv 5).fmod 4), t + 6, 0 + x.fdiv 20, t + 11 + (2 * ps.length) + 9⟩ : E))])).map rfD := by rw [List.map_append, Nat.zero_add]; rfl
  have hnf := esFind_not hf
  have e1 := esSet_new hf (t + 6) (0 + x.fdiv 20) (t + 11 + (2 * ps.length) + 6)
  exact ⟨_, stepL (S := (⟨n, ⟨d + 1113, dd + 1113, l + 1113, ep, lep, es, ps⟩, (.S u1 v1 u2 v2 u3 v3 u4 v4 tl), cv, as, aep, s0 + 1134, t⟩ : LS)) hS (l' := (0 + ((3 * ps.length) + (s0 + 1159)))) (lep' := 0) (ep' := (match esFind es ((x.fdiv 5).fmod 4) with | some _ => ep | none => ep + 1)) (es' := esSet es ((x.fdiv 5).fmod 4) (t + 6) (0 + x.fdiv 20) (t + 11 + (2 * ps.length) + 6)) (ps' := (ps ++ [((((3 * ps.length) + (s0 + 1148)) + (0 + 9)), (⟨((x.fdiv 5).fmod 4), t + 6, 0 + x.fdiv 20, t + 11 + (2 * ps.length) + 9⟩ : E))])) (fr' := (.S u1 (.int x xt) u2 (.int (x.fmod 5) (t + 2)) u3 (.int (x.fdiv 20) (t + 8)) u4 (.ref (s0 + 1139)) tl)) (cv' := (some (.int ((x.fdiv 5).fmod 4) (t + 6))))
    (by rw [e1]; unfold kvp kve; rw [List.map_append, List.map_append]; exact congrArg (· ++ _) hS.inv.cd.same) (by rw [e1]; exact hS.inv.cd.good.new hnf hk4.1 hk4.2) (by show s0 + 1134 ≤ _; omega) (by omega) Fr.noConfusion (by rw [← hz]; exact mt (memA (by omega))) (fun q hq => by
      rw [List.map_append] at hq
      exact (List.mem_append.mp hq).imp id fun h => by
        rw [List.mem_singleton.mp h]
        exact ⟨(by show s0 + 1134 ≤ (((3 * ps.length) + (s0 + 1148)) + (0 + 9)); omega), (by show (((3 * ps.length) + (s0 + 1148)) + (0 + 9)) < _; omega), (by show (((3 * ps.length) + (s0 + 1148)) + (0 + 9)) ≠ _; omega), .inl m0⟩) (tk0ms (b := b) (c := c) (w := w) xs (asV as) n t1 t2 t3 d l dd ep lep aep es ps x xt cv o u1 u2 u3 u4 0 tl.ep v1 v2 v3 v4 .none tl.ex tl.sl o1 s0 t hS.inv hx hk ho hh hf ho1)⟩
theorem sp1ms {xs : List Value} {n t1 t2 t3 d l dd ep lep aep : Nat} {es : List E} {ps : List (Nat × E)} {x : Int} {xt : Nat} {cv : Option Value} {as : List AE} {s0 t : Nat} {u1 u2 u3 u4 : Nat} {v1 v2 v3 v4 : Value} {tl : Tl} {o : Nat × Value × Nat × Value} {o1 : Option (Nat × Value)} (hS : LS.Ok (⟨n, ⟨d + 1113, dd + 1113, l + 1113, ep, lep, es, ps⟩, (.S u1 v1 u2 v2 u3 v3 u4 v4 tl), cv, as, aep, s0 + 1134, t⟩ : LS)) (hx : xs[n]? = some (.int x xt)) (hk : x.fmod 5 = 1) (ho : heO ps (t + 11) none = some o) (hh : hvs ((x.fdiv 5).fmod 4) ps = []) (hf : esFind es ((x.fdiv 5).fmod 4) = none) (ho1 : wiO ps ((t + 11 + (2 * ps.length) + 6) + 1) none = o1) (hw : wos ((x.fdiv 5).fmod 4) ps = ps) : ∃ S', Step b c w xs t1 t2 t3 (⟨n, ⟨d + 1113, dd + 1113, l + 1113, ep, lep, es, ps⟩, (.S u1 v1 u2 v2 u3 v3 u4 v4 tl), cv, as, aep, s0 + 1134, t⟩ : LS) S' := by
  exact ⟨_, stepL (S := (⟨n, ⟨d + 1113, dd + 1113, l + 1113, ep, lep, es, ps⟩, (.S u1 v1 u2 v2 u3 v3 u4 v4 tl), cv, as, aep, s0 + 1134, t⟩ : LS)) hS (l' := ((3 * ps.length) + (s0 + 1147))) (lep' := (wos ((x.fdiv 5).fmod 4) ps).length) (ep' := ep) (es' := es) (ps' := wos ((x.fdiv 5).fmod 4) ps) (fr' := (.S u1 (.int x xt) u2 (.int (x.fmod 5) (t + 2)) u3 (.int (x.fdiv 20) (t + 8)) u4 (.ref (s0 + 1139)) tl)) (cv' := (some (.int ((x.fdiv 5).fmod 4) (t + 6))))
    (by rw [hw]; exact hS.inv.cd.same) hS.inv.cd.good (by show s0 + 1134 ≤ _; omega) (by omega) Fr.noConfusion (memA rfl) (fun q hq => .inl (wos_sub q hq)) (tk1ms (b := b) (c := c) (w := w) xs (asV as) n t1 t2 t3 d l dd ep lep aep es ps x xt cv o u1 u2 u3 u4 0 tl.ep v1 v2 v3 v4 .none tl.ex tl.sl o1 s0 t hS.inv hx hk ho hh hf ho1)⟩
theorem sp2ms {xs : List Value} {n t1 t2 t3 d l dd ep lep aep : Nat} {es : List E} {ps : List (Nat × E)} {x : Int} {xt : Nat} {cv : Option Value} {as : List AE} {s0 t : Nat} {u1 u2 u3 u4 : Nat} {v1 v2 v3 v4 : Value} {tl : Tl} {o : Nat × Value × Nat × Value} (hS : LS.Ok (⟨n, ⟨d + 1113, dd + 1113, l + 1113, ep, lep, es, ps⟩, (.S u1 v1 u2 v2 u3 v3 u4 v4 tl), cv, as, aep, s0 + 1134, t⟩ : LS)) (hx : xs[n]? = some (.int x xt)) (hk : x.fmod 5 = 2) (ho : heO ps (t + 11) none = some o) (hh : hvs ((x.fdiv 5).fmod 4) ps = []) (hf : esFind es ((x.fdiv 5).fmod 4) = none) : ∃ S', Step b c w xs t1 t2 t3 (⟨n, ⟨d + 1113, dd + 1113, l + 1113, ep, lep, es, ps⟩, (.S u1 v1 u2 v2 u3 v3 u4 v4 tl), cv, as, aep, s0 + 1134, t⟩ : LS) S' := by
  exact ⟨_, stepS (S := (⟨n, ⟨d + 1113, dd + 1113, l + 1113, ep, lep, es, ps⟩, (.S u1 v1 u2 v2 u3 v3 u4 v4 tl), cv, as, aep, s0 + 1134, t⟩ : LS)) hS (fr' := (.S u1 (.int x xt) u2 (.int (x.fmod 5) (t + 2)) u3 (.int (x.fdiv 20) (t + 8)) u4 (.ref (s0 + 1139)) tl)) (cv' := (some (.int ((x.fdiv 5).fmod 4) (t + 6))))
    (by show s0 + 1134 ≤ _; omega) Fr.noConfusion (tk2ms (b := b) (c := c) (w := w) xs (asV as) n t1 t2 t3 d l dd ep lep aep es ps x xt cv o u1 u2 u3 u4 0 tl.ep v1 v2 v3 v4 .none tl.ex tl.sl s0 t hS.inv hx hk ho hh hf)⟩
theorem sp4s {xs : List Value} {n t1 t2 t3 d l dd ep lep aep : Nat} {es : List E} {ps : List (Nat × E)} {x : Int} {xt : Nat} {cv : Option Value} {as : List AE} {s0 t : Nat} {u1 u2 u3 u4 : Nat} {v1 v2 v3 v4 : Value} {tl : Tl} {o : Nat × Value × Nat × Value} (hS : LS.Ok (⟨n, ⟨d + 1113, dd + 1113, l + 1113, ep, lep, es, ps⟩, (.S u1 v1 u2 v2 u3 v3 u4 v4 tl), cv, as, aep, s0 + 1134, t⟩ : LS)) (hx : xs[n]? = some (.int x xt)) (hk : x.fmod 5 = 4) (ho : heO ps (t + 11) none = some o) (ha : (asV as).length ≤ 64) : ∃ S', Step b c w xs t1 t2 t3 (⟨n, ⟨d + 1113, dd + 1113, l + 1113, ep, lep, es, ps⟩, (.S u1 v1 u2 v2 u3 v3 u4 v4 tl), cv, as, aep, s0 + 1134, t⟩ : LS) S' := by
  have hJ : (jT4s (tW b c w).params xs (asV as) n t1 t2 t3 d l dd ep lep aep es ps x xt cv o (3 * ps.length) (2 * ps.length) u1 u2 u3 u4 0 tl.ep v1 v2 v3 v4 .none tl.ex tl.sl ((hvs ((x.fdiv 5).fmod 4) ps).map fun e => Value.int e.2.v e.2.u) (hvs ((x.fdiv 5).fmod 4) ps).length s0 t) = LS.J (tW b c w).params xs t1 t2 t3 (⟨n, ⟨d + 1113, dd + 1113, l + 1113, ep, lep, es, ps⟩, (.S u1 v1 u2 v2 u3 v3 u4 v4 tl), cv, as, aep, s0 + 1134, t⟩ : LS) ⟨n + 1, ⟨((3 * ps.length) + (s0 + 1146)), ((3 * ps.length) + (s0 + 1145)), l + 1113, es.length, lep, es, ps⟩, (.S u1 (.int x xt) u2 (.int (x.fmod 5) (t + 2)) u3 (.int (x.fdiv 20) (t + 8)) u4 (.ref (s0 + 1139)) tl), (some (.int ((x.fdiv 5).fmod 4) (t + 6))), as ++ [⟨((3 * ps.length) + (s0 + 1143)), ⟨d + 1113, dd + 1113, l + 1113, ep, lep, es, ps⟩⟩], aep + 1, ((3 * ps.length) + (s0 + 1160)), (t + 11 + (2 * ps.length) + 5 + 23 + 1)⟩ es ep := by
    unfold LS.J
    rw [asV_app]
    rfl
  have hT := (tk4s (b := b) (c := c) (w := w) xs (asV as) n t1 t2 t3 d l dd ep lep aep es ps x xt cv o u1 u2 u3 u4 0 tl.ep v1 v2 v3 v4 .none tl.ex tl.sl s0 t hS.inv hx hk ho ha)
  rw [hJ] at hT
  exact ⟨_, stepC (S := (⟨n, ⟨d + 1113, dd + 1113, l + 1113, ep, lep, es, ps⟩, (.S u1 v1 u2 v2 u3 v3 u4 v4 tl), cv, as, aep, s0 + 1134, t⟩ : LS)) hS (ta := ((3 * ps.length) + (s0 + 1143))) (dd' := ((3 * ps.length) + (s0 + 1145))) (d' := ((3 * ps.length) + (s0 + 1146))) (ep' := es.length) (fr' := (.S u1 (.int x xt) u2 (.int (x.fmod 5) (t + 2)) u3 (.int (x.fdiv 20) (t + 8)) u4 (.ref (s0 + 1139)) tl)) (cv' := (some (.int ((x.fdiv 5).fmod 4) (t + 6))))
    (by show s0 + 1134 ≤ _; omega) (by omega) (by omega) (by omega) Fr.noConfusion m0 (mt m0) (mt (mt m0)) hT⟩
theorem sp3msE {xs : List Value} {n t1 t2 t3 d l dd ep lep aep : Nat} {es : List E} {ps : List (Nat × E)} {x : Int} {xt : Nat} {cv : Option Value} {as : List AE} {s0 t : Nat} {u1 u2 u3 u4 : Nat} {v1 v2 v3 v4 : Value} {o : Nat × Value × Nat × Value} {o1 : Option (Nat × Value)} (hS : LS.Ok (⟨n, ⟨d + 1113, dd + 1113, l + 1113, ep, lep, es, ps⟩, (.S u1 v1 u2 v2 u3 v3 u4 v4 .no), cv, as, aep, s0 + 1134, t⟩ : LS)) (hx : xs[n]? = some (.int x xt)) (hk : x.fmod 5 = 3) (ho : heO ps (t + 11) none = some o) (hh : hvs ((x.fdiv 5).fmod 4) ps = []) (hf : esFind es ((x.fdiv 5).fmod 4) = none) (ho1 : wiO ps ((t + 11 + (2 * ps.length) + 7) + 1) none = o1) (hw : wos ((x.fdiv 5).fmod 4) ps = ps) : ∃ S', Step b c w xs t1 t2 t3 (⟨n, ⟨d + 1113, dd + 1113, l + 1113, ep, lep, es, ps⟩, (.S u1 v1 u2 v2 u3 v3 u4 v4 .no), cv, as, aep, s0 + 1134, t⟩ : LS) S' := by
  exact ⟨_, stepL (S := (⟨n, ⟨d + 1113, dd + 1113, l + 1113, ep, lep, es, ps⟩, (.S u1 v1 u2 v2 u3 v3 u4 v4 .no), cv, as, aep, s0 + 1134, t⟩ : LS)) hS (l' := ((3 * ps.length) + (s0 + 1150))) (lep' := (wos ((x.fdiv 5).fmod 4) ps).length) (ep' := ep) (es' := es) (ps' := wos ((x.fdiv 5).fmod 4) ps) (fr' := (.S u1 (.int x xt) u2 (.int (x.fmod 5) (t + 2)) u3 (.int (x.fdiv 20) (t + 8)) u4 (.ref (s0 + 1139)) (.yes (t + 11 + (2 * ps.length) + 6) (.ref ((3 * ps.length) + (s0 + 1146))) true))) (cv' := (some (.int ((x.fdiv 5).fmod 4) (t + 6))))
    (by rw [hw]; exact hS.inv.cd.same) hS.inv.cd.good (by show s0 + 1134 ≤ _; omega) (by omega) Fr.noConfusion (memA rfl) (fun q hq => .inl (wos_sub q hq)) (tk3msE (b := b) (c := c) (w := w) xs (asV as) n t1 t2 t3 d l dd ep lep aep es ps x xt cv o u1 u2 u3 u4 0 0 v1 v2 v3 v4 .none [] #[] o1 s0 t hS.inv hx hk ho hh hf ho1)⟩
theorem sp3msU {xs : List Value} {n t1 t2 t3 d l dd ep lep aep : Nat} {es : List E} {ps : List (Nat × E)} {x : Int} {xt : Nat} {cv : Option Value} {as : List AE} {s0 t : Nat} {u1 u2 u3 u4 : Nat} {v1 v2 v3 v4 : Value} {u5 : Nat} {v5 : Value} {o : Nat × Value × Nat × Value} {o1 : Option (Nat × Value)} (hS : LS.Ok (⟨n, ⟨d + 1113, dd + 1113, l + 1113, ep, lep, es, ps⟩, (.S u1 v1 u2 v2 u3 v3 u4 v4 (.yes u5 v5 false)), cv, as, aep, s0 + 1134, t⟩ : LS)) (hx : xs[n]? = some (.int x xt)) (hk : x.fmod 5 = 3) (ho : heO ps (t + 11) none = some o) (hh : hvs ((x.fdiv 5).fmod 4) ps = []) (hf : esFind es ((x.fdiv 5).fmod 4) = none) (ho1 : wiO ps ((t + 11 + (2 * ps.length) + 7) + 1) none = o1) (hw : wos ((x.fdiv 5).fmod 4) ps = ps) : ∃ S', Step b c w xs t1 t2 t3 (⟨n, ⟨d + 1113, dd + 1113, l + 1113, ep, lep, es, ps⟩, (.S u1 v1 u2 v2 u3 v3 u4 v4 (.yes u5 v5 false)), cv, as, aep, s0 + 1134, t⟩ : LS) S' := by
  exact ⟨_, stepL (S := (⟨n, ⟨d + 1113, dd + 1113, l + 1113, ep, lep, es, ps⟩, (.S u1 v1 u2 v2 u3 v3 u4 v4 (.yes u5 v5 false)), cv, as, aep, s0 + 1134, t⟩ : LS)) hS (l' := ((3 * ps.length) + (s0 + 1150))) (lep' := (wos ((x.fdiv 5).fmod 4) ps).length) (ep' := ep) (es' := es) (ps' := wos ((x.fdiv 5).fmod 4) ps) (fr' := (.S u1 (.int x xt) u2 (.int (x.fmod 5) (t + 2)) u3 (.int (x.fdiv 20) (t + 8)) u4 (.ref (s0 + 1139)) (.yes u5 (.ref ((3 * ps.length) + (s0 + 1146))) true))) (cv' := (some (.int ((x.fdiv 5).fmod 4) (t + 6))))
    (by rw [hw]; exact hS.inv.cd.same) hS.inv.cd.good (by show s0 + 1134 ≤ _; omega) (by omega) Fr.noConfusion (memA rfl) (fun q hq => .inl (wos_sub q hq)) (tk3msU (b := b) (c := c) (w := w) xs (asV as) n t1 t2 t3 d l dd ep lep aep es ps x xt cv o u1 u2 u3 u4 u5 0 v1 v2 v3 v4 v5 [] #[] o1 s0 t hS.inv hx hk ho hh hf ho1)⟩
theorem sp3msR {xs : List Value} {n t1 t2 t3 d l dd ep lep aep : Nat} {es : List E} {ps : List (Nat × E)} {x : Int} {xt : Nat} {cv : Option Value} {as : List AE} {s0 t : Nat} {u1 u2 u3 u4 : Nat} {v1 v2 v3 v4 : Value} {u5 : Nat} {v5 : Value} {o : Nat × Value × Nat × Value} {o1 : Option (Nat × Value)} (hS : LS.Ok (⟨n, ⟨d + 1113, dd + 1113, l + 1113, ep, lep, es, ps⟩, (.S u1 v1 u2 v2 u3 v3 u4 v4 (.yes u5 v5 true)), cv, as, aep, s0 + 1134, t⟩ : LS)) (hx : xs[n]? = some (.int x xt)) (hk : x.fmod 5 = 3) (ho : heO ps (t + 11) none = some o) (hh : hvs ((x.fdiv 5).fmod 4) ps = []) (hf : esFind es ((x.fdiv 5).fmod 4) = none) (ho1 : wiO ps ((t + 11 + (2 * ps.length) + 7) + 1) none = o1) (hw : wos ((x.fdiv 5).fmod 4) ps = ps) : ∃ S', Step b c w xs t1 t2 t3 (⟨n, ⟨d + 1113, dd + 1113, l + 1113, ep, lep, es, ps⟩, (.S u1 v1 u2 v2 u3 v3 u4 v4 (.yes u5 v5 true)), cv, as, aep, s0 + 1134, t⟩ : LS) S' := by
  exact ⟨_, stepL (S := (⟨n, ⟨d + 1113, dd + 1113, l + 1113, ep, lep, es, ps⟩, (.S u1 v1 u2 v2 u3 v3 u4 v4 (.yes u5 v5 true)), cv, as, aep, s0 + 1134, t⟩ : LS)) hS (l' := ((3 * ps.length) + (s0 + 1150))) (lep' := (wos ((x.fdiv 5).fmod 4) ps).length) (ep' := ep) (es' := es) (ps' := wos ((x.fdiv 5).fmod 4) ps) (fr' := (.S u1 (.int x xt) u2 (.int (x.fmod 5) (t + 2)) u3 (.int (x.fdiv 20) (t + 8)) u4 (.ref (s0 + 1139)) (.yes u5 (.ref ((3 * ps.length) + (s0 + 1146))) true))) (cv' := (some (.int ((x.fdiv 5).fmod 4) (t + 6))))
    (by rw [hw]; exact hS.inv.cd.same) hS.inv.cd.good (by show s0 + 1134 ≤ _; omega) (by omega) Fr.noConfusion (memA rfl) (fun q hq => .inl (wos_sub q hq)) (tk3msR (b := b) (c := c) (w := w) xs (asV as) n t1 t2 t3 d l dd ep lep aep es ps x xt cv o u1 u2 u3 u4 u5 0 v1 v2 v3 v4 v5 [] #[] o1 s0 t hS.inv hx hk ho hh hf ho1)⟩
theorem sp0mn {xs : List Value} {n t1 t2 t3 d l dd ep lep aep : Nat} {es : List E} {ps : List (Nat × E)} {x : Int} {xt : Nat} {cv : Option Value} {as : List AE} {s0 t : Nat} {u1 u2 u3 u4 : Nat} {v1 v2 v3 v4 : Value} {tl : Tl} {o1 : Option (Nat × Value)} (hS : LS.Ok (⟨n, ⟨d + 1113, dd + 1113, l + 1113, ep, lep, es, ps⟩, (.S u1 v1 u2 v2 u3 v3 u4 v4 tl), cv, as, aep, s0 + 1134, t⟩ : LS)) (hk4 : 0 ≤ ((x.fdiv 5).fmod 4) ∧ ((x.fdiv 5).fmod 4) < 4) (hx : xs[n]? = some (.int x xt)) (hk : x.fmod 5 = 0) (ho : heO ps (t + 11) none = none) (hh : hvs ((x.fdiv 5).fmod 4) ps = []) (hf : esFind es ((x.fdiv 5).fmod 4) = none) (ho1 : wiO ps ((t + 11 + (2 * ps.length) + 10) + 1) none = o1) : ∃ S', Step b c w xs t1 t2 t3 (⟨n, ⟨d + 1113, dd + 1113, l + 1113, ep, lep, es, ps⟩, (.S u1 v1 u2 v2 u3 v3 u4 v4 tl), cv, as, aep, s0 + 1134, t⟩ : LS) S' := by
  have hz : (ps.map rfD ++ [.ref (0 + (((3 * ps.length) + (s0 + 1148)) + 9))]) = ((ps ++ [((((3 * ps.length) + (s0 + 1148)) + (0 + 9)), (⟨((x.fdiv 5).fmod 4), t + 6, 0 + x.fdiv 20, t + 11 + (2 * ps.length) + 9⟩ : E))])).map rfD := by rw [List.map_append, Nat.zero_add]; rfl
  have hnf := esFind_not hf
  have e1 := esSet_new hf (t + 6) (0 + x.fdiv 20) (t + 11 + (2 * ps.length) + 6)
  exact ⟨_, stepL (S := (⟨n, ⟨d + 1113, dd + 1113, l + 1113, ep, lep, es, ps⟩, (.S u1 v1 u2 v2 u3 v3 u4 v4 tl), cv, as, aep, s0 + 1134, t⟩ : LS)) hS (l' := (0 + ((3 * ps.length) + (s0 + 1159)))) (lep' := 0) (ep' := (match esFind es ((x.fdiv 5).fmod 4) with | some _ => ep | none => ep + 1)) (es' := esSet es ((x.fdiv 5).fmod 4) (t + 6) (0 + x.fdiv 20) (t + 11 + (2 * ps.length) + 6)) (ps' := (ps ++ [((((3 * ps.length) + (s0 + 1148)) + (0 + 9)), (⟨((x.fdiv 5).fmod 4), t + 6, 0 + x.fdiv 20, t + 11 + (2 * ps.length) + 9⟩ : E))])) (fr' := (.S u1 (.int x xt) u2 (.int (x.fmod 5) (t + 2)) u3 (.int (x.fdiv 20) (t + 8)) u4 (.ref (s0 + 1139)) tl)) (cv' := (some (.int ((x.fdiv 5).fmod 4) (t + 6))))
    (by rw [e1]; unfold kvp kve; rw [List.map_append, List.map_append]; exact congrArg (· ++ _) hS.inv.cd.same) (by rw [e1]; exact hS.inv.cd.good.new hnf hk4.1 hk4.2) (by show s0 + 1134 ≤ _; omega) (by omega) Fr.noConfusion (by rw [← hz]; exact mt (memA (by omega))) (fun q hq => by
      rw [List.map_append] at hq
      exact (List.mem_append.mp hq).imp id fun h => by
        rw [List.mem_singleton.mp h]
        exact ⟨(by show s0 + 1134 ≤ (((3 * ps.length) + (s0 + 1148)) + (0 + 9)); omega), (by show (((3 * ps.length) + (s0 + 1148)) + (0 + 9)) < _; omega), (by show (((3 * ps.length) + (s0 + 1148)) + (0 + 9)) ≠ _; omega), .inl m0⟩) (tk0mn (b := b) (c := c) (w := w) xs (asV as) n t1 t2 t3 d l dd ep lep aep es ps x xt cv (0, .none, 0, .none) u1 u2 u3 u4 0 tl.ep v1 v2 v3 v4 .none tl.ex tl.sl o1 s0 t hS.inv hx hk ho hh hf ho1)⟩
theorem sp1mn {xs : List Value} {n t1 t2 t3 d l dd ep lep aep : Nat} {es : List E} {ps : List (Nat × E)} {x : Int} {xt : Nat} {cv : Option Value} {as : List AE} {s0 t : Nat} {u1 u2 u3 u4 : Nat} {v1 v2 v3 v4 : Value} {tl : Tl} {o1 : Option (Nat × Value)} (hS : LS.Ok (⟨n, ⟨d + 1113, dd + 1113, l + 1113, ep, lep, es, ps⟩, (.S u1 v1 u2 v2 u3 v3 u4 v4 tl), cv, as, aep, s0 + 1134, t⟩ : LS)) (hx : xs[n]? = some (.int x xt)) (hk : x.fmod 5 = 1) (ho : heO ps (t + 11) none = none) (hh : hvs ((x.fdiv 5).fmod 4) ps = []) (hf : esFind es ((x.fdiv 5).fmod 4) = none) (ho1 : wiO ps ((t + 11 + (2 * ps.length) + 6) + 1) none = o1) (hw : wos ((x.fdiv 5).fmod 4) ps = ps) : ∃ S', Step b c w xs t1 t2 t3 (⟨n, ⟨d + 1113, dd + 1113, l + 1113, ep, lep, es, ps⟩, (.S u1 v1 u2 v2 u3 v3 u4 v4 tl), cv, as, aep, s0 + 1134, t⟩ : LS) S' := by
  exact ⟨_, stepL (S := (⟨n, ⟨d + 1113, dd + 1113, l + 1113, ep, lep, es, ps⟩, (.S u1 v1 u2 v2 u3 v3 u4 v4 tl), cv, as, aep, s0 + 1134, t⟩ : LS)) hS (l' := ((3 * ps.length) + (s0 + 1147))) (lep' := (wos ((x.fdiv 5).fmod 4) ps).length) (ep' := ep) (es' := es) (ps' := wos ((x.fdiv 5).fmod 4) ps) (fr' := (.S u1 (.int x xt) u2 (.int (x.fmod 5) (t + 2)) u3 (.int (x.fdiv 20) (t + 8)) u4 (.ref (s0 + 1139)) tl)) (cv' := (some (.int ((x.fdiv 5).fmod 4) (t + 6))))
    (by rw [hw]; exact hS.inv.cd.same) hS.inv.cd.good (by show s0 + 1134 ≤ _; omega) (by omega) Fr.noConfusion (memA rfl) (fun q hq => .inl (wos_sub q hq)) (tk1mn (b := b) (c := c) (w := w) xs (asV as) n t1 t2 t3 d l dd ep lep aep es ps x xt cv (0, .none, 0, .none) u1 u2 u3 u4 0 tl.ep v1 v2 v3 v4 .none tl.ex tl.sl o1 s0 t hS.inv hx hk ho hh hf ho1)⟩
theorem sp2mn {xs : List Value} {n t1 t2 t3 d l dd ep lep aep : Nat} {es : List E} {ps : List (Nat × E)} {x : Int} {xt : Nat} {cv : Option Value} {as : List AE} {s0 t : Nat} {u1 u2 u3 u4 : Nat} {v1 v2 v3 v4 : Value} {tl : Tl} (hS : LS.Ok (⟨n, ⟨d + 1113, dd + 1113, l + 1113, ep, lep, es, ps⟩, (.S u1 v1 u2 v2 u3 v3 u4 v4 tl), cv, as, aep, s0 + 1134, t⟩ : LS)) (hx : xs[n]? = some (.int x xt)) (hk : x.fmod 5 = 2) (ho : heO ps (t + 11) none = none) (hh : hvs ((x.fdiv 5).fmod 4) ps = []) (hf : esFind es ((x.fdiv 5).fmod 4) = none) : ∃ S', Step b c w xs t1 t2 t3 (⟨n, ⟨d + 1113, dd + 1113, l + 1113, ep, lep, es, ps⟩, (.S u1 v1 u2 v2 u3 v3 u4 v4 tl), cv, as, aep, s0 + 1134, t⟩ : LS) S' := by
  exact ⟨_, stepS (S := (⟨n, ⟨d + 1113, dd + 1113, l + 1113, ep, lep, es, ps⟩, (.S u1 v1 u2 v2 u3 v3 u4 v4 tl), cv, as, aep, s0 + 1134, t⟩ : LS)) hS (fr' := (.S u1 (.int x xt) u2 (.int (x.fmod 5) (t + 2)) u3 (.int (x.fdiv 20) (t + 8)) u4 (.ref (s0 + 1139)) tl)) (cv' := (some (.int ((x.fdiv 5).fmod 4) (t + 6))))
    (by show s0 + 1134 ≤ _; omega) Fr.noConfusion (tk2mn (b := b) (c := c) (w := w) xs (asV as) n t1 t2 t3 d l dd ep lep aep es ps x xt cv (0, .none, 0, .none) u1 u2 u3 u4 0 tl.ep v1 v2 v3 v4 .none tl.ex tl.sl s0 t hS.inv hx hk ho hh hf)⟩
theorem sp4n {xs : List Value} {n t1 t2 t3 d l dd ep lep aep : Nat} {es : List E} {ps : List (Nat × E)} {x : Int} {xt : Nat} {cv : Option Value} {as : List AE} {s0 t : Nat} {u1 u2 u3 u4 : Nat} {v1 v2 v3 v4 : Value} {tl : Tl} (hS : LS.Ok (⟨n, ⟨d + 1113, dd + 1113, l + 1113, ep, lep, es, ps⟩, (.S u1 v1 u2 v2 u3 v3 u4 v4 tl), cv, as, aep, s0 + 1134, t⟩ : LS)) (hx : xs[n]? = some (.int x xt)) (hk : x.fmod 5 = 4) (ho : heO ps (t + 11) none = none) (ha : (asV as).length ≤ 64) : ∃ S', Step b c w xs t1 t2 t3 (⟨n, ⟨d + 1113, dd + 1113, l + 1113, ep, lep, es, ps⟩, (.S u1 v1 u2 v2 u3 v3 u4 v4 tl), cv, as, aep, s0 + 1134, t⟩ : LS) S' := by
  have hJ : (jT4n (tW b c w).params xs (asV as) n t1 t2 t3 d l dd ep lep aep es ps x xt cv (0, .none, 0, .none) (3 * ps.length) (2 * ps.length) u1 u2 u3 u4 0 tl.ep v1 v2 v3 v4 .none tl.ex tl.sl ((hvs ((x.fdiv 5).fmod 4) ps).map fun e => Value.int e.2.v e.2.u) (hvs ((x.fdiv 5).fmod 4) ps).length s0 t) = LS.J (tW b c w).params xs t1 t2 t3 (⟨n, ⟨d + 1113, dd + 1113, l + 1113, ep, lep, es, ps⟩, (.S u1 v1 u2 v2 u3 v3 u4 v4 tl), cv, as, aep, s0 + 1134, t⟩ : LS) ⟨n + 1, ⟨((3 * ps.length) + (s0 + 1146)), ((3 * ps.length) + (s0 + 1145)), l + 1113, es.length, lep, es, ps⟩, (.S u1 (.int x xt) u2 (.int (x.fmod 5) (t + 2)) u3 (.int (x.fdiv 20) (t + 8)) u4 (.ref (s0 + 1139)) tl), (some (.int ((x.fdiv 5).fmod 4) (t + 6))), as ++ [⟨((3 * ps.length) + (s0 + 1143)), ⟨d + 1113, dd + 1113, l + 1113, ep, lep, es, ps⟩⟩], aep + 1, ((3 * ps.length) + (s0 + 1160)), (t + 11 + (2 * ps.length) + 5 + 23 + 1)⟩ es ep := by
    unfold LS.J
    rw [asV_app]
    rfl
  have hT := (tk4n (b := b) (c := c) (w := w) xs (asV as) n t1 t2 t3 d l dd ep lep aep es ps x xt cv (0, .none, 0, .none) u1 u2 u3 u4 0 tl.ep v1 v2 v3 v4 .none tl.ex tl.sl s0 t hS.inv hx hk ho ha)
  rw [hJ] at hT
  exact ⟨_, stepC (S := (⟨n, ⟨d + 1113, dd + 1113, l + 1113, ep, lep, es, ps⟩, (.S u1 v1 u2 v2 u3 v3 u4 v4 tl), cv, as, aep, s0 + 1134, t⟩ : LS)) hS (ta := ((3 * ps.length) + (s0 + 1143))) (dd' := ((3 * ps.length) + (s0 + 1145))) (d' := ((3 * ps.length) + (s0 + 1146))) (ep' := es.length) (fr' := (.S u1 (.int x xt) u2 (.int (x.fmod 5) (t + 2)) u3 (.int (x.fdiv 20) (t + 8)) u4 (.ref (s0 + 1139)) tl)) (cv' := (some (.int ((x.fdiv 5).fmod 4) (t + 6))))
    (by show s0 + 1134 ≤ _; omega) (by omega) (by omega) (by omega) Fr.noConfusion m0 (mt m0) (mt (mt m0)) hT⟩
theorem sp3mnE {xs : List Value} {n t1 t2 t3 d l dd ep lep aep : Nat} {es : List E} {ps : List (Nat × E)} {x : Int} {xt : Nat} {cv : Option Value} {as : List AE} {s0 t : Nat} {u1 u2 u3 u4 : Nat} {v1 v2 v3 v4 : Value} {o1 : Option (Nat × Value)} (hS : LS.Ok (⟨n, ⟨d + 1113, dd + 1113, l + 1113, ep, lep, es, ps⟩, (.S u1 v1 u2 v2 u3 v3 u4 v4 .no), cv, as, aep, s0 + 1134, t⟩ : LS)) (hx : xs[n]? = some (.int x xt)) (hk : x.fmod 5 = 3) (ho : heO ps (t + 11) none = none) (hh : hvs ((x.fdiv 5).fmod 4) ps = []) (hf : esFind es ((x.fdiv 5).fmod 4) = none) (ho1 : wiO ps ((t + 11 + (2 * ps.length) + 7) + 1) none = o1) (hw : wos ((x.fdiv 5).fmod 4) ps = ps) : ∃ S', Step b c w xs t1 t2 t3 (⟨n, ⟨d + 1113, dd + 1113, l + 1113, ep, lep, es, ps⟩, (.S u1 v1 u2 v2 u3 v3 u4 v4 .no), cv, as, aep, s0 + 1134, t⟩ : LS) S' := by
  exact ⟨_, stepL (S := (⟨n, ⟨d + 1113, dd + 1113, l + 1113, ep, lep, es, ps⟩, (.S u1 v1 u2 v2 u3 v3 u4 v4 .no), cv, as, aep, s0 + 1134, t⟩ : LS)) hS (l' := ((3 * ps.length) + (s0 + 1150))) (lep' := (wos ((x.fdiv 5).fmod 4) ps).length) (ep' := ep) (es' := es) (ps' := wos ((x.fdiv 5).fmod 4) ps) (fr' := (.S u1 (.int x xt) u2 (.int (x.fmod 5) (t + 2)) u3 (.int (x.fdiv 20) (t + 8)) u4 (.ref (s0 + 1139)) (.yes (t + 11 + (2 * ps.length) + 6) (.ref ((3 * ps.length) + (s0 + 1146))) true))) (cv' := (some (.int ((x.fdiv 5).fmod 4) (t + 6))))
    (by rw [hw]; exact hS.inv.cd.same) hS.inv.cd.good (by show s0 + 1134 ≤ _; omega) (by omega) Fr.noConfusion (memA rfl) (fun q hq => .inl (wos_sub q hq)) (tk3mnE (b := b) (c := c) (w := w) xs (asV as) n t1 t2 t3 d l dd ep lep aep es ps x xt cv (0, .none, 0, .none) u1 u2 u3 u4 0 0 v1 v2 v3 v4 .none [] #[] o1 s0 t hS.inv hx hk ho hh hf ho1)⟩
theorem sp3mnU {xs : List Value} {n t1 t2 t3 d l dd ep lep aep : Nat} {es : List E} {ps : List (Nat × E)} {x : Int} {xt : Nat} {cv : Option Value} {as : List AE} {s0 t : Nat} {u1 u2 u3 u4 : Nat} {v1 v2 v3 v4 : Value} {u5 : Nat} {v5 : Value} {o1 : Option (Nat × Value)} (hS : LS.Ok (⟨n, ⟨d + 1113, dd + 1113, l + 1113, ep, lep, es, ps⟩, (.S u1 v1 u2 v2 u3 v3 u4 v4 (.yes u5 v5 false)), cv, as, aep, s0 + 1134, t⟩ : LS)) (hx : xs[n]? = some (.int x xt)) (hk : x.fmod 5 = 3) (ho : heO ps (t + 11) none = none) (hh : hvs ((x.fdiv 5).fmod 4) ps = []) (hf : esFind es ((x.fdiv 5).fmod 4) = none) (ho1 : wiO ps ((t + 11 + (2 * ps.length) + 7) + 1) none = o1) (hw : wos ((x.fdiv 5).fmod 4) ps = ps) : ∃ S', Step b c w xs t1 t2 t3 (⟨n, ⟨d + 1113, dd + 1113, l + 1113, ep, lep, es, ps⟩, (.S u1 v1 u2 v2 u3 v3 u4 v4 (.yes u5 v5 false)), cv, as, aep, s0 + 1134, t⟩ : LS) S' := by
  exact ⟨_, stepL (S := (⟨n, ⟨d + 1113, dd + 1113, l + 1113, ep, lep, es, ps⟩, (.S u1 v1 u2 v2 u3 v3 u4 v4 (.yes u5 v5 false)), cv, as, aep, s0 + 1134, t⟩ : LS)) hS (l' := ((3 * ps.length) + (s0 + 1150))) (lep' := (wos ((x.fdiv 5).fmod 4) ps).length) (ep' := ep) (es' := es) (ps' := wos ((x.fdiv 5).fmod 4) ps) (fr' := (.S u1 (.int x xt) u2 (.int (x.fmod 5) (t + 2)) u3 (.int (x.fdiv 20) (t + 8)) u4 (.ref (s0 + 1139)) (.yes u5 (.ref ((3 * ps.length) + (s0 + 1146))) true))) (cv' := (some (.int ((x.fdiv 5).fmod 4) (t + 6))))
    (by rw [hw]; exact hS.inv.cd.same) hS.inv.cd.good (by show s0 + 1134 ≤ _; omega) (by omega) Fr.noConfusion (memA rfl) (fun q hq => .inl (wos_sub q hq)) (tk3mnU (b := b) (c := c) (w := w) xs (asV as) n t1 t2 t3 d l dd ep lep aep es ps x xt cv (0, .none, 0, .none) u1 u2 u3 u4 u5 0 v1 v2 v3 v4 v5 [] #[] o1 s0 t hS.inv hx hk ho hh hf ho1)⟩
theorem sp3mnR {xs : List Value} {n t1 t2 t3 d l dd ep lep aep : Nat} {es : List E} {ps : List (Nat × E)} {x : Int} {xt : Nat} {cv : Option Value} {as : List AE} {s0 t : Nat} {u1 u2 u3 u4 : Nat} {v1 v2 v3 v4 : Value} {u5 : Nat} {v5 : Value} {o1 : Option (Nat × Value)} (hS : LS.Ok (⟨n, ⟨d + 1113, dd + 1113, l + 1113, ep, lep, es, ps⟩, (.S u1 v1 u2 v2 u3 v3 u4 v4 (.yes u5 v5 true)), cv, as, aep, s0 + 1134, t⟩ : LS)) (hx : xs[n]? = some (.int x xt)) (hk : x.fmod 5 = 3) (ho : heO ps (t + 11) none = none) (hh : hvs ((x.fdiv 5).fmod 4) ps = []) (hf : esFind es ((x.fdiv 5).fmod 4) = none) (ho1 : wiO ps ((t + 11 + (2 * ps.length) + 7) + 1) none = o1) (hw : wos ((x.fdiv 5).fmod 4) ps = ps) : ∃ S', Step b c w xs t1 t2 t3 (⟨n, ⟨d + 1113, dd + 1113, l + 1113, ep, lep, es, ps⟩, (.S u1 v1 u2 v2 u3 v3 u4 v4 (.yes u5 v5 true)), cv, as, aep, s0 + 1134, t⟩ : LS) S' := by
  exact ⟨_, stepL (S := (⟨n, ⟨d + 1113, dd + 1113, l + 1113, ep, lep, es, ps⟩, (.S u1 v1 u2 v2 u3 v3 u4 v4 (.yes u5 v5 true)), cv, as, aep, s0 + 1134, t⟩ : LS)) hS (l' := ((3 * ps.length) + (s0 + 1150))) (lep' := (wos ((x.fdiv 5).fmod 4) ps).length) (ep' := ep) (es' := es) (ps' := wos ((x.fdiv 5).fmod 4) ps) (fr' := (.S u1 (.int x xt) u2 (.int (x.fmod 5) (t + 2)) u3 (.int (x.fdiv 20) (t + 8)) u4 (.ref (s0 + 1139)) (.yes u5 (.ref ((3 * ps.length) + (s0 + 1146))) true))) (cv' := (some (.int ((x.fdiv 5).fmod 4) (t + 6))))
    (by rw [hw]; exact hS.inv.cd.same) hS.inv.cd.good (by show s0 + 1134 ≤ _; omega) (by omega) Fr.noConfusion (memA rfl) (fun q hq => .inl (wos_sub q hq)) (tk3mnR (b := b) (c := c) (w := w) xs (asV as) n t1 t2 t3 d l dd ep lep aep es ps x xt cv (0, .none, 0, .none) u1 u2 u3 u4 u5 0 v1 v2 v3 v4 v5 [] #[] o1 s0 t hS.inv hx hk ho hh hf ho1)⟩
theorem sp1h {xs : List Value} {n t1 t2 t3 d l dd ep lep aep : Nat} {es : List E} {ps : List (Nat × E)} {x : Int} {xt : Nat} {cv : Option Value} {as : List AE} {s0 t : Nat} {u1 u2 u3 u4 : Nat} {v1 v2 v3 v4 : Value} {tl : Tl} {o : Nat × Value × Nat × Value} {e : E} {p : Nat × E} {o1 : Option (Nat × Value)} (hS : LS.Ok (⟨n, ⟨d + 1113, dd + 1113, l + 1113, ep, lep, es, ps⟩, (.S u1 v1 u2 v2 u3 v3 u4 v4 tl), cv, as, aep, s0 + 1134, t⟩ : LS)) (hx : xs[n]? = some (.int x xt)) (hk : x.fmod 5 = 1) (ho : heO ps (t + 11) none = some o) (hh : hvs ((x.fdiv 5).fmod 4) ps = [p]) (hf : esFind es ((x.fdiv 5).fmod 4) = some e) (hv : p.2.v = e.v) (ho1 : wiO ps ((t + 11 + (2 * ps.length) + 8) + 1) none = o1) (hkd : kvp (wos ((x.fdiv 5).fmod 4) ps) = kve (esDel es ((x.fdiv 5).fmod 4))) : ∃ S', Step b c w xs t1 t2 t3 (⟨n, ⟨d + 1113, dd + 1113, l + 1113, ep, lep, es, ps⟩, (.S u1 v1 u2 v2 u3 v3 u4 v4 tl), cv, as, aep, s0 + 1134, t⟩ : LS) S' := by
  exact ⟨_, stepL (S := (⟨n, ⟨d + 1113, dd + 1113, l + 1113, ep, lep, es, ps⟩, (.S u1 v1 u2 v2 u3 v3 u4 v4 tl), cv, as, aep, s0 + 1134, t⟩ : LS)) hS (l' := ((3 * ps.length) + (s0 + 1149))) (lep' := (wos ((x.fdiv 5).fmod 4) ps).length) (ep' := (ep + 1)) (es' := (esDel es ((x.fdiv 5).fmod 4))) (ps' := wos ((x.fdiv 5).fmod 4) ps) (fr' := (.S u1 (.int x xt) u2 (.int (x.fmod 5) (t + 2)) u3 (.int (x.fdiv 20) (t + 8)) u4 (.ref (s0 + 1139)) tl)) (cv' := (some (.int ((x.fdiv 5).fmod 4) (t + 6))))
    hkd hS.inv.cd.good.del (by show s0 + 1134 ≤ _; omega) (by omega) Fr.noConfusion (memA rfl) (fun q hq => .inl (wos_sub q hq)) (tk1h (b := b) (c := c) (w := w) xs (asV as) n t1 t2 t3 d l dd ep lep aep es ps x xt cv o u1 u2 u3 u4 0 tl.ep v1 v2 v3 v4 .none tl.ex tl.sl o1 s0 t hS.inv hx hk ho hh hf hv ho1)⟩
theorem sp2h {xs : List Value} {n t1 t2 t3 d l dd ep lep aep : Nat} {es : List E} {ps : List (Nat × E)} {x : Int} {xt : Nat} {cv : Option Value} {as : List AE} {s0 t : Nat} {u1 u2 u3 u4 : Nat} {v1 v2 v3 v4 : Value} {tl : Tl} {o : Nat × Value × Nat × Value} {e : E} {p : Nat × E} (hS : LS.Ok (⟨n, ⟨d + 1113, dd + 1113, l + 1113, ep, lep, es, ps⟩, (.S u1 v1 u2 v2 u3 v3 u4 v4 tl), cv, as, aep, s0 + 1134, t⟩ : LS)) (hx : xs[n]? = some (.int x xt)) (hk : x.fmod 5 = 2) (ho : heO ps (t + 11) none = some o) (hh : hvs ((x.fdiv 5).fmod 4) ps = [p]) (hf : esFind es ((x.fdiv 5).fmod 4) = some e) (hv : p.2.v = e.v) : ∃ S', Step b c w xs t1 t2 t3 (⟨n, ⟨d + 1113, dd + 1113, l + 1113, ep, lep, es, ps⟩, (.S u1 v1 u2 v2 u3 v3 u4 v4 tl), cv, as, aep, s0 + 1134, t⟩ : LS) S' := by
  exact ⟨_, stepS (S := (⟨n, ⟨d + 1113, dd + 1113, l + 1113, ep, lep, es, ps⟩, (.S u1 v1 u2 v2 u3 v3 u4 v4 tl), cv, as, aep, s0 + 1134, t⟩ : LS)) hS (fr' := (.S u1 (.int x xt) u2 (.int (x.fmod 5) (t + 2)) u3 (.int (x.fdiv 20) (t + 8)) u4 (.ref (s0 + 1139)) tl)) (cv' := (some (.int ((x.fdiv 5).fmod 4) (t + 6))))
    (by show s0 + 1134 ≤ _; omega) Fr.noConfusion (tk2h (b := b) (c := c) (w := w) xs (asV as) n t1 t2 t3 d l dd ep lep aep es ps x xt cv o u1 u2 u3 u4 0 tl.ep v1 v2 v3 v4 .none tl.ex tl.sl s0 t hS.inv hx hk ho hh hf hv)⟩
theorem sp3hE {xs : List Value} {n t1 t2 t3 d l dd ep lep aep : Nat} {es : List E} {ps : List (Nat × E)} {x : Int} {xt : Nat} {cv : Option Value} {as : List AE} {s0 t : Nat} {u1 u2 u3 u4 : Nat} {v1 v2 v3 v4 : Value} {o : Nat × Value × Nat × Value} {e : E} {p : Nat × E} {o1 : Option (Nat × Value)} (hS : LS.Ok (⟨n, ⟨d + 1113, dd + 1113, l + 1113, ep, lep, es, ps⟩, (.S u1 v1 u2 v2 u3 v3 u4 v4 .no), cv, as, aep, s0 + 1134, t⟩ : LS)) (hx : xs[n]? = some (.int x xt)) (hk : x.fmod 5 = 3) (ho : heO ps (t + 11) none = some o) (hh : hvs ((x.fdiv 5).fmod 4) ps = [p]) (hf : esFind es ((x.fdiv 5).fmod 4) = some e) (hv : p.2.v = e.v) (ho1 : wiO ps ((t + 11 + (2 * ps.length) + 7) + 1) none = o1) (hkd : kvp (wos ((x.fdiv 5).fmod 4) ps) = kve (esDel es ((x.fdiv 5).fmod 4))) : ∃ S', Step b c w xs t1 t2 t3 (⟨n, ⟨d + 1113, dd + 1113, l + 1113, ep, lep, es, ps⟩, (.S u1 v1 u2 v2 u3 v3 u4 v4 .no), cv, as, aep, s0 + 1134, t⟩ : LS) S' := by
  exact ⟨_, stepL (S := (⟨n, ⟨d + 1113, dd + 1113, l + 1113, ep, lep, es, ps⟩, (.S u1 v1 u2 v2 u3 v3 u4 v4 .no), cv, as, aep, s0 + 1134, t⟩ : LS)) hS (l' := ((3 * ps.length) + (s0 + 1147))) (lep' := (wos ((x.fdiv 5).fmod 4) ps).length) (ep' := (ep + 1)) (es' := (esDel es ((x.fdiv 5).fmod 4))) (ps' := wos ((x.fdiv 5).fmod 4) ps) (fr' := (.S u1 (.int x xt) u2 (.int (x.fmod 5) (t + 2)) u3 (.int (x.fdiv 20) (t + 8)) u4 (.ref (s0 + 1139)) (.yes (t + 11 + (2 * ps.length) + 6) (.ref ((3 * ps.length) + (s0 + 1143))) false))) (cv' := (some (.int ((x.fdiv 5).fmod 4) (t + 6))))
    hkd hS.inv.cd.good.del (by show s0 + 1134 ≤ _; omega) (by omega) Fr.noConfusion (memA rfl) (fun q hq => .inl (wos_sub q hq)) (tk3hE (b := b) (c := c) (w := w) xs (asV as) n t1 t2 t3 d l dd ep lep aep es ps x xt cv o u1 u2 u3 u4 0 0 v1 v2 v3 v4 .none [] #[] o1 s0 t hS.inv hx hk ho hh hf hv ho1)⟩
theorem sp3hT {xs : List Value} {n t1 t2 t3 d l dd ep lep aep : Nat} {es : List E} {ps : List (Nat × E)} {x : Int} {xt : Nat} {cv : Option Value} {as : List AE} {s0 t : Nat} {u1 u2 u3 u4 : Nat} {v1 v2 v3 v4 : Value} {u5 : Nat} {v5 : Value} {r : Bool} {o : Nat × Value × Nat × Value} {e : E} {p : Nat × E} {o1 : Option (Nat × Value)} (hS : LS.Ok (⟨n, ⟨d + 1113, dd + 1113, l + 1113, ep, lep, es, ps⟩, (.S u1 v1 u2 v2 u3 v3 u4 v4 (.yes u5 v5 r)), cv, as, aep, s0 + 1134, t⟩ : LS)) (hx : xs[n]? = some (.int x xt)) (hk : x.fmod 5 = 3) (ho : heO ps (t + 11) none = some o) (hh : hvs ((x.fdiv 5).fmod 4) ps = [p]) (hf : esFind es ((x.fdiv 5).fmod 4) = some e) (hv : p.2.v = e.v) (ho1 : wiO ps ((t + 11 + (2 * ps.length) + 7) + 1) none = o1) (hkd : kvp (wos ((x.fdiv 5).fmod 4) ps) = kve (esDel es ((x.fdiv 5).fmod 4))) : ∃ S', Step b c w xs t1 t2 t3 (⟨n, ⟨d + 1113, dd + 1113, l + 1113, ep, lep, es, ps⟩, (.S u1 v1 u2 v2 u3 v3 u4 v4 (.yes u5 v5 r)), cv, as, aep, s0 + 1134, t⟩ : LS) S' := by
  exact ⟨_, stepL (S := (⟨n, ⟨d + 1113, dd + 1113, l + 1113, ep, lep, es, ps⟩, (.S u1 v1 u2 v2 u3 v3 u4 v4 (.yes u5 v5 r)), cv, as, aep, s0 + 1134, t⟩ : LS)) hS (l' := ((3 * ps.length) + (s0 + 1147))) (lep' := (wos ((x.fdiv 5).fmod 4) ps).length) (ep' := (ep + 1)) (es' := (esDel es ((x.fdiv 5).fmod 4))) (ps' := wos ((x.fdiv 5).fmod 4) ps) (fr' := (.S u1 (.int x xt) u2 (.int (x.fmod 5) (t + 2)) u3 (.int (x.fdiv 20) (t + 8)) u4 (.ref (s0 + 1139)) (.yes u5 (.ref ((3 * ps.length) + (s0 + 1143))) r))) (cv' := (some (.int ((x.fdiv 5).fmod 4) (t + 6))))
    hkd hS.inv.cd.good.del (by show s0 + 1134 ≤ _; omega) (by omega) Fr.noConfusion (memA rfl) (fun q hq => .inl (wos_sub q hq)) (tk3hT (b := b) (c := c) (w := w) xs (asV as) n t1 t2 t3 d l dd ep lep aep es ps x xt cv o u1 u2 u3 u4 u5 0 v1 v2 v3 v4 v5 [] (slF r) o1 s0 t hS.inv hx hk ho hh hf hv ho1)⟩
theorem spN0 {xs : List Value} {n t1 t2 t3 d l dd ep lep aep : Nat} {es : List E} {ps : List (Nat × E)} {x : Int} {xt : Nat} {cv : Option Value} {as : List AE} {s0 t : Nat} {o1 : Option (Nat × Value)} (hS : LS.Ok (⟨n, ⟨d + 1113, dd + 1113, l + 1113, ep, lep, es, ps⟩, .N, cv, as, aep, s0 + 1134, t⟩ : LS)) (hk4 : 0 ≤ ((x.fdiv 5).fmod 4) ∧ ((x.fdiv 5).fmod 4) < 4) (hx : xs[n]? = some (.int x xt)) (hk : x.fmod 5 = 0) (ho : heO ps (t + 11) none = none) (hh : hvs ((x.fdiv 5).fmod 4) ps = []) (hf : esFind es ((x.fdiv 5).fmod 4) = none) (ho1 : wiO ps ((t + 11 + (2 * ps.length) + 10) + 1) none = o1) : ∃ S', Step b c w xs t1 t2 t3 (⟨n, ⟨d + 1113, dd + 1113, l + 1113, ep, lep, es, ps⟩, .N, cv, as, aep, s0 + 1134, t⟩ : LS) S' := by
  have hz : (ps.map rfD ++ [.ref (0 + (((3 * ps.length) + (s0 + 1148)) + 9))]) = ((ps ++ [((((3 * ps.length) + (s0 + 1148)) + (0 + 9)), (⟨((x.fdiv 5).fmod 4), t + 6, 0 + x.fdiv 20, t + 11 + (2 * ps.length) + 9⟩ : E))])).map rfD := by rw [List.map_append, Nat.zero_add]; rfl
  have hnf := esFind_not hf
  have e1 := esSet_new hf (t + 6) (0 + x.fdiv 20) (t + 11 + (2 * ps.length) + 6)
  exact ⟨_, stepL (S := (⟨n, ⟨d + 1113, dd + 1113, l + 1113, ep, lep, es, ps⟩, .N, cv, as, aep, s0 + 1134, t⟩ : LS)) hS (l' := (0 + ((3 * ps.length) + (s0 + 1159)))) (lep' := 0) (ep' := (match esFind es ((x.fdiv 5).fmod 4) with | some _ => ep | none => ep + 1)) (es' := esSet es ((x.fdiv 5).fmod 4) (t + 6) (0 + x.fdiv 20) (t + 11 + (2 * ps.length) + 6)) (ps' := (ps ++ [((((3 * ps.length) + (s0 + 1148)) + (0 + 9)), (⟨((x.fdiv 5).fmod 4), t + 6, 0 + x.fdiv 20, t + 11 + (2 * ps.length) + 9⟩ : E))])) (fr' := (.S t (.int x xt) (t + 9) (.int (x.fmod 5) (t + 2)) (t + 10) (.int (x.fdiv 20) (t + 8)) (t + 11 + (2 * ps.length)) (.ref (s0 + 1139)) .no)) (cv' := (some (.int ((x.fdiv 5).fmod 4) (t + 6))))
    (by rw [e1]; unfold kvp kve; rw [List.map_append, List.map_append]; exact congrArg (· ++ _) hS.inv.cd.same) (by rw [e1]; exact hS.inv.cd.good.new hnf hk4.1 hk4.2) (by show s0 + 1134 ≤ _; omega) (by omega) Fr.noConfusion (by rw [← hz]; exact mt (memA (by omega))) (fun q hq => by
      rw [List.map_append] at hq
      exact (List.mem_append.mp hq).imp id fun h => by
        rw [List.mem_singleton.mp h]
        exact ⟨(by show s0 + 1134 ≤ (((3 * ps.length) + (s0 + 1148)) + (0 + 9)); omega), (by show (((3 * ps.length) + (s0 + 1148)) + (0 + 9)) < _; omega), (by show (((3 * ps.length) + (s0 + 1148)) + (0 + 9)) ≠ _; omega), .inl m0⟩) (tkN0 (b := b) (c := c) (w := w) xs (asV as) n t1 t2 t3 d l dd ep lep aep es ps x xt cv (0, .none, 0, .none) 0 0 0 0 0 0 .none .none .none .none .none [] #[] o1 s0 t hS.inv hx hk ho hh hf ho1)⟩
theorem spN1 {xs : List Value} {n t1 t2 t3 d l dd ep lep aep : Nat} {es : List E} {ps : List (Nat × E)} {x : Int} {xt : Nat} {cv : Option Value} {as : List AE} {s0 t : Nat} {o1 : Option (Nat × Value)} (hS : LS.Ok (⟨n, ⟨d + 1113, dd + 1113, l + 1113, ep, lep, es, ps⟩, .N, cv, as, aep, s0 + 1134, t⟩ : LS)) (hx : xs[n]? = some (.int x xt)) (hk : x.fmod 5 = 1) (ho : heO ps (t + 11) none = none) (hh : hvs ((x.fdiv 5).fmod 4) ps = []) (hf : esFind es ((x.fdiv 5).fmod 4) = none) (ho1 : wiO ps ((t + 11 + (2 * ps.length) + 6) + 1) none = o1) (hw : wos ((x.fdiv 5).fmod 4) ps = ps) : ∃ S', Step b c w xs t1 t2 t3 (⟨n, ⟨d + 1113, dd + 1113, l + 1113, ep, lep, es, ps⟩, .N, cv, as, aep, s0 + 1134, t⟩ : LS) S' := by
  exact ⟨_, stepL (S := (⟨n, ⟨d + 1113, dd + 1113, l + 1113, ep, lep, es, ps⟩, .N, cv, as, aep, s0 + 1134, t⟩ : LS)) hS (l' := ((3 * ps.length) + (s0 + 1147))) (lep' := (wos ((x.fdiv 5).fmod 4) ps).length) (ep' := ep) (es' := es) (ps' := wos ((x.fdiv 5).fmod 4) ps) (fr' := (.S t (.int x xt) (t + 9) (.int (x.fmod 5) (t + 2)) (t + 10) (.int (x.fdiv 20) (t + 8)) (t + 11 + (2 * ps.length)) (.ref (s0 + 1139)) .no)) (cv' := (some (.int ((x.fdiv 5).fmod 4) (t + 6))))
    (by rw [hw]; exact hS.inv.cd.same) hS.inv.cd.good (by show s0 + 1134 ≤ _; omega) (by omega) Fr.noConfusion (memA rfl) (fun q hq => .inl (wos_sub q hq)) (tkN1 (b := b) (c := c) (w := w) xs (asV as) n t1 t2 t3 d l dd ep lep aep es ps x xt cv (0, .none, 0, .none) 0 0 0 0 0 0 .none .none .none .none .none [] #[] o1 s0 t hS.inv hx hk ho hh hf ho1)⟩
theorem spN2 {xs : List Value} {n t1 t2 t3 d l dd ep lep aep : Nat} {es : List E} {ps : List (Nat × E)} {x : Int} {xt : Nat} {cv : Option Value} {as : List AE} {s0 t : Nat} (hS : LS.Ok (⟨n, ⟨d + 1113, dd + 1113, l + 1113, ep, lep, es, ps⟩, .N, cv, as, aep, s0 + 1134, t⟩ : LS)) (hx : xs[n]? = some (.int x xt)) (hk : x.fmod 5 = 2) (ho : heO ps (t + 11) none = none) (hh : hvs ((x.fdiv 5).fmod 4) ps = []) (hf : esFind es ((x.fdiv 5).fmod 4) = none) : ∃ S', Step b c w xs t1 t2 t3 (⟨n, ⟨d + 1113, dd + 1113, l + 1113, ep, lep, es, ps⟩, .N, cv, as, aep, s0 + 1134, t⟩ : LS) S' := by
  exact ⟨_, stepS (S := (⟨n, ⟨d + 1113, dd + 1113, l + 1113, ep, lep, es, ps⟩, .N, cv, as, aep, s0 + 1134, t⟩ : LS)) hS (fr' := (.S t (.int x xt) (t + 9) (.int (x.fmod 5) (t + 2)) (t + 10) (.int (x.fdiv 20) (t + 8)) (t + 11 + (2 * ps.length)) (.ref (s0 + 1139)) .no)) (cv' := (some (.int ((x.fdiv 5).fmod 4) (t + 6))))
    (by show s0 + 1134 ≤ _; omega) Fr.noConfusion (tkN2 (b := b) (c := c) (w := w) xs (asV as) n t1 t2 t3 d l dd ep lep aep es ps x xt cv (0, .none, 0, .none) 0 0 0 0 0 0 .none .none .none .none .none [] #[] s0 t hS.inv hx hk ho hh hf)⟩
theorem spN4 {xs : List Value} {n t1 t2 t3 d l dd ep lep aep : Nat} {es : List E} {ps : List (Nat × E)} {x : Int} {xt : Nat} {cv : Option Value} {as : List AE} {s0 t : Nat} (hS : LS.Ok (⟨n, ⟨d + 1113, dd + 1113, l + 1113, ep, lep, es, ps⟩, .N, cv, as, aep, s0 + 1134, t⟩ : LS)) (hx : xs[n]? = some (.int x xt)) (hk : x.fmod 5 = 4) (ho : heO ps (t + 11) none = none) (ha : (asV as).length ≤ 64) : ∃ S', Step b c w xs t1 t2 t3 (⟨n, ⟨d + 1113, dd + 1113, l + 1113, ep, lep, es, ps⟩, .N, cv, as, aep, s0 + 1134, t⟩ : LS) S' := by
  have hJ : (jTN4 (tW b c w).params xs (asV as) n t1 t2 t3 d l dd ep lep aep es ps x xt cv (0, .none, 0, .none) (3 * ps.length) (2 * ps.length) 0 0 0 0 0 0 .none .none .none .none .none [] #[] ((hvs ((x.fdiv 5).fmod 4) ps).map fun e => Value.int e.2.v e.2.u) (hvs ((x.fdiv 5).fmod 4) ps).length s0 t) = LS.J (tW b c w).params xs t1 t2 t3 (⟨n, ⟨d + 1113, dd + 1113, l + 1113, ep, lep, es, ps⟩, .N, cv, as, aep, s0 + 1134, t⟩ : LS) ⟨n + 1, ⟨((3 * ps.length) + (s0 + 1146)), ((3 * ps.length) + (s0 + 1145)), l + 1113, es.length, lep, es, ps⟩, (.S t (.int x xt) (t + 9) (.int (x.fmod 5) (t + 2)) (t + 10) (.int (x.fdiv 20) (t + 8)) (t + 11 + (2 * ps.length)) (.ref (s0 + 1139)) .no), (some (.int ((x.fdiv 5).fmod 4) (t + 6))), as ++ [⟨((3 * ps.length) + (s0 + 1143)), ⟨d + 1113, dd + 1113, l + 1113, ep, lep, es, ps⟩⟩], aep + 1, ((3 * ps.length) + (s0 + 1160)), (t + 11 + (2 * ps.length) + 5 + 23 + 1)⟩ es ep := by
    unfold LS.J
    rw [asV_app]
    rfl
  have hT := (tkN4 (b := b) (c := c) (w := w) xs (asV as) n t1 t2 t3 d l dd ep lep aep es ps x xt cv (0, .none, 0, .none) 0 0 0 0 0 0 .none .none .none .none .none [] #[] s0 t hS.inv hx hk ho ha)
  rw [hJ] at hT
  exact ⟨_, stepC (S := (⟨n, ⟨d + 1113, dd + 1113, l + 1113, ep, lep, es, ps⟩, .N, cv, as, aep, s0 + 1134, t⟩ : LS)) hS (ta := ((3 * ps.length) + (s0 + 1143))) (dd' := ((3 * ps.length) + (s0 + 1145))) (d' := ((3 * ps.length) + (s0 + 1146))) (ep' := es.length) (fr' := (.S t (.int x xt) (t + 9) (.int (x.fmod 5) (t + 2)) (t + 10) (.int (x.fdiv 20) (t + 8)) (t + 11 + (2 * ps.length)) (.ref (s0 + 1139)) .no)) (cv' := (some (.int ((x.fdiv 5).fmod 4) (t + 6))))
    (by show s0 + 1134 ≤ _; omega) (by omega) (by omega) (by omega) Fr.noConfusion m0 (mt m0) (mt (mt m0)) hT⟩
theorem spN3 {xs : List Value} {n t1 t2 t3 d l dd ep lep aep : Nat} {es : List E} {ps : List (Nat × E)} {x : Int} {xt : Nat} {cv : Option Value} {as : List AE} {s0 t : Nat} {o1 : Option (Nat × Value)} (hS : LS.Ok (⟨n, ⟨d + 1113, dd + 1113, l + 1113, ep, lep, es, ps⟩, .N, cv, as, aep, s0 + 1134, t⟩ : LS)) (hx : xs[n]? = some (.int x xt)) (hk : x.fmod 5 = 3) (ho : heO ps (t + 11) none = none) (hh : hvs ((x.fdiv 5).fmod 4) ps = []) (hf : esFind es ((x.fdiv 5).fmod 4) = none) (ho1 : wiO ps ((t + 11 + (2 * ps.length) + 7) + 1) none = o1) (hw : wos ((x.fdiv 5).fmod 4) ps = ps) : ∃ S', Step b c w xs t1 t2 t3 (⟨n, ⟨d + 1113, dd + 1113, l + 1113, ep, lep, es, ps⟩, .N, cv, as, aep, s0 + 1134, t⟩ : LS) S' := by
  exact ⟨_, stepL (S := (⟨n, ⟨d + 1113, dd + 1113, l + 1113, ep, lep, es, ps⟩, .N, cv, as, aep, s0 + 1134, t⟩ : LS)) hS (l' := ((3 * ps.length) + (s0 + 1150))) (lep' := (wos ((x.fdiv 5).fmod 4) ps).length) (ep' := ep) (es' := es) (ps' := wos ((x.fdiv 5).fmod 4) ps) (fr' := (.S t (.int x xt) (t + 9) (.int (x.fmod 5) (t + 2)) (t + 10) (.int (x.fdiv 20) (t + 8)) (t + 11 + (2 * ps.length)) (.ref (s0 + 1139)) (.yes (t + 11 + (2 * ps.length) + 6) (.ref ((3 * ps.length) + (s0 + 1146))) true))) (cv' := (some (.int ((x.fdiv 5).fmod 4) (t + 6))))
    (by rw [hw]; exact hS.inv.cd.same) hS.inv.cd.good (by show s0 + 1134 ≤ _; omega) (by omega) Fr.noConfusion (memA rfl) (fun q hq => .inl (wos_sub q hq)) (tkN3 (b := b) (c := c) (w := w) xs (asV as) n t1 t2 t3 d l dd ep lep aep es ps x xt cv (0, .none, 0, .none) 0 0 0 0 0 0 .none .none .none .none .none [] #[] o1 s0 t hS.inv hx hk ho hh hf ho1)⟩
theorem turn_ok {xs : List Value} {t1 t2 t3 : Nat} {S : LS} (hS : S.Ok) {x : Int} {xt : Nat} (hx : xs[S.n]? = some (.int x xt)) (hn : S.n ≤ 63) : ∃ S', Step b c w xs t1 t2 t3 S S' := by
  obtain ⟨n, ⟨d, dd, l, ep, lep, es, ps⟩, fr, cv, as, aep, sz, t⟩ := S
  have q1 : 1113 ≤ d := hS.inv.d.1.ge
  have q2 : 1113 ≤ dd := hS.inv.dd.1.ge
  have q3 : 1113 ≤ l := hS.inv.l.1.ge
  have q4 : 1134 ≤ sz := hS.inv.big
  obtain ⟨d, rfl⟩ : ∃ y, d = y + 1113 := ⟨d - 1113, by omega⟩
  obtain ⟨dd, rfl⟩ : ∃ y, dd = y + 1113 := ⟨dd - 1113, by omega⟩
  obtain ⟨l, rfl⟩ : ∃ y, l = y + 1113 := ⟨l - 1113, by omega⟩
  obtain ⟨s0, rfl⟩ : ∃ y, sz = y + 1134 := ⟨sz - 1134, by omega⟩
  have hx : xs[n]? = some (.int x xt) := hx
  have hkk : x.fmod 5 = 0 ∨ x.fmod 5 = 1 ∨ x.fmod 5 = 2 ∨ x.fmod 5 = 3 ∨ x.fmod 5 = 4 := by
    have h1 := Int.fmod_nonneg_of_pos x (show (0 : Int) < 5 by decide)
    have h2 := Int.fmod_lt_of_pos x (show (0 : Int) < 5 by decide)
    omega
  have hk4 : 0 ≤ (x.fdiv 5).fmod 4 ∧ (x.fdiv 5).fmod 4 < 4 := ⟨Int.fmod_nonneg_of_pos _ (by decide), Int.fmod_lt_of_pos _ (by decide)⟩
  have ha : (asV as).length ≤ 64 := by
    have h1 : as.length ≤ n := hS.len
    have h2 : n ≤ 63 := hn
    unfold asV
    rw [List.length_map]
    omega
  have hsm : kvp ps = kve es := hS.inv.cd.same
  rcases same_cases (key := (x.fdiv 5).fmod 4) hsm hS.inv.cd.good.1 with ⟨hf, hh, hw, -⟩ | ⟨e, p, hf, hh, hp, hv, hkd, hkv⟩
  · cases fr with
    | N =>
      obtain rfl : ps = [] := hS.nps rfl
      have ho : heO [] (t + 11) none = none := rfl
      rcases hkk with hk | hk | hk | hk | hk
      · exact spN0 hS hk4 hx hk ho hh hf rfl
      · exact spN1 hS hx hk ho hh hf rfl hw
      · exact spN2 hS hx hk ho hh hf
      · exact spN3 hS hx hk ho hh hf rfl hw
      · exact spN4 hS hx hk ho ha
    | S u1 v1 u2 v2 u3 v3 u4 v4 tl =>
      by_cases hp : ps = []
      · subst hp
        have ho : heO [] (t + 11) none = none := rfl
        rcases hkk with hk | hk | hk | hk | hk
        · exact sp0mn hS hk4 hx hk ho hh hf rfl
        · exact sp1mn hS hx hk ho hh hf rfl hw
        · exact sp2mn hS hx hk ho hh hf
        · cases tl with
          | no => exact sp3mnE hS hx hk ho hh hf rfl hw
          | yes u5 v5 r =>
            cases r with
            | false => exact sp3mnU hS hx hk ho hh hf rfl hw
            | true => exact sp3mnR hS hx hk ho hh hf rfl hw
        · exact sp4n hS hx hk ho ha
      · obtain ⟨o, ho⟩ := heO_ne hp (t + 11)
        rcases hkk with hk | hk | hk | hk | hk
        · exact sp0ms hS hk4 hx hk ho hh hf rfl
        · exact sp1ms hS hx hk ho hh hf rfl hw
        · exact sp2ms hS hx hk ho hh hf
        · cases tl with
          | no => exact sp3msE hS hx hk ho hh hf rfl hw
          | yes u5 v5 r =>
            cases r with
            | false => exact sp3msU hS hx hk ho hh hf rfl hw
            | true => exact sp3msR hS hx hk ho hh hf rfl hw
        · exact sp4s hS hx hk ho ha
  · have hne : ps ≠ [] := fun z => by rw [z] at hp; exact List.not_mem_nil hp
    obtain ⟨o, ho⟩ := heO_ne hne (t + 11)
    cases fr with
    | N => exact absurd (hS.nps rfl) hne
    | S u1 v1 u2 v2 u3 v3 u4 v4 tl =>
      rcases hkk with hk | hk | hk | hk | hk
      · obtain ⟨w1, ho1⟩ := wiO_ne hne ((t + 11 + (2 * ps.length) + 8) + 1)
        obtain ⟨w2, ho2⟩ := wiO_ne hne ((t + 11 + (2 * ps.length) + 8) + 1 + 2 * ps.length)
        exact sp0h hS hx hk ho hh hf hv ho1 ho2 hkv
      · exact sp1h hS hx hk ho hh hf hv rfl hkd
      · exact sp2h hS hx hk ho hh hf hv
      · cases tl with
        | no => exact sp3hE hS hx hk ho hh hf hv rfl hkd
        | yes u5 v5 r => exact sp3hT hS hx hk ho hh hf hv rfl hkd
      · exact sp4s hS hx hk ho ha
end Mine
set_option linter.all false
namespace Mine
open PySem PySem.W
variable {b c : Bool} {w : World}
theorem KK_lt {w : World} {a : Nat} {o : Obj} (q : KK w a = some o) : a < 1113 := by
  rcases Nat.lt_or_ge a 1113 with h | h
  · exact h
  · rw [KK_none h] at q; cases q
/-- the loop over the script -/
theorem loop1 {xs : List Value} {t1 t2 t3 : Nat} (hxs : ∀ v ∈ xs, ∃ x xt, v = Value.int x xt) (h63 : xs.length ≤ 63)
    {k : Result → Sem PySem.Fin} {g : Bool} {lv : List Value} {fb0 : List Stmt} {pos : Pos} {kp : List Value} {ca1 : Args} {ps1 : Pos} {st : List Frame} (hW : st.map Frame.where_ = [((.builtin "claim.caller" ca1), ps1)]) (hb : topHandled st = none) :
    ∀ (j : Nat) (S : LS) (s : Shared) (pos' : Pos), S.Ok → S.n + j = xs.length → (∀ a o, KK (tW b c w) a = some o → s.heap.get? a = some o) → Holds (tW b c w).params xs t1 t2 t3 s.heap S → s.toks = S.tok →
    ∃ S' h' pos'', S'.Ok ∧ S'.n = xs.length ∧ Comes (mdl tP (tW b c w)) s ⟨tD cLaw, cLaw, pos', .ret k none g lv (.func fb0 envL) pos kp :: st⟩ { s with heap := h', toks := S'.tok } ⟨tD cLaw, cLaw, pos'', .ret k none g lv (.func fb0 envL) pos kp :: st⟩ ∧
      Holds (tW b c w).params xs t1 t2 t3 h' S' ∧ (∀ a o, KK (tW b c w) a = some o → h'.get? a = some o) ∧ ∀ (x : Nat) o, s.heap.get? x = some o → (x < 1114 ∨ x = 1115) → h'.get? x = some o
  | 0, S, s, pos', hS, hj, hK, hh, ht => ⟨S, s.heap, pos', hS, by omega, by rw [← ht]; exact .refl _ _, hh, hK, fun x o h _ => h⟩
  | j + 1, S, s, pos', hS, hj, hK, hh, ht => by
    have hn : S.n < xs.length := by omega
    obtain ⟨x, xt, hx⟩ := hxs _ (List.getElem_mem hn)
    have hx' : xs[S.n]? = some (.int x xt) := by rw [List.getElem?_eq_getElem hn, hx]
    obtain ⟨S1, H⟩ := turn_ok (b := b) (c := c) (w := w) (t1 := t1) (t2 := t2) (t3 := t3) hS hx' (by omega)
    obtain ⟨h1, p1, C1, hh1, k1⟩ := H.heap hS (k := k) (g := g) (lv := lv) (fb0 := fb0) (pos := pos) (pos' := pos') (kp := kp) hW hb hK hh ht
    have hK1 : ∀ a o, KK (tW b c w) a = some o → h1.get? a = some o := fun a o q => k1 a o (hK a o q) (.inl (Nat.lt_succ_of_lt (KK_lt q)))
    obtain ⟨S', h', p', a1, a2, a3, a4, a5, a6⟩ := loop1 hxs h63 hW hb j S1 { s with heap := h1, toks := S1.tok } p1 H.ok (by rw [H.n]; omega) hK1 hh1 rfl
    exact ⟨S', h', p', a1, a2, C1.trans a3, a4, a5, fun x o h hx => a6 x o (k1 x o h hx) hx⟩
end Mine
set_option linter.all false
namespace Mine
open PySem PySem.W
variable {b c : Bool} {w : World}
/-- the tuples of the due read as pairs -/
theorem rdD {N : List (Nat × List (Nat × Obj))} {i : Nat} {ds : List (Nat × E)} (h : (i, ds.map tpD) ∈ N) : Rd N (ds.map rfD) ((ds.map (·.2)).map pKV) := by
  refine ⟨fun hp H => ?_, layKV _, depthKV _⟩
  have H := H _ h
  have go : ∀ l : List (Nat × E), (∀ q ∈ l.map tpD, hp.get? q.1 = some q.2) → ∃ as, ReadsAll hp (l.map rfD) ((l.map (·.2)).map pKV) as := fun l => by
    induction l with
    | nil => exact fun _ => ⟨_, .nil⟩
    | cons d r ih =>
      intro H
      obtain ⟨as, q⟩ := ih fun q hq => H q (List.mem_cons_of_mem _ hq)
      have h0 : hp.get? d.1 = some (tupObj (kv d.2)) := H (tpD d) List.mem_cons_self
      exact ⟨_, .cons (.tuple h0 rfl rfl (.cons (.int _ _) (.cons (.int _ _) .nil))) q⟩
  exact go ds H
theorem okC {as : List Value} {it n aep ta d dd l ep lep : Nat} {es : List E} {ps : List (Nat × E)} {s0 : Nat} (hx : as[n]? = some (.ref (ta + 1113))) (h8 : es.length ≤ 8) (hsm : kvp ps = kve es) (hd : d + 1113 < s0 + 1134) :
    OpsOk (mdl tP (tW b c w)) (KK (tW b c w)) (oC as it n aep ta d dd l ep lep es ps s0) :=
  ⟨fun cc sz tok _ _ => ⟨sLiNext_ok hx sz tok, nd0⟩, fun sz tok => mExt_ok (by omega) rfl rfl sz tok, fun cc sz tok _ _ => ⟨sItems_ok (by omega) (by omega) (by omega) h8 sz tok, nd0⟩,
    fun cc sz tok _ _ => ⟨sLsNe_ok (rdKV m0) (rdD (mt m0)) (by
      rw [eqvKV, List.map_map]
      have : es.map (fun e => (e.k, e.v)) = ps.map ((fun e : E => (e.k, e.v)) ∘ fun x : Nat × E => x.2) := hsm.symm
      rw [decide_eq_true this]; rfl) sz tok, nd0⟩, trivial⟩
/-- one turn of the comparison, in the heap -/
theorem turnC {as : List Value} {it n aep ta d dd l ep lep : Nat} {es : List E} {ps : List (Nat × E)} {s0 t : Nat} {fr fr' : Obj} (hx : as[n]? = some (.ref (ta + 1113))) (h8 : es.length ≤ 8) (hsm : kvp ps = kve es) (hd : d + 1113 < s0 + 1134)
    (nd : [it + 1113, 1128, 1114, ta + 1113, d + 1113, l + 1113, dd + 1113].Nodup) (hP : ∀ q ∈ ps.map tpD, q.1 ∉ [it + 1113, 1128, 1114, ta + 1113, d + 1113, l + 1113, dd + 1113])
    (Q : ∀ k g lv fb0 pos pos' kp ca1 ps1 gens, qC b c w as it n aep ta d dd l ep lep es ps s0 fr fr' t k g lv fb0 pos pos' kp ca1 ps1 gens)
    {s : Shared} {k : Result → Sem PySem.Fin} {g : Bool} {lv : List Value} {fb0 : List Stmt} {pos pos' : Pos} {kp : List Value} {ca1 : Args} {ps1 : Pos} {st : List Frame} (hW : st.map Frame.where_ = [((.builtin "claim.caller" ca1), ps1)]) (hb : topHandled st = none)
    (hK : ∀ a o, KK (tW b c w) a = some o → s.heap.get? a = some o) (hI : ∀ q ∈ slC as it n aep ta d dd l ep lep es ps fr, s.heap.get? q.1 = some q.2) (hPs : ∀ q ∈ ps.map tpD, s.heap.get? q.1 = some q.2) (hs : s.heap.objs.size = s0 + 1134) (ht : s.toks = t) :
    ∃ h' pos'', Comes (mdl tP (tW b c w)) s ⟨tD (cLaw2 (it + 1113)), cLaw2 (it + 1113), pos', .ret k none g lv (.func fb0 envL) pos kp :: st⟩ { s with heap := h', toks := t + 2 } ⟨tD (cLaw2 (it + 1113)), cLaw2 (it + 1113), pos'', .ret k none g lv (.func fb0 envL) pos kp :: st⟩ ∧
      h'.objs.size = es.length + (s0 + 1142) ∧ h'.get? (it + 1113) = some (liObj 1128 (n + 1)) ∧ h'.get? 1114 = some fr' ∧ ∀ (x : Nat) o, s.heap.get? x = some o → x ≠ it + 1113 → x ≠ 1114 → h'.get? x = some o := by
  obtain ⟨h, ⟨gens⟩, d0, toks, os⟩ := s
  replace ht : toks = t := ht
  subst ht
  obtain ⟨out, h1, e1, C, c1, c2, _, c4⟩ := go (d := d0) (os := os) (bot := st) hW hb hK
    (show ∀ q ∈ slC as it n aep ta d dd l ep lep es ps fr, KK (tW b c w) q.1 = none from all_cons (KK_none (Nat.le_add_left _ _)) (all_cons (KK_none (show 1113 ≤ 1128 by decide)) (all_cons (KK_none (show 1113 ≤ 1114 by decide)) (all_cons (KK_none (Nat.le_add_left _ _)) (all_cons (KK_none (Nat.le_add_left _ _)) (all_cons (KK_none (Nat.le_add_left _ _)) (all_cons (KK_none (Nat.le_add_left _ _)) all_nil)))))))
    hI nd (fun l hl q hq => by
      rw [List.mem_singleton.mp hl] at hq
      exact ⟨hPs q hq, hP q hq⟩) hs rfl rfl (okC hx h8 hsm hd) (Q k g lv fb0 pos pos' kp ca1 ps1 gens)
  simp only [turns, Prod.mk.injEq, appG_eq, List.append_nil] at e1
  obtain ⟨e1, e2, e3, e4, e5, e6, e7⟩ := e1
  rw [tD_eq] at C e1
  rw [e1, e2, e3, e5, e6] at C
  have hJ : ∀ q ∈ slC as it (n + 1) aep ta d dd l ep lep es ps fr', h1.get? q.1 = some q.2 := fun q hq => by
    have : some q ∈ (slC as it (n + 1) aep ta d dd l ep lep es ps fr').map some := List.mem_map.mpr ⟨q, hq, rfl⟩
    rw [← e7] at this
    obtain ⟨i, _, hi⟩ := List.mem_map.mp this
    exact c2 i q.1 q.2 hi
  refine ⟨h1, out.pos, ?_, c1.trans e4, hJ (it + 1113, _) m0, hJ (1114, _) (mt (mt m0)), fun x o hx n1 n2 => ?_⟩
  · rw [tD_eq]
    exact C
  · by_cases hm : x ∈ [it + 1113, 1128, 1114, ta + 1113, d + 1113, l + 1113, dd + 1113]
    · have same : ∀ {o' : Obj}, (x, o') ∈ slC as it n aep ta d dd l ep lep es ps fr → (x, o') ∈ slC as it (n + 1) aep ta d dd l ep lep es ps fr' → h1.get? x = some o := fun {o'} q1 q2 => by
        have := hI _ q1
        rw [show (Shared.heap ⟨h, ⟨gens⟩, d0, toks, os⟩).get? x = h.get? x from rfl] at hx
        rw [show (Shared.heap ⟨h, ⟨gens⟩, d0, toks, os⟩).get? (x, o').1 = h.get? x from rfl, hx] at this
        rw [this]
        exact hJ _ q2
      simp only [List.mem_cons, List.not_mem_nil, or_false] at hm
      rcases hm with z | z | z | z | z | z | z
      · exact absurd z n1
      · subst z; exact same (mt m0) (mt m0)
      · exact absurd z n2
      · subst z; exact same (mt (mt (mt m0))) (mt (mt (mt m0)))
      · subst z; exact same (mt (mt (mt (mt m0)))) (mt (mt (mt (mt m0))))
      · subst z; exact same (mt (mt (mt (mt (mt m0))))) (mt (mt (mt (mt (mt m0)))))
      · subst z; exact same (mt (mt (mt (mt (mt (mt m0)))))) (mt (mt (mt (mt (mt (mt m0))))))
    · exact c4 x o hx hm
/-- the law's frame in the last loop -/
noncomputable def Fr.x : Fr → List (Str × Nat × Value)
  | .N => []
  | .S u1 v1 u2 v2 u3 v3 u4 v4 tl => [(str "x", u1, v1), (str "kind", u2, v2), (str "amount", u3, v3), (str "held", u4, v4)] ++ tl.ex
noncomputable def Fr.e : Fr → Nat
  | .N => 3
  | .S _ _ _ _ _ _ _ _ tl => tl.ep
noncomputable def Fr.s : Fr → Array (Option Value)
  | .N => #[]
  | .S _ _ _ _ _ _ _ _ tl => tl.sl
noncomputable def odX : Option (Nat × Value × Nat × Value) → List (Str × Nat × Value)
  | none => []
  | some (u6, v6, u7, v7) => [(str "one", u6, v6), (str "due", u7, v7)]
noncomputable def odN : Option (Nat × Value × Nat × Value) → Nat
  | none => 0
  | some _ => 2
noncomputable def frC (P : Params) (t1 t2 t3 l0 d0 : Nat) (fr : Fr) (od : Option (Nat × Value × Nat × Value)) : Obj := fr3 P t1 t2 t3 l0 d0 (fr.x ++ odX od) (fr.e + odN od) fr.s
theorem Fr.obj_eq {P : Params} {t1 t2 t3 l d : Nat} {fr : Fr} : fr.obj P t1 t2 t3 l d = fr3 P t1 t2 t3 l d fr.x fr.e fr.s := by
  cases fr <;> rfl
theorem frC_none {P : Params} {t1 t2 t3 l d : Nat} {fr : Fr} : frC P t1 t2 t3 l d fr none = fr.obj P t1 t2 t3 l d := by
  rw [Fr.obj_eq]
  unfold frC odX odN
  rw [List.append_nil, Nat.add_zero]
theorem qC_all (as : List Value) (it n aep ta d dd l ep lep : Nat) (es : List E) (ps : List (Nat × E)) (s0 t1 t2 t3 l0 d0 t : Nat) (fr : Fr) (od : Option (Nat × Value × Nat × Value)) :
    ∃ od', ∀ k g lv fb0 pos pos' kp ca1 ps1 gens, qC b c w as it n aep ta d dd l ep lep es ps s0 (frC (tW b c w).params t1 t2 t3 l0 d0 fr od) (frC (tW b c w).params t1 t2 t3 l0 d0 fr (some od')) t k g lv fb0 pos pos' kp ca1 ps1 gens := by
  cases fr with
  | N =>
    cases od with
    | none => exact ⟨(t, .ref (d + 1113), t + 1, .ref (l + 1113)), fun k g lv fb0 pos pos' kp ca1 ps1 gens => rCN0 as it n aep ta d dd l ep lep es ps s0 t1 t2 t3 l0 d0 0 0 0 0 0 0 0 .none .none .none .none .none .none .none #[] t k g lv fb0 pos pos' kp ca1 ps1 gens⟩
    | some o =>
      obtain ⟨u6, v6, u7, v7⟩ := o
      exact ⟨(u6, .ref (d + 1113), u7, .ref (l + 1113)), fun k g lv fb0 pos pos' kp ca1 ps1 gens => rCN1 as it n aep ta d dd l ep lep es ps s0 t1 t2 t3 l0 d0 0 0 0 0 0 u6 u7 .none .none .none .none .none v6 v7 #[] t k g lv fb0 pos pos' kp ca1 ps1 gens⟩
  | S u1 v1 u2 v2 u3 v3 u4 v4 tl =>
    cases tl with
    | no =>
      cases od with
      | none => exact ⟨(t, .ref (d + 1113), t + 1, .ref (l + 1113)), fun k g lv fb0 pos pos' kp ca1 ps1 gens => rCE0 as it n aep ta d dd l ep lep es ps s0 t1 t2 t3 l0 d0 u1 u2 u3 u4 0 0 0 v1 v2 v3 v4 .none .none .none #[] t k g lv fb0 pos pos' kp ca1 ps1 gens⟩
      | some o =>
        obtain ⟨u6, v6, u7, v7⟩ := o
        exact ⟨(u6, .ref (d + 1113), u7, .ref (l + 1113)), fun k g lv fb0 pos pos' kp ca1 ps1 gens => rCE1 as it n aep ta d dd l ep lep es ps s0 t1 t2 t3 l0 d0 u1 u2 u3 u4 0 u6 u7 v1 v2 v3 v4 .none v6 v7 #[] t k g lv fb0 pos pos' kp ca1 ps1 gens⟩
    | yes u5 v5 r =>
      cases od with
      | none => exact ⟨(t, .ref (d + 1113), t + 1, .ref (l + 1113)), fun k g lv fb0 pos pos' kp ca1 ps1 gens => rCT0 as it n aep ta d dd l ep lep es ps s0 t1 t2 t3 l0 d0 u1 u2 u3 u4 u5 0 0 v1 v2 v3 v4 v5 .none .none (slF r) t k g lv fb0 pos pos' kp ca1 ps1 gens⟩
      | some o =>
        obtain ⟨u6, v6, u7, v7⟩ := o
        exact ⟨(u6, .ref (d + 1113), u7, .ref (l + 1113)), fun k g lv fb0 pos pos' kp ca1 ps1 gens => rCT1 as it n aep ta d dd l ep lep es ps s0 t1 t2 t3 l0 d0 u1 u2 u3 u4 u5 u6 u7 v1 v2 v3 v4 v5 v6 v7 (slF r) t k g lv fb0 pos pos' kp ca1 ps1 gens⟩
theorem ty_ne {a b : String} (h : a ≠ b) : (Value.type a) ≠ Value.type b := fun z => h (by injection z)
/-- the loop over what was laid aside -/
theorem loop2 {aes : List AE} {it aep t1 t2 t3 l0 d0 : Nat} {fr : Fr} (h21 : 21 ≤ it) (hae : ∀ a ∈ aes, Cd a.c ∧ ∀ q ∈ a.objs, Adr q.1 ∧ q.1 < it + 1113)
    {k : Result → Sem PySem.Fin} {g : Bool} {lv : List Value} {fb0 : List Stmt} {pos : Pos} {kp : List Value} {ca1 : Args} {ps1 : Pos} {st : List Frame} (hW : st.map Frame.where_ = [((.builtin "claim.caller" ca1), ps1)]) (hb : topHandled st = none) :
    ∀ (j n : Nat) (od : Option (Nat × Value × Nat × Value)) (s : Shared) (pos' : Pos), n + j = aes.length → (∀ a o, KK (tW b c w) a = some o → s.heap.get? a = some o) → it + 1113 < s.heap.objs.size →
      s.heap.get? (it + 1113) = some (liObj 1128 n) → s.heap.get? 1128 = some (lsObj (asV aes) aep) → s.heap.get? 1114 = some (frC (tW b c w).params t1 t2 t3 l0 d0 fr od) → (∀ a ∈ aes, ∀ q ∈ a.objs, s.heap.get? q.1 = some q.2) →
    ∃ od' h' t' pos'', (j ≠ 0 → od' ≠ none) ∧ (j = 0 → od' = od) ∧ Comes (mdl tP (tW b c w)) s ⟨tD (cLaw2 (it + 1113)), cLaw2 (it + 1113), pos', .ret k none g lv (.func fb0 envL) pos kp :: st⟩ { s with heap := h', toks := t' } ⟨tD (cLaw2 (it + 1113)), cLaw2 (it + 1113), pos'', .ret k none g lv (.func fb0 envL) pos kp :: st⟩ ∧
      h'.get? (it + 1113) = some (liObj 1128 aes.length) ∧ h'.get? 1114 = some (frC (tW b c w).params t1 t2 t3 l0 d0 fr od') ∧ it + 1113 < h'.objs.size ∧ ∀ (x : Nat) o, s.heap.get? x = some o → x ≠ it + 1113 → x ≠ 1114 → h'.get? x = some o
  | 0, n, od, s, pos', hj, hK, hz, h0, h1, h2, hh => ⟨od, s.heap, s.toks, pos', fun z => absurd rfl z, fun _ => rfl, .refl _ _, by rw [h0, show n = aes.length by omega], h2, hz, fun x o h _ _ => h⟩
  | j + 1, n, od, s, pos', hj, hK, hz, h0, h1, h2, hh => by
    have hit : 1134 ≤ it + 1113 := Nat.add_le_add_right h21 1113
    have hn : n < aes.length := by omega
    have ha : aes[n] ∈ aes := List.getElem_mem hn
    have hx : (asV aes)[n]? = some (.ref aes[n].ta) := by
      unfold asV
      rw [List.getElem?_map, List.getElem?_eq_getElem hn]; rfl
    obtain ⟨hcd, hadr⟩ := hae _ ha
    have hob := hh _ ha
    generalize aes[n] = a at hx hcd hadr hob
    obtain ⟨ta, d, dd, l, ep, lep, es, ps⟩ := a
    have ata := hadr (ta, tupObj [.ref d, .ref l]) m0
    have ad := hadr (d, dObj clsC (some dd) es ep) (mt m0)
    have add := hadr (dd, dObj clsD none [] 0) (mt (mt m0))
    have al := hadr (l, lsObj (ps.map rfD) lep) (mt (mt (mt m0)))
    have ap : ∀ q ∈ ps.map tpD, Adr q.1 ∧ q.1 < it + 1113 := fun q hq => hadr q (mt (mt (mt (mt hq))))
    have ota : s.heap.get? ta = some (tupObj [.ref d, .ref l]) := hob (ta, _) m0
    have o1 : s.heap.get? d = some (dObj clsC (some dd) es ep) := hob (d, _) (mt m0)
    have o2 : s.heap.get? dd = some (dObj clsD none [] 0) := hob (dd, _) (mt (mt m0))
    have o3 : s.heap.get? l = some (lsObj (ps.map rfD) lep) := hob (l, _) (mt (mt (mt m0)))
    have op : ∀ q ∈ ps.map tpD, s.heap.get? q.1 = some q.2 := fun q hq => hob q (mt (mt (mt (mt hq))))
    have e1 : ta ≠ d := fun z => by
      subst z; rw [ota] at o1
      exact absurd (congrArg Obj.cls (Option.some.inj o1)) (fun z => by cases z)
    have e2 : ta ≠ dd := fun z => by
      subst z; rw [ota] at o2
      exact absurd (congrArg Obj.cls (Option.some.inj o2)) (ty_ne (by decide))
    have e3 : ta ≠ l := fun z => by
      subst z; rw [ota] at o3
      exact absurd (congrArg Obj.cls (Option.some.inj o3)) (ty_ne (by decide))
    have e4 : ∀ q ∈ ps.map tpD, q.1 ≠ ta := fun q hq z => by
      have h := op q hq
      rw [z, ota] at h
      obtain ⟨p, hp, rfl⟩ := List.mem_map.mp hq
      have h := congrArg Obj.data (Option.some.inj h)
      exact absurd h (fun z => by cases z)
    have c1 := hcd.n1
    have c2 := hcd.n2
    have c3 := hcd.n3
    have cp := hcd.np
    have hsm := hcd.same
    have h8 := hcd.len8
    simp only at ata ad add al c1 c2 c3 cp hsm h8
    have q1 := ata.1.ge
    have q2 := ad.1.ge
    have q3 := add.1.ge
    have q4 := al.1.ge
    have n1 := ata.1.ne
    have n2 := ad.1.ne
    have n3 := add.1.ne
    have n4 := al.1.ne
    obtain ⟨ta, rfl⟩ : ∃ y, ta = y + 1113 := ⟨ta - 1113, by omega⟩
    obtain ⟨d, rfl⟩ : ∃ y, d = y + 1113 := ⟨d - 1113, by omega⟩
    obtain ⟨dd, rfl⟩ : ∃ y, dd = y + 1113 := ⟨dd - 1113, by omega⟩
    obtain ⟨l, rfl⟩ : ∃ y, l = y + 1113 := ⟨l - 1113, by omega⟩
    obtain ⟨s0, hs0⟩ : ∃ y, s.heap.objs.size = y + 1134 := ⟨s.heap.objs.size - 1134, by omega⟩
    obtain ⟨od1, Q⟩ := qC_all (b := b) (c := c) (w := w) (asV aes) it n aep ta d dd l ep lep es ps s0 t1 t2 t3 l0 d0 s.toks fr od
    obtain ⟨h', p', C, z1, z2, z3, z4⟩ := turnC hx h8 hsm (by omega) (ndc (nmc (Nat.ne_of_gt (Nat.lt_of_lt_of_le (by decide) hit)) (nmc (Nat.ne_of_gt (Nat.lt_of_lt_of_le (by decide) hit)) (nmc (Nat.ne_of_gt ata.2) (nmc (Nat.ne_of_gt ad.2) (nmc (Nat.ne_of_gt al.2) (nmc (Nat.ne_of_gt add.2) nmn)))))) (ndc (nmc (by decide) (nmc n1.2.2.2.2.symm (nmc n2.2.2.2.2.symm (nmc n4.2.2.2.2.symm (nmc n3.2.2.2.2.symm nmn))))) (ndc (nmc n1.2.2.1.symm (nmc n2.2.2.1.symm (nmc n4.2.2.1.symm (nmc n3.2.2.1.symm nmn)))) (ndc (nmc e1 (nmc e3 (nmc e2 nmn))) (ndc (nmc c2 (nmc c1 nmn)) (ndc (nmc c3 nmn) (ndc nmn List.nodup_nil))))))) (fun q hq => by
      have r1 := ap q hq
      have r2 := r1.1.ne
      have r3 := cp q hq
      exact nmc (Nat.ne_of_lt r1.2) (nmc r2.2.2.2.2 (nmc r2.2.2.1 (nmc (e4 q hq) (nmc r3.1 (nmc r3.2.1 (nmc r3.2.2 nmn))))))) Q (k := k) (g := g) (lv := lv) (fb0 := fb0) (pos := pos) (pos' := pos') (kp := kp) hW hb hK
      (all_cons h0 (all_cons h1 (all_cons h2 (all_cons ota (all_cons o1 (all_cons o3 (all_cons o2 all_nil))))))) op hs0 rfl
    have far : ∀ x : Nat, Adr x ∧ x < it + 1113 → x ≠ it + 1113 ∧ x ≠ 1114 := fun x hx => ⟨Nat.ne_of_lt hx.2, hx.1.ne.2.2.1⟩
    obtain ⟨od', h2', t', p'', y1, y0, y2, y3, y4, y5, y6⟩ := loop2 h21 hae hW hb j (n + 1) (some od1) { s with heap := h', toks := s.toks + 2 } p' (by omega) (fun a o q => by
        have := KK_lt q
        exact z4 a o (hK a o q) (by omega) (by omega)) (by show it + 1113 < h'.objs.size; rw [z1]; omega) z2 (z4 _ _ h1 (by omega) (by decide)) z3
      (fun a ha q hq => z4 _ _ (hh a ha q hq) (far _ ((hae a ha).2 q hq)).1 (far _ ((hae a ha).2 q hq)).2)
    refine ⟨od', h2', t', p'', fun _ => ?_, fun z => absurd z (Nat.succ_ne_zero j), C.trans y2, y3, y4, y5, fun x o hx r1 r2 => y6 x o (z4 x o hx r1 r2) r1 r2⟩
    by_cases hj0 : j = 0
    · rw [y0 hj0]; exact fun z => nomatch z
    · exact y1 hj0
end Mine
set_option linter.all false
namespace Mine
open PySem PySem.W PySem.Calls PyProof.Rows PySem.Spec
/-- the law's code table at the call -/
theorem kTab (w : World) : kget (tK w.params) 1109 = some tab0 := by kernel_rfl
/-- an object's class and what stands in one of its places -/
noncomputable def cdOf (o : Obj) (i : Nat) : Value × Option Value := (o.cls, match o.data with | .fields ⟨vs⟩ => vs[i]? | _ => none)
noncomputable def kgO (w : World) (a : Nat) : Option (Value × Option Value) := (kget (tK w.params) a).map fun o => cdOf o 11
theorem kCode (w : World) : kgO w 1111 = some (.type "code", some (.ref 1109)) := by kernel_rfl
theorem isTable {h : Heap} {w : World} {a P : Nat} (hk : ∀ x ∈ tK w.params, h.get? x.1 = some x.2) (hc : kgO w a = some (.type "code", some (.ref P))) : isCodeTable h P := by
  unfold kgO at hc
  cases he : kget (tK w.params) a with
  | none => rw [he] at hc; cases hc
  | some o =>
    rw [he] at hc
    have h1 := hk _ (kget_some he)
    simp only [Option.map_some, Option.some.injEq, cdOf, Prod.mk.injEq] at hc
    obtain ⟨c1, c2⟩ := hc
    cases hd : o.data with
    | fields vs =>
      rw [hd] at c2
      obtain ⟨vs⟩ := vs
      exact ⟨a, o, ⟨vs⟩, h1, c1, hd, by simpa using c2⟩
    | _ => rw [hd] at c2; cases c2
theorem get_lt {h : Heap} {a : Nat} {o : Obj} (e : h.get? a = some o) : a < h.objs.size := by
  rcases Nat.lt_or_ge a h.objs.size with z | z
  · exact z
  · unfold Heap.get? at e
    rw [Array.getElem?_eq_none z] at e
    cases e
end Mine
namespace Mine
open PySem PySem.W PySem.Calls PyProof.Rows PySem.Spec

theorem ends_mine {prog : Program} {w : World} {t : Sem PySem.Fin} {s s' : Shared} {f : Flow} {p' : Pos} (hreg : s.asleep)
    (C : Comes (model prog w) s ⟨t, .builtin "claim.caller" {}, default, []⟩ s' ⟨.pure (.done f), .builtin "claim.caller" {}, p', []⟩) (hl : leftWithCleanup s'.gens = false) :
    ∃ n s'', runN (denote table) prog w n s ⟨t, .builtin "claim.caller" {}, default, []⟩ = .halted (outcomeOf (.ok f)) s'' ∧
      schedN (denote table) prog w n (.single s ⟨t, .builtin "claim.caller" {}, default, []⟩) = .halted (outcomeOf (.ok f)) s'' ∧ s''.forget = s'.forget := by
  obtain ⟨n, hn⟩ := C
  have hh : (model prog w).runN (n + 1) s ⟨t, .builtin "claim.caller" {}, default, []⟩ = .halted (outcomeOf (.ok f)) s' := by
    rw [runN_snoc hn]
    show (match (model prog w).step s' ⟨leafOf (.ok f), .builtin "claim.caller" {}, p', []⟩ with | .go a b => _ | .halt a b => _) = _
    rw [step_leaf_nil]
    simp only [finish, hl, Bool.false_eq_true, if_false]
  obtain ⟨s'', hs, hr, hf⟩ := runNI_full (model prog w).den (model prog w).prog (model prog w).w hh (outcomeOf_ends (.ok f)) hreg
  exact ⟨n + 1, s'', hr, hs, hf⟩

/-- the value of a script of ints, laid -/
noncomputable def ivs : List Int → Nat → List (Int × Nat)
  | [], _ => []
  | x :: r, t => (x, t) :: ivs r (t + 1)
theorem ivs_len : ∀ (ns : List Int) (t : Nat), (ivs ns t).length = ns.length
  | [], _ => rfl
  | _ :: r, t => by simp [ivs, ivs_len r]
theorem has_ints {R : WRecords} : ∀ {ds : List WData}, WShape.hasItems R ds .int = true → ∃ ns : List Int, ds = ns.map WData.int
  | [], _ => ⟨[], rfl⟩
  | d :: r, h => by
    unfold WShape.hasItems at h
    obtain ⟨h1, h2⟩ := Bool.and_eq_true_iff.mp h
    obtain ⟨ns, rfl⟩ := has_ints h2
    obtain ⟨n, rfl⟩ : ∃ n, d = WData.int n := by
      cases d <;> first | exact ⟨_, rfl⟩ | exact Bool.noConfusion h1
    exact ⟨n :: ns, rfl⟩
theorem has_list {R : WRecords} {args : List WData} (h : WShape.hasAll R args [.list .int] = true) : ∃ ns : List Int, args = [.list (ns.map WData.int)] := by
  cases args with
  | nil => exact Bool.noConfusion h
  | cons d r =>
    unfold WShape.hasAll at h
    obtain ⟨h1, h2⟩ := Bool.and_eq_true_iff.mp h
    cases r with
    | cons d' r' => exact Bool.noConfusion h2
    | nil =>
      obtain ⟨ds, rfl, h3⟩ : ∃ ds, d = WData.list ds ∧ WShape.hasItems R ds .int = true := by
        cases d <;> first | exact ⟨_, rfl, (Bool.or_false _).symm.trans h1⟩ | exact Bool.noConfusion h1
      obtain ⟨ns, rfl⟩ := has_ints h3
      exact ⟨ns, rfl⟩
theorem lay_ns {R : WRecords} {cl : Str → Option Addr} {P : Params} {ord : List DictEntry → List DictEntry} : ∀ (ns : List Int) (s : Shared),
    layAllW R cl P ord (ns.map WData.int) s = some ((ivs ns s.toks).map (fun x => Value.int x.1 x.2), { s with toks := s.toks + ns.length })
  | [], s => by simp [layAllW, ivs]
  | n :: ns, s => by
    simp only [List.map_cons, layAllW, layW]
    rw [lay_ns ns { s with toks := s.toks + 1 }]
    simp only [ivs, List.map_cons, List.length_cons, Option.some.injEq, Prod.mk.injEq, true_and]
    congr 1
    omega

theorem asmRowK {l : OpenLaw} {q : Program} {loose : List Str} {kas : List Nat} {kl : Params → List (Nat × Obj)} {n0 t0 N : Nat} {d : DefRec} {kwd : List (Str × Expr)}
    (k1 : l.row.wellSaid = true) (left : LeftO l.prog q loose (fun _ => true) (fun s => (kas.map s.heap.get?, s.heap.objs.size, s.toks)) (fun w => ((kl w.params).map (fun x => some x.2), n0, t0)) N)
    (hkas : ∀ P, kas = (kl P).map (·.1)) (hdef : defOf q l.name = some (d, kwd)) (hp : l.prog.theDef l.name = some (d.params, d.body, d.scope)) (hk : kwWritten? d.params.kwonlyargs d.params.kw_defaults = some kwd)
    (ok : (chainsOk q && opensWell l.prog) = true) (hb : l.prog.bare) (hwr : l.writes = false) (hmost : l.most = some 63) (hw : l.row.toRowW.promised)
    (call : ∀ (w : World) (s : Shared) (ns : List Int), (∀ x ∈ kl w.params, s.heap.get? x.1 = some x.2) → s.heap.objs.size = n0 + 1 →
      s.heap.get? n0 = some ⟨.type "list", none, .seq ⟨(ivs ns t0).map fun x => Value.int x.1 x.2⟩ 0, #[]⟩ → s.gens = #[] → s.toks = t0 + ns.length → ns.length ≤ 63 →
      ∃ p' h' g' t', Comes (model l.prog w) s (callStub l.name [.ref n0]) { s with heap := h', gens := g', toks := t' } ⟨.pure (.done (.ret (.bool true))), .builtin "claim.caller" {}, p', []⟩ ∧
        OldK s.heap h' ∧ AllBare g') : l.row.Holds := by
  refine ⟨k1, hw, ?_⟩
  obtain ⟨hch, o1⟩ := Bool.and_eq_true_iff.mp ok
  have hwit := hw.witness
  refine ⟨⟨hb, o1, rfl⟩, hwit, fun w => ⟨(left.behind (XP := fun _ _ => True) (fun _ _ => trivial) hch w).1, fun s' hs' => ?_⟩⟩
  obtain ⟨s₀, hf, hg0, s, hT, hz, hgens, hg, G, y⟩ := (left.behind (XP := fun _ _ => True) (fun _ _ => trivial) hch w).2 s' hs'
  refine ⟨s₀, hf, hg0, s, hT, fun n hn => ?_, (fun x hx => nomatch hx), (fun x hx => nomatch hx), ?_⟩
  · obtain rfl : n = l.name := by
      have : n ∈ [l.name] := hn
      simpa using this
    exact pinned_of_view hg G hdef hp hk
  · have hgens : s.gens = #[] := Array.eq_empty_of_size_eq_zero (beq_iff_eq.mp hgens)
    intro args hpre hlay ord hord
    obtain ⟨ns, rfl⟩ := has_list (pre_splitW hpre).1
    simp only [Prod.mk.injEq] at y
    obtain ⟨y1, y2, y3⟩ := y
    have hlen : ns.length ≤ 63 := by
      have hp2 : (OpenLaw.pre l).holds [] { args := [WData.list (ns.map WData.int)] } = true := (pre_splitW hpre).2
      unfold OpenLaw.pre at hp2
      rw [hmost] at hp2
      by_cases hn : ns.length ≤ 63
      · exact hn
      · exfalso
        have hlt : decide ((63 : Int) < ((ns.map WData.int).length : Int)) = true := by
          rw [List.length_map]; exact decide_eq_true (by omega)
        have hv : WTm.value [] ((WTm.lit (WData.int ((63 : Nat) : Int))).lt (WTm.arg 0).len).not { args := [WData.list (ns.map WData.int)] } = some (.bool false) := by
          simp only [WTm.value, List.getElem?_cons_zero, W.less?, Num.less?, Option.map_some]
          rw [show ((63 : Nat) : Int) = 63 from rfl, hlt]; rfl
        simp only [WTm.holds] at hp2
        rw [WTm.value, hv] at hp2
        cases hp2
    have hk0 : ∀ x ∈ kl w.params, s.heap.get? x.1 = some x.2 := by
      rw [hkas w.params, List.map_map] at y1
      intro x hx
      have := List.map_inj_left.mp y1 x hx
      exact this
    let s₁ : Shared := { s with heap := s.heap.push ⟨.type "list", none, .seq ⟨(ivs ns s.toks).map fun x => Value.int x.1 x.2⟩ 0, #[]⟩, toks := s.toks + ns.length }
    have hlaid : layAllW [] (classAt s.heap) w.params ord [WData.list (ns.map WData.int)] s = some ([.ref s.heap.objs.size], s₁) := by
      simp only [layAllW, layW, lay_ns]
      rfl
    obtain ⟨p', h', g', t', C, keep, bare⟩ := call w s₁ ns (fun x hx => Heap.get?_push_of_some _ (hk0 x hx)) (by show (s.heap.push _).objs.size = _; rw [Heap.size_push, y2])
      (by show (s.heap.push _).get? n0 = _; rw [← y2, ← y3]; exact Heap.get?_push_size _ rfl) hgens (by show s.toks + ns.length = _; rw [y3]) hlen
    have hz₁ : s₁.asleep := Shared.asleep_of_life rfl hz
    obtain ⟨n, s'', hrun, hsched, hfo⟩ := ends_mine hz₁ C (leftWithCleanup_false_of_bare bare)
    obtain ⟨eh, _, _, eo, _⟩ := Shared.forget_eq hfo
    have keeps := layAllW_keeps _ _ _ hlaid
    have hal := layAllW_rest _ _ _ hlaid
    obtain ⟨as, hrd, hin, hold⟩ := reads_layAllW hord _ _ _ hlaid hlay s₁.heap (fun _ _ e => e)
    have L : Laid [] w s s₁ [WData.list (ns.map WData.int)] [.ref s.heap.objs.size] as := ⟨⟨ord, hord, hlaid⟩, hrd, hin, hold, keeps, hal.1.trans hgens, hal.2.2.1⟩
    have hpost : l.row.toRowW.claim.post [WData.list (ns.map WData.int)] (WData.bool true) [WData.list (ns.map WData.int)] = true := by
      show (WShape.has [] (.bool true) .bool && WTm.holds [] (.eq .res (.lit (.bool true))) { args := [WData.list (ns.map WData.int)], res := some (.bool true), after := [WData.list (ns.map WData.int)] }) = true
      rw [show WShape.has [] (.bool true) .bool = true from rfl, Bool.true_and]
      simp [WTm.holds, WTm.value, W.same]
    have g : GoodWG l.row.toRowW.claim (classAt s.heap) (ExcName.means s.heap) [WData.list (ns.map WData.int)] s₁ (.ok (.ret (.bool true))) { s₁ with heap := h', gens := g', toks := t' } :=
      ⟨.inl ⟨_, _, [], rfl, fun _ => rfl, ReadsW.bool true, hpost, fun _ => ⟨List.nodup_nil, fun _ hm => (nomatch hm)⟩⟩, keep, rfl, bare⟩
    have z := g.laid (c := l.row.toRowW.claim) rfl rfl (ident_freeW rfl rfl rfl) L
    have hcase := z.1.congr eh
    have hos : s''.os = s.os := eo.trans z.2.1
    have hlife : s''.heap.life = s.heap.life := (runN_life _ _ _ hrun).trans hal.2.2.2
    refine ⟨[.ref s.heap.objs.size], s₁, hlaid, n, outcomeOf (.ok (.ret (.bool true))), s'', ?_, ?_, (fun _ i x hx => by rw [hgens] at hx; simp at hx), (fun q => by rw [show l.row.writes = l.writes from rfl, hwr] at q; cases q), by rw [hlife], Shared.rest_eq hos⟩
    · rw [← y2] at hsched; exact hsched
    · rcases hcase with ⟨v, e, d1, d2, d3, d4, d5⟩ | ⟨e, ob, cls, er, d1, d2, d3, d4, d5⟩
      · cases e
        exact .inl ⟨_, rfl, d1, d2, d3, fun b o y _ => d4 b o y, d5⟩
      · cases er
end Mine
namespace Mine
open PySem PySem.W
theorem head_eq (w : World) : PySem.W.Fast.tw1099448937126117225 pw w = PySem.W.Fast.tw1116357689577336893 pw w := by kernel_rfl
end Mine
namespace Mine
open PySem PySem.W PySem.Calls PyProof.Rows PySem.Spec
theorem lhs_eq (w : World) : lhsP pw w = rhsP pw w := by
  have h := head_eq w
  rw [show PySem.W.Fast.tw1099448937126117225 = lhsP from PySem.W.Fast.te1099448937126117225.symm, show PySem.W.Fast.tw1116357689577336893 = rhsP from PySem.W.Fast.te1116357689577336893.symm] at h
  exact h
theorem left04 : LeftO pw qv loose (fun _ => true) (fun s => (kas.map s.heap.get?, s.heap.objs.size, s.toks)) (fun w => ((kl w.params).map (fun x => some x.2), 1113, 1783)) 100000 := by
  intro w
  obtain ⟨⟨s₀, s₁⟩, e, e2⟩ := Option.map_eq_some_iff.mp (lhs_eq w)
  obtain ⟨e3, e4⟩ := whole_spec e
  simp only [Prod.mk.injEq] at e2
  obtain ⟨a1, a2, a3, a4⟩ := e2
  have t : topFrom treeTable pw w 100000 s₀.abs = some s₁.abs := by
    unfold topFrom
    rw [a1, e4]
    show (match staticsOk (importedModules pw.main.body) s₀.abs.heap s₁.abs.heap && namesBound pw s₁.abs.heap && gensDone s₁.abs && laidKept s₀.abs.heap s₁.abs.heap with | true => _ | false => _) = _
    rw [a2]
  unfold openEnds
  rw [e3]
  show (topFrom treeTable pw w 100000 s₀.abs).map _ = _
  rw [t]
  show some (_, _) = some (_, _)
  change openSeen qv loose (importedModules pw.main.body) (fun _ => true) true s₁.abs = openGood qv loose at a3
  rw [a3]
  have hz : s₁.abs.heap.objs.size = s₁.n := absHeap_size ..
  unfold lv at a4
  simp only [Prod.mk.injEq] at a4
  obtain ⟨b1, b2, b3⟩ := a4
  have key : (kas.map s₁.abs.heap.get?, s₁.abs.heap.objs.size, s₁.abs.toks) = ((kl w.params).map (fun x => some x.2), 1113, 1783) := by
    rw [b1, hz, b2, show s₁.abs.toks = s₁.toks from rfl, b3]
  exact congrArg (fun z => some (openGood qv loose, z)) key
end Mine
namespace Mine
open PySem PySem.W PySem.Calls PyProof.Rows PySem.Spec
theorem fin04 (call : ∀ (w : World) (s : Shared) (ns : List Int), (∀ x ∈ kl w.params, s.heap.get? x.1 = some x.2) → s.heap.objs.size = 1113 + 1 →
      s.heap.get? 1113 = some ⟨.type "list", none, .seq ⟨(ivs ns 1783).map fun x => Value.int x.1 x.2⟩ 0, #[]⟩ → s.gens = #[] → s.toks = 1783 + ns.length → ns.length ≤ 63 →
      ∃ p' h' g' t', Comes (model pw w) s (callStub PySem.Challenge.rw_io0001_04.name [.ref 1113]) { s with heap := h', gens := g', toks := t' } ⟨.pure (.done (.ret (.bool true))), .builtin "claim.caller" {}, p', []⟩ ∧
        OldK s.heap h' ∧ AllBare g') (k1 : PySem.Challenge.rw_io0001_04.row.wellSaid = true) : PySem.Challenge.rw_io0001_04.row.Holds := by
  have hprom : PySem.Challenge.rw_io0001_04.row.toRowW.promised := ⟨[.list []], by decide +kernel, by decide +kernel⟩
  have ok : (chainsOk qv && opensWell PySem.Challenge.rw_io0001_04.prog) = true := by decide +kernel
  refine asmRowK (q := qv) (loose := loose) (kas := kas) (kl := kl) (n0 := 1113) (t0 := 1783) (N := 100000) k1 left04 (fun _ => rfl) (by rfl) (by rfl) (by rfl) ok ⟨rfl, rfl, rfl, rfl, rfl, by decide +kernel⟩ rfl rfl hprom call
end Mine
set_option linter.all false
namespace Mine
open PySem PySem.W PySem.Calls PyProof.Rows PySem.Spec
variable {b c : Bool} {w : World}
/-- the walk to the loop over the script -/
theorem partA {xs : List Value} {s : Shared} {t : Nat} (hK : ∀ a o, KK (tW b c w) a = some o → s.heap.get? a = some o) (hz : s.heap.objs.size = 1114) (h3 : s.heap.get? 1113 = some (lsObj xs 0)) (h9 : s.heap.get? 1109 = some tab0) (hg : s.gens = #[]) (ht : s.toks = t) :
    ∃ h1 p1, Comes (mdl tP (tW b c w)) s (callStub PySem.Challenge.rw_io0001_04.name [.ref 1113]) { s with heap := h1, toks := t + 13 } ⟨tD cLaw, cLaw, p1, stA b c w xs t⟩ ∧
      Holds (tW b c w).params xs (t + 10) (t + 11) (t + 12) h1 ⟨0, ⟨1118, 1117, 1127, 0, 0, [], []⟩, .N, none, [], 0, 1134, t + 13⟩ ∧ h1.get? 1115 = some (ceObj (some (.ref 1113))) ∧ ∀ (x : Nat) o, s.heap.get? x = some o → h1.get? x = some o := by
  obtain ⟨h, g, d, toks, os⟩ := s
  replace hg : g = #[] := hg
  replace ht : toks = t := ht
  subst hg ht
  have eA := tA (b := b) (c := c) (w := w) xs toks
  unfold runA at eA
  obtain ⟨out, h1, e1, C, c1, c2, _, c4⟩ := go (d := d) (os := os) (bot := []) (ini := IA xs) (F := []) (W := []) rfl rfl hK (all_cons (KK_none (Nat.le_refl _)) (all_cons (KK_tab rfl) all_nil)) (all_cons h3 (all_cons h9 all_nil)) (show [1113, 1109].Nodup by decide) (fun x hx => absurd hx (List.not_mem_nil)) hz (show 2 = (IA xs).length from rfl) rfl (show OpsOk (mdl tP (tW b c w)) (KK (tW b c w)) oA from trivial) eA
  simp only [endA, Prod.mk.injEq, List.map_cons, List.map_nil, List.cons.injEq, and_true] at e1
  obtain ⟨e1, e2, e3, e4, e5, e6, g0, g1, g2, g3, g4, g5, g6, g7, g8, g9⟩ := e1
  rw [e1, e2, e3, e5, e6, List.append_nil, List.append_nil] at C
  refine ⟨h1, out.pos, C, ⟨?_, ?_, c1.trans e4⟩, c2 _ _ _ g3, fun x o hx => ?_⟩
  · exact all_cons (c2 _ _ _ g9) (all_cons (c2 _ _ _ g0) (all_cons (c2 _ _ _ g2) (all_cons (c2 _ _ _ g4) (all_cons (c2 _ _ _ g6) (all_cons (c2 _ _ _ g7) (all_cons (c2 _ _ _ g8) (all_cons (c2 _ _ _ g5) all_nil)))))))
  · exact all_cons (c2 _ _ _ g6) (all_cons (c2 _ _ _ g5) (all_cons (c2 _ _ _ g7) all_nil))
  · by_cases n0 : x = 1113
    · subst n0
      rw [show h.get? 1113 = _ from h3] at hx; cases hx
      exact c2 _ _ _ g0
    by_cases n1 : x = 1109
    · subst n1
      rw [show h.get? 1109 = _ from h9] at hx; cases hx
      exact c2 _ _ _ g1
    refine c4 x o hx fun z => ?_
    have z : x ∈ [1113, 1109] := z
    simp only [List.mem_cons, List.not_mem_nil, or_false] at z
    rcases z with z | z
    · exact n0 z
    · exact n1 z
/-- .. from there to the last comparison loop -/
theorem partB {xs : List Value} {as : List Value} {t0 n t1 t2 t3 l d aep s0 t : Nat} {ex : List (Str × Nat × Value)} {fep : Nat} {sl : Array (Option Value)} {s : Shared} {pos' : Pos} (hK : ∀ a o, KK (tW b c w) a = some o → s.heap.get? a = some o) (hz : s.heap.objs.size = s0 + 1134) (hn : xs[n]? = none) (ha : as.length ≤ 64)
    (i0 : s.heap.get? 1133 = some (liObj 1113 n)) (i1 : s.heap.get? 1113 = some (lsObj xs 0)) (i2 : s.heap.get? 1114 = some (fr3 (tW b c w).params t1 t2 t3 l d ex fep sl)) (i3 : s.heap.get? 1115 = some (ceObj (some (.ref 1113)))) (i4 : s.heap.get? 1128 = some (lsObj as aep)) (hg : s.gens = #[]) (ht : s.toks = t) :
    ∃ h1 p1, Comes (mdl tP (tW b c w)) s ⟨tD cLaw, cLaw, pos', stA b c w xs t0⟩ { s with heap := h1 } ⟨tD (cLaw2 (s0 + 24 + 1113)), cLaw2 (s0 + 24 + 1113), p1, stB b c w xs as t0 n t1 t2 t3 l d aep ex fep sl s0 t pos'⟩ ∧
      h1.objs.size = s0 + 1138 ∧ h1.get? 1114 = some (fr3 (tW b c w).params t1 t2 t3 l d ex fep sl) ∧ h1.get? 1128 = some (lsObj (as ++ [.ref (s0 + 1136)]) (aep + 1)) ∧ h1.get? (s0 + 1136) = some (tupObj [.ref d, .ref l]) ∧ h1.get? (s0 + 24 + 1113) = some (liObj 1128 0) ∧
      ∀ (x : Nat) o, s.heap.get? x = some o → x ≠ 1133 → x ≠ 1128 → h1.get? x = some o := by
  obtain ⟨h, g, d0, toks, os⟩ := s
  replace hg : g = #[] := hg
  replace ht : toks = t := ht
  subst hg ht
  have eB := tB (b := b) (c := c) (w := w) xs as t0 n t1 t2 t3 l d aep ex fep sl s0 toks pos'
  unfold runB at eB
  obtain ⟨out, h1, e1, C, c1, c2, _, c4⟩ := go (d := d0) (os := os) (bot := []) (ini := IB (tW b c w).params xs as n t1 t2 t3 l d aep ex fep sl) (F := []) (W := []) rfl rfl hK (all_cons (KK_none (show 1113 ≤ 1133 by decide)) (all_cons (KK_none (Nat.le_refl _)) (all_cons (KK_none (show 1113 ≤ 1114 by decide)) (all_cons (KK_none (show 1113 ≤ 1115 by decide)) (all_cons (KK_none (show 1113 ≤ 1128 by decide)) all_nil)))))
    (all_cons i0 (all_cons i1 (all_cons i2 (all_cons i3 (all_cons i4 all_nil))))) (show [1133, 1113, 1114, 1115, 1128].Nodup by decide) (fun x hx => absurd hx (List.not_mem_nil)) hz (show 5 = (IB (tW b c w).params xs as n t1 t2 t3 l d aep ex fep sl).length from rfl) rfl
    (show OpsOk (mdl tP (tW b c w)) (KK (tW b c w)) (oB xs as n s0 aep) from ⟨fun cc sz tok _ _ => ⟨sLiEnd_ok hn sz tok, nd01⟩, fun cc sz tok _ _ => ⟨sApp_ok ha sz tok, nd0⟩, trivial⟩) eB
  simp only [endB, Prod.mk.injEq, List.map_cons, List.map_nil, List.cons.injEq, and_true] at e1
  obtain ⟨e1, e2, e3, e4, e5, e6, g1, g2, g3, g4, g5, g6⟩ := e1
  rw [e1, e2, e3, e5, e6, List.append_nil, List.append_nil] at C
  refine ⟨h1, out.pos, C, c1.trans e4, c2 _ _ _ g2, c2 _ _ _ g4, c2 _ _ _ g5, c2 _ _ _ g6, fun x o hx m0 m1 => ?_⟩
  by_cases n1 : x = 1113
  · subst n1
    rw [show h.get? 1113 = _ from i1] at hx; cases hx
    exact c2 _ _ _ g1
  by_cases n2 : x = 1114
  · subst n2
    rw [show h.get? 1114 = _ from i2] at hx; cases hx
    exact c2 _ _ _ g2
  by_cases n3 : x = 1115
  · subst n3
    rw [show h.get? 1115 = _ from i3] at hx; cases hx
    exact c2 _ _ _ g3
  refine c4 x o hx fun z => ?_
  have z : x ∈ [1133, 1113, 1114, 1115, 1128] := z
  simp only [List.mem_cons, List.not_mem_nil, or_false] at z
  omega
theorem okD {xs as : List Value} {it n aep s0 : Nat} (ha : as[n]? = none) (hx : xs.length ≤ 64) : OpsOk (mdl tP (tW b c w)) (KK (tW b c w)) (oDN xs as it n aep s0) ∧ OpsOk (mdl tP (tW b c w)) (KK (tW b c w)) (oDR xs as it n aep s0) :=
  ⟨⟨fun cc sz tok _ _ => ⟨sLiEnd_ok ha sz tok, nd01⟩, fun acts sz tok => mLfA_ok acts sz tok, fun acts sz tok => mLfB_ok acts sz tok, fun acts sz tok => mLeA_ok acts sz tok, fun acts sz tok => mLeB_ok acts sz tok, fun cc sz tok _ _ => ⟨sLenL_ok hx (Nat.le_refl _) sz tok, nd0⟩, fun acts sz tok => mLfA_ok acts sz tok, fun acts sz tok => mLfB_ok acts sz tok, fun acts sz tok => mLeA_ok acts sz tok, fun acts sz tok => mLeB_ok acts sz tok, trivial⟩,
   ⟨fun cc sz tok _ _ => ⟨sLiEnd_ok ha sz tok, nd01⟩, fun acts sz tok => mLfA_ok acts sz tok, fun acts sz tok => mLfB_ok acts sz tok, fun acts sz tok => mLeA_ok acts sz tok, fun acts sz tok => mLeB_ok acts sz tok, fun cc sz tok _ _ => ⟨sLenL_ok hx (Nat.le_refl _) sz tok, nd0⟩, fun acts sz tok => mLfA_ok acts sz tok, fun acts sz tok => mLfB_ok acts sz tok, fun acts sz tok => mLeA_ok acts sz tok, fun acts sz tok => mLeB_ok acts sz tok, trivial⟩⟩
theorem qD_all {xs as : List Value} {it n aep s0 : Nat} (ha : as[n]? = none) (hx : xs.length ≤ 64) (as0 : List Value) (t0 n0 t1 t2 t3 l0 d0 aep0 : Nat) (ex0 : List (Str × Nat × Value)) (fep0 : Nat) (sl0 : Array (Option Value)) (s1 t' : Nat) (pos0 : Pos) (fr : Fr) (o : Nat × Value × Nat × Value) (t : Nat) (pos' : Pos) :
    ∃ N ops, OpsOk (mdl tP (tW b c w)) (KK (tW b c w)) ops ∧ qD b c w N ops xs as it n aep s0 (frC (tW b c w).params t1 t2 t3 l0 d0 fr (some o)) as0 t0 n0 t1 t2 t3 l0 d0 aep0 ex0 fep0 sl0 s1 t' pos0 t pos' := by
  obtain ⟨u6, v6, u7, v7⟩ := o
  have ok := okD (b := b) (c := c) (w := w) (it := it) (aep := aep) (s0 := s0) ha hx
  cases fr with
  | N => exact ⟨_, _, ok.1, rDN xs as it n aep s0 as0 t0 n0 t1 t2 t3 l0 d0 aep0 ex0 fep0 sl0 s1 t' pos0 0 0 0 0 0 u6 u7 .none .none .none .none .none v6 v7 t pos'⟩
  | S u1 v1 u2 v2 u3 v3 u4 v4 tl =>
    cases tl with
    | no => exact ⟨_, _, ok.1, rDE xs as it n aep s0 as0 t0 n0 t1 t2 t3 l0 d0 aep0 ex0 fep0 sl0 s1 t' pos0 u1 u2 u3 u4 0 u6 u7 v1 v2 v3 v4 .none v6 v7 t pos'⟩
    | yes u5 v5 r =>
      cases r with
      | false => exact ⟨_, _, ok.1, rDT xs as it n aep s0 as0 t0 n0 t1 t2 t3 l0 d0 aep0 ex0 fep0 sl0 s1 t' pos0 u1 u2 u3 u4 u5 u6 u7 v1 v2 v3 v4 v5 v6 v7 t pos'⟩
      | true => exact ⟨_, _, ok.2, rDR xs as it n aep s0 as0 t0 n0 t1 t2 t3 l0 d0 aep0 ex0 fep0 sl0 s1 t' pos0 u1 u2 u3 u4 u5 u6 u7 v1 v2 v3 v4 v5 v6 v7 t pos'⟩
/-- .. from there to True -/
theorem partD {xs as : List Value} {it n aep s0 t t1 t2 t3 l0 d0 : Nat} {fr : Fr} {o : Nat × Value × Nat × Value} (ha : as[n]? = none) (hx : xs.length ≤ 64) (as0 : List Value) (t0 n0 aep0 : Nat) (ex0 : List (Str × Nat × Value)) (fep0 : Nat) (sl0 : Array (Option Value)) (s1 t' : Nat) (pos0 : Pos) (h21 : 21 ≤ it)
    {s : Shared} {pos' : Pos} (hK : ∀ a o, KK (tW b c w) a = some o → s.heap.get? a = some o) (hz : s.heap.objs.size = s0 + 1134)
    (i0 : s.heap.get? (it + 1113) = some (liObj 1128 n)) (i1 : s.heap.get? 1113 = some (lsObj xs 0)) (i2 : s.heap.get? 1114 = some (frC (tW b c w).params t1 t2 t3 l0 d0 fr (some o))) (i3 : s.heap.get? 1115 = some (ceObj (some (.ref 1113)))) (i4 : s.heap.get? 1128 = some (lsObj as aep)) (i5 : s.heap.get? 1109 = some tab0) (hg : s.gens = #[]) (ht : s.toks = t) :
    ∃ h1 p1 tt, Comes (mdl tP (tW b c w)) s ⟨tD (cLaw2 (it + 1113)), cLaw2 (it + 1113), pos', stB b c w xs as0 t0 n0 t1 t2 t3 l0 d0 aep0 ex0 fep0 sl0 s1 t' pos0⟩ { s with heap := h1, toks := tt } ⟨.pure (.done (.ret (.bool true))), .builtin "claim.caller" {}, p1, []⟩ ∧
      h1.get? 1113 = some (lsObj xs 0) ∧ h1.get? 1109 = some (tabE s0) ∧ ∀ (x : Nat) o, s.heap.get? x = some o → x < 1113 → x ≠ 1109 → h1.get? x = some o := by
  obtain ⟨h, g, d9, toks, os⟩ := s
  replace hg : g = #[] := hg
  replace ht : toks = t := ht
  subst hg ht
  obtain ⟨N, ops, ok, Q⟩ := qD_all (b := b) (c := c) (w := w) (it := it) (aep := aep) (s0 := s0) ha hx as0 t0 n0 t1 t2 t3 l0 d0 aep0 ex0 fep0 sl0 s1 t' pos0 fr o toks pos'
  unfold qD at Q
  obtain ⟨out, h1, e1, C, c1, c2, _, c4⟩ := go (d := d9) (os := os) (bot := []) (ini := ID xs as it n aep (frC (tW b c w).params t1 t2 t3 l0 d0 fr (some o))) (F := []) (W := []) rfl rfl hK (all_cons (KK_none (Nat.le_add_left _ _)) (all_cons (KK_none (Nat.le_refl _)) (all_cons (KK_none (show 1113 ≤ 1114 by decide)) (all_cons (KK_none (show 1113 ≤ 1115 by decide)) (all_cons (KK_none (show 1113 ≤ 1128 by decide)) (all_cons (KK_tab rfl) all_nil))))))
    (all_cons i0 (all_cons i1 (all_cons i2 (all_cons i3 (all_cons i4 (all_cons i5 all_nil)))))) (show [it + 1113, 1113, 1114, 1115, 1128, 1109].Nodup by
      simp only [List.nodup_cons, List.mem_cons, List.not_mem_nil, or_false, List.nodup_nil, not_or, not_false_eq_true, and_true]
      omega) (fun x hx => absurd hx (List.not_mem_nil)) hz (show 6 = (ID xs as it n aep (frC (tW b c w).params t1 t2 t3 l0 d0 fr (some o))).length from rfl) rfl ok Q
  simp only [endD, Prod.mk.injEq, List.map_cons, List.map_nil, List.cons.injEq, and_true] at e1
  obtain ⟨e1, e2, e3, e4, g1, g2⟩ := e1
  rw [e1, e2, e3, e4, List.append_nil, List.append_nil] at C
  refine ⟨h1, out.pos, out.toks, C, c2 _ _ _ g1, c2 _ _ _ g2, fun x o hx m0 m1 => c4 x o hx fun z => ?_⟩
  have z : x ∈ [it + 1113, 1113, 1114, 1115, 1128, 1109] := z
  simp only [List.mem_cons, List.not_mem_nil, or_false] at z
  omega
theorem lt13 {a : Nat} (h : a < 1113 + 1) (n : a ≠ 1113) : a < 1113 := by omega
theorem call04 (w : World) (s : Shared) (ns : List Int) (hk : ∀ x ∈ kl w.params, s.heap.get? x.1 = some x.2) (hz : s.heap.objs.size = 1113 + 1)
    (h3 : s.heap.get? 1113 = some ⟨.type "list", none, .seq ⟨(ivs ns 1783).map fun x => Value.int x.1 x.2⟩ 0, #[]⟩) (hg : s.gens = #[]) (ht : s.toks = 1783 + ns.length) (hl : ns.length ≤ 63) :
    ∃ p' h' g' t', Comes (model pw w) s (callStub PySem.Challenge.rw_io0001_04.name [.ref 1113]) { s with heap := h', gens := g', toks := t' } ⟨.pure (.done (.ret (.bool true))), .builtin "claim.caller" {}, p', []⟩ ∧
      OldK s.heap h' ∧ AllBare g' := by
  obtain ⟨b, c, hw⟩ := wb_self w
  have hm : model pw w = mdl tP (tW b c w) := by
    rw [tW_eq, hw, tP_eq]
    exact congrArg (fun t => (⟨denote t, pw, w⟩ : Model)) table_eq_tree
  have hkt : ∀ x ∈ tK w.params, s.heap.get? x.1 = some x.2 := by rw [tK_eq]; exact hk
  have hkk : ∀ a o, KK (tW b c w) a = some o → s.heap.get? a = some o := fun a o q => by
    have q := kdrop_sub (kget_some q)
    rw [tW_eq, hw] at q
    exact hkt _ q
  have h9 := hkt _ (kget_some (kTab w))
  have hT := isTable hkt (kCode w)
  generalize 1783 + ns.length = t at ht
  have hlen : ((ivs ns 1783).map iv).length ≤ 63 := by
    rw [List.length_map, ivs_len]
    exact hl
  have hxs : ∀ v ∈ (ivs ns 1783).map iv, ∃ x xt, v = Value.int x xt := fun v hv => by
    obtain ⟨x, _, rfl⟩ := List.mem_map.mp hv
    exact ⟨x.1, x.2, rfl⟩
  have h3 : s.heap.get? 1113 = some (lsObj ((ivs ns 1783).map iv) 0) := h3
  generalize (ivs ns 1783).map iv = xs at hlen hxs h3
  obtain ⟨h1, p1, C1, hh1, h15, keep1⟩ := partA (b := b) (c := c) (w := w) hkk hz h3 h9 hg ht
  have hK1 : ∀ a o, KK (tW b c w) a = some o → h1.get? a = some o := fun a o q => keep1 a o (hkk a o q)
  have S0 : LS.Ok ⟨0, ⟨1118, 1117, 1127, 0, 0, [], []⟩, .N, none, [], 0, 1134, t + 13⟩ := by
    refine ⟨⟨⟨rfl, ⟨List.nodup_nil, fun e he => absurd he List.not_mem_nil⟩, (show (1118 : Nat) ≠ 1117 by decide), (show (1118 : Nat) ≠ 1127 by decide), (show (1127 : Nat) ≠ 1117 by decide), fun q hq => absurd hq List.not_mem_nil⟩, ?_, Nat.le_refl _, fun a ha => absurd ha List.not_mem_nil⟩, Nat.le_refl _, fun _ => rfl⟩
    exact all_cons ⟨.inr (.inr (.inl rfl)), (show 1118 < 1134 by decide)⟩ (all_cons ⟨.inr (.inl rfl), (show 1117 < 1134 by decide)⟩ (all_cons ⟨.inr (.inr (.inr rfl)), (show 1127 < 1134 by decide)⟩ all_nil))
  obtain ⟨S, h2, p2, hS, hn, C2, hh2, hK2, keep2⟩ := loop1 (b := b) (c := c) (w := w) hxs hlen (k := fk (fN (stA b c w xs t) 0)) (g := fg (fN (stA b c w xs t) 0)) (lv := fl (fN (stA b c w xs t) 0)) (fb0 := fb (fN (stA b c w xs t) 0)) (pos := fp (fN (stA b c w xs t) 0)) (kp := fkp (fN (stA b c w xs t) 0))
    (st := [.ret (fk (fN (stA b c w xs t) 1)) none (fg (fN (stA b c w xs t) 1)) (fl (fN (stA b c w xs t) 1)) (.builtin "claim.caller" (fa (fN (stA b c w xs t) 1))) (fp (fN (stA b c w xs t) 1)) (fkp (fN (stA b c w xs t) 1))]) rfl rfl xs.length _ { s with heap := h1, toks := t + 13 } p1 S0 (Nat.zero_add _) hK1 hh1 rfl
  have C2 : Comes (mdl tP (tW b c w)) { s with heap := h1, toks := t + 13 } ⟨tD cLaw, cLaw, p1, stA b c w xs t⟩ { s with heap := h2, toks := S.tok } ⟨tD cLaw, cLaw, p2, stA b c w xs t⟩ := by
    rw [stA_eq]
    exact C2
  have k12 : ∀ (x : Nat) o, s.heap.get? x = some o → h2.get? x = some o := fun x o hx => keep2 x o (keep1 x o hx) (.inl (by have := get_lt hx; omega))
  have big := hS.inv.big
  obtain ⟨s0, hs0⟩ : ∃ y, S.sz = y + 1134 := ⟨S.sz - 1134, by omega⟩
  have hal : (asV S.as).length ≤ 63 := by
    have := hS.len
    unfold asV
    rw [List.length_map]
    omega
  have i2 : h2.get? 1114 = some (S.fr.obj (tW b c w).params (t + 10) (t + 11) (t + 12) S.G.l S.G.d) := hh2.i (1114, _) (mt (mt m0))
  rw [Fr.obj_eq] at i2
  obtain ⟨h3', p3, C3, z1, z2, z3, z4, z5, keep3⟩ := partB (b := b) (c := c) (w := w) (xs := xs) (as := asV S.as) (t0 := t) (n := S.n) (s0 := s0) (t := S.tok) (s := { s with heap := h2, toks := S.tok }) (pos' := p2) hK2 (hh2.sz.trans hs0) (List.getElem?_eq_none (by omega)) (by omega)
    (hh2.i (1133, _) m0) (hh2.i (1113, _) (mt m0)) i2 (keep2 1115 _ h15 (.inr rfl)) (hh2.i (1128, _) (mt (mt (mt (mt (mt (mt m0))))))) hg rfl
  have e1 : asV S.as ++ [.ref (s0 + 1136)] = asV (S.as ++ [⟨s0 + 1136, S.G⟩]) := asV_app.symm
  rw [e1] at z3
  have hadr : ∀ q ∈ S.all, Adr q.1 ∧ q.1 < s0 + 1134 := fun q hq => by
    have := hS.adr q hq
    rw [hs0] at this
    exact this
  have kobj : ∀ q ∈ S.all, h3'.get? q.1 = some q.2 := fun q hq => by
    have h1 := (hadr q hq).1.ne
    exact keep3 _ _ (hh2.all q hq) h1.1 h1.2.2.2.2
  have hae : ∀ a ∈ S.as ++ [⟨s0 + 1136, S.G⟩], Cd a.c ∧ ∀ q ∈ a.objs, Adr q.1 ∧ q.1 < s0 + 24 + 1113 := fun a ha => by
    rcases List.mem_append.mp ha with ha | ha
    · refine ⟨(hS.inv.al a ha).1, fun q hq => ?_⟩
      have := hadr q (LS.all_a ha hq)
      exact ⟨this.1, by have := this.2; omega⟩
    · obtain rfl := List.mem_singleton.mp ha
      refine ⟨hS.inv.cd, fun q hq => ?_⟩
      rcases List.mem_cons.mp hq with h | h
      · subst h; exact ⟨.inl (by show 1134 ≤ s0 + 1136; omega), by show s0 + 1136 < s0 + 24 + 1113; omega⟩
      · have := hadr q (LS.all_G h)
        exact ⟨this.1, by have := this.2; omega⟩
  have hob : ∀ a ∈ S.as ++ [⟨s0 + 1136, S.G⟩], ∀ q ∈ a.objs, h3'.get? q.1 = some q.2 := fun a ha q hq => by
    rcases List.mem_append.mp ha with ha | ha
    · exact kobj q (LS.all_a ha hq)
    · obtain rfl := List.mem_singleton.mp ha
      rcases List.mem_cons.mp hq with h | h
      · subst h; exact z4
      · exact kobj q (LS.all_G h)
  have hK3 : ∀ a o, KK (tW b c w) a = some o → h3'.get? a = some o := fun a o q => by
    have := KK_lt q
    exact keep3 a o (hK2 a o q) (by omega) (by omega)
  rw [← Fr.obj_eq, ← frC_none] at z2
  obtain ⟨od, h4, t4, p4, y1, _, C4, y2, y3, y4, keep4⟩ := loop2 (b := b) (c := c) (w := w) (it := s0 + 24) (by omega) hae
    (k := fk (fN (stB b c w xs (asV S.as) t S.n (t + 10) (t + 11) (t + 12) S.G.l S.G.d S.aep S.fr.x S.fr.e S.fr.s s0 S.tok p2) 0)) (g := fg (fN (stB b c w xs (asV S.as) t S.n (t + 10) (t + 11) (t + 12) S.G.l S.G.d S.aep S.fr.x S.fr.e S.fr.s s0 S.tok p2) 0)) (lv := fl (fN (stB b c w xs (asV S.as) t S.n (t + 10) (t + 11) (t + 12) S.G.l S.G.d S.aep S.fr.x S.fr.e S.fr.s s0 S.tok p2) 0)) (fb0 := fb (fN (stB b c w xs (asV S.as) t S.n (t + 10) (t + 11) (t + 12) S.G.l S.G.d S.aep S.fr.x S.fr.e S.fr.s s0 S.tok p2) 0)) (pos := fp (fN (stB b c w xs (asV S.as) t S.n (t + 10) (t + 11) (t + 12) S.G.l S.G.d S.aep S.fr.x S.fr.e S.fr.s s0 S.tok p2) 0)) (kp := fkp (fN (stB b c w xs (asV S.as) t S.n (t + 10) (t + 11) (t + 12) S.G.l S.G.d S.aep S.fr.x S.fr.e S.fr.s s0 S.tok p2) 0))
    (st := [.ret (fk (fN (stB b c w xs (asV S.as) t S.n (t + 10) (t + 11) (t + 12) S.G.l S.G.d S.aep S.fr.x S.fr.e S.fr.s s0 S.tok p2) 1)) none (fg (fN (stB b c w xs (asV S.as) t S.n (t + 10) (t + 11) (t + 12) S.G.l S.G.d S.aep S.fr.x S.fr.e S.fr.s s0 S.tok p2) 1)) (fl (fN (stB b c w xs (asV S.as) t S.n (t + 10) (t + 11) (t + 12) S.G.l S.G.d S.aep S.fr.x S.fr.e S.fr.s s0 S.tok p2) 1)) (.builtin "claim.caller" (fa (fN (stB b c w xs (asV S.as) t S.n (t + 10) (t + 11) (t + 12) S.G.l S.G.d S.aep S.fr.x S.fr.e S.fr.s s0 S.tok p2) 1))) (fp (fN (stB b c w xs (asV S.as) t S.n (t + 10) (t + 11) (t + 12) S.G.l S.G.d S.aep S.fr.x S.fr.e S.fr.s s0 S.tok p2) 1)) (fkp (fN (stB b c w xs (asV S.as) t S.n (t + 10) (t + 11) (t + 12) S.G.l S.G.d S.aep S.fr.x S.fr.e S.fr.s s0 S.tok p2) 1))]) rfl rfl
    (S.as ++ [(⟨s0 + 1136, S.G⟩ : AE)]).length 0 none { s with heap := h3', toks := S.tok } p3 (Nat.zero_add _) hK3 (by show s0 + 24 + 1113 < h3'.objs.size; rw [z1]; omega) z5 z3 z2 hob
  have C4 : Comes (mdl tP (tW b c w)) { s with heap := h3', toks := S.tok } ⟨tD (cLaw2 (s0 + 24 + 1113)), cLaw2 (s0 + 24 + 1113), p3, stB b c w xs (asV S.as) t S.n (t + 10) (t + 11) (t + 12) S.G.l S.G.d S.aep S.fr.x S.fr.e S.fr.s s0 S.tok p2⟩ { s with heap := h4, toks := t4 } ⟨tD (cLaw2 (s0 + 24 + 1113)), cLaw2 (s0 + 24 + 1113), p4, stB b c w xs (asV S.as) t S.n (t + 10) (t + 11) (t + 12) S.G.l S.G.d S.aep S.fr.x S.fr.e S.fr.s s0 S.tok p2⟩ := by
    rw [stB_eq]
    exact C4
  obtain ⟨o, rfl⟩ : ∃ o, od = some o := by
    cases od with
    | none => exact absurd rfl (y1 (by rw [List.length_append, List.length_singleton]; omega))
    | some o => exact ⟨o, rfl⟩
  have k14 : ∀ (x : Nat) o, s.heap.get? x = some o → h4.get? x = some o := fun x o hx => by
    have := get_lt hx
    exact keep4 x o (keep3 x o (k12 x o hx) (by omega) (by omega)) (by omega) (by omega)
  have hK4 : ∀ a o, KK (tW b c w) a = some o → h4.get? a = some o := fun a o q => k14 a o (hkk a o q)
  have z15 := keep4 1115 _ (keep3 1115 _ (keep2 1115 _ h15 (.inr rfl)) (by decide) (by decide)) (by omega) (by decide)
  have z28 := keep4 1128 _ z3 (by omega) (by decide)
  obtain ⟨s4, hs4⟩ : ∃ y, h4.objs.size = y + 1134 := ⟨h4.objs.size - 1134, by omega⟩
  obtain ⟨h5, p5, t5, C5, x1, x2, keep5⟩ := partD (b := b) (c := c) (w := w) (xs := xs) (as := asV (S.as ++ [⟨s0 + 1136, S.G⟩])) (n := (S.as ++ [(⟨s0 + 1136, S.G⟩ : AE)]).length) (s0 := s4) (List.getElem?_eq_none (by unfold asV; rw [List.length_map]; exact Nat.le_refl _)) (by omega) (asV S.as) t S.n S.aep S.fr.x S.fr.e S.fr.s s0 S.tok p2 (by omega) (s := { s with heap := h4, toks := t4 }) (pos' := p4) hK4 hs4 y2 (k14 _ _ h3) y3 z15 z28 (k14 _ _ h9) hg rfl
  refine ⟨p5, h5, #[], t5, ?_, ⟨fun a o ho => ?_, fun a o ho => ?_⟩, fun y hy => by simp at hy⟩
  · rw [hm]
    have C := (C1.trans C2).trans (C3.trans (C4.trans C5))
    rw [show (#[] : Array GenState) = s.gens from hg.symm]
    exact C
  · by_cases n0 : a = 1113
    · subst n0
      rw [h3] at ho; cases ho
      exact .inl x1
    by_cases n1 : a = 1109
    · subst n1
      rw [show s.heap.get? 1109 = _ from h9] at ho; cases ho
      exact .inr (.inl ⟨hT, rfl, #[], ⟨[.int 738 0, .int 0 0, .ref (s4 + 1142), .int 739 0, .int 0 0, .ref (s4 + 1150)]⟩, rfl, by rw [x2]; simp [tabE, tab0]⟩)
    exact .inl (keep5 a o (k14 a o ho) (lt13 (hz ▸ get_lt ho) n0) n1)
  · by_cases n0 : a = 1113
    · subst n0; exact ⟨_, x1⟩
    by_cases n1 : a = 1109
    · subst n1; exact ⟨_, x2⟩
    exact ⟨_, keep5 a o (k14 a o ho) (lt13 (hz ▸ get_lt ho) n0) n1⟩
end Mine
namespace Mine
open PySem PySem.W
noncomputable def saidP (p : Program) : Bool := (⟨p, "law", ["Counter", "fromkeys"], 3, some 63, none, false⟩ : OpenLaw).wellSaid
end Mine
lay_quick Mine.saidP
namespace Mine
open PySem PySem.W
theorem said_eq : PySem.W.Fast.tw8935794307430482537 PySem.Challenge.pw_io0001_04 = true := by kernel_rfl
theorem said04 : PySem.Challenge.rw_io0001_04.wellSaid = true := by
  have h := said_eq
  rw [← PySem.W.Fast.te8935794307430482537] at h
  exact h
end Mine
open PySem PySem.W PyProof.Rows
theorem PySem.Challenge.cw_io0001_04_holds : PySem.Challenge.rw_io0001_04.Holds :=
  holds_law Mine.said04 fun said => Mine.fin04 Mine.call04 said
