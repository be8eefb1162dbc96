import PyProof.Rows.All
import Wide.All
import OpenK.AllK
import Wide.FinOn
import PySem.Challenge.RW_io0001_02
set_option linter.all false
set_option Elab.async false
set_option maxRecDepth 100000
set_option maxHeartbeats 0
namespace Mine
open PySem PySem.W

inductive Tr (α : Type) where
  | nil
  | node (v : α) (l r : Tr α)
namespace Tr
variable {α : Type}
noncomputable def get : Tr α → Nat → Option α
  | .nil, _ => none
  | .node v l r, i => match Nat.beq i 0 with
    | true => some v
    | false => match Nat.beq (i % 2) 1 with
      | true => l.get (i / 2)
      | false => r.get (i / 2 - 1)
noncomputable def set : Tr α → Nat → α → Tr α
  | .nil, _, _ => .nil
  | .node v l r, i, x => match Nat.beq i 0 with
    | true => .node x l r
    | false => match Nat.beq (i % 2) 1 with
      | true => .node v (l.set (i / 2) x) r
      | false => .node v l (r.set (i / 2 - 1) x)
noncomputable def ins : Tr α → Nat → α → Tr α
  | .nil, _, o => .node o .nil .nil
  | .node v l r, i, o => match Nat.beq i 0 with
    | true => .node o l r
    | false => match Nat.beq (i % 2) 1 with
      | true => .node v (l.ins (i / 2) o) r
      | false => .node v l (r.ins (i / 2 - 1) o)
theorem get_node (v : α) (l r : Tr α) (i : Nat) : (node v l r).get i = if i = 0 then some v else if i % 2 = 1 then l.get (i / 2) else r.get (i / 2 - 1) := by
  show (match Nat.beq i 0 with | true => some v | false => match Nat.beq (i % 2) 1 with | true => l.get (i / 2) | false => r.get (i / 2 - 1)) = _
  rw [BT.beq_eq, BT.beq_eq]
  by_cases h : i = 0
  · simp [h]
  · by_cases q : i % 2 = 1 <;> simp [h, q]
theorem set_node (v : α) (l r : Tr α) (i : Nat) (x : α) : (node v l r).set i x = if i = 0 then node x l r else if i % 2 = 1 then node v (l.set (i / 2) x) r else node v l (r.set (i / 2 - 1) x) := by
  show (match Nat.beq i 0 with | true => node x l r | false => match Nat.beq (i % 2) 1 with | true => node v (l.set (i / 2) x) r | false => node v l (r.set (i / 2 - 1) x)) = _
  rw [BT.beq_eq, BT.beq_eq]
  by_cases h : i = 0
  · simp [h]
  · by_cases q : i % 2 = 1 <;> simp [h, q]
theorem ins_node (v : α) (l r : Tr α) (i : Nat) (o : α) : (node v l r).ins i o = if i = 0 then node o l r else if i % 2 = 1 then node v (l.ins (i / 2) o) r else node v l (r.ins (i / 2 - 1) o) := by
  show (match Nat.beq i 0 with | true => node o l r | false => match Nat.beq (i % 2) 1 with | true => node v (l.ins (i / 2) o) r | false => node v l (r.ins (i / 2 - 1) o)) = _
  rw [BT.beq_eq, BT.beq_eq]
  by_cases h : i = 0
  · simp [h]
  · by_cases q : i % 2 = 1 <;> simp [h, q]
theorem get_set (x : α) : ∀ (t : Tr α) (a i : Nat), (t.set a x).get i = if i = a then (t.get a).map (fun _ => x) else t.get i
  | .nil, a, i => by show (Tr.nil.get i) = _; simp [get]
  | .node v l r, a, i => by
    rw [set_node, get_node v l r a, get_node v l r i]
    by_cases ha : a = 0
    · subst ha
      rw [if_pos rfl, get_node]
      by_cases hi : i = 0
      · simp [hi]
      · simp [hi]
    · rw [if_neg ha]
      by_cases pa : a % 2 = 1
      · rw [if_pos pa, get_node]
        by_cases hi : i = 0
        · have : i ≠ a := by omega
          simp [hi, Ne.symm ha]
        · by_cases pi : i % 2 = 1
          · simp only [hi, pi, ha, pa, if_true, if_false, get_set x l]
            by_cases e : i = a
            · simp [e]
            · have : i / 2 ≠ a / 2 := by omega
              simp [e, this]
          · have : i ≠ a := fun q => pi (q ▸ pa)
            simp [hi, pi, this]
      · rw [if_neg pa, get_node]
        by_cases hi : i = 0
        · simp [hi, Ne.symm ha]
        · by_cases pi : i % 2 = 1
          · have : i ≠ a := fun q => pa (q ▸ pi)
            simp [hi, pi, this]
          · simp only [hi, pi, ha, pa, if_false, get_set x r]
            by_cases e : i = a
            · simp [e]
            · have : i / 2 - 1 ≠ a / 2 - 1 := by omega
              simp [e, this]
theorem get_ins (o : α) : ∀ (t : Tr α) (a : Nat), ((t.ins a o).get a).isSome = true → ∀ i, (t.ins a o).get i = if i = a then some o else t.get i
  | .nil, a, h, i => by
    have e : (Tr.nil.ins a o) = node o nil nil := rfl
    rw [e, get_node] at h
    have ha : a = 0 := by
      by_cases q : a = 0
      · exact q
      · exfalso; revert h; by_cases p : a % 2 = 1 <;> simp [q, p, get]
    subst ha
    rw [e, get_node]
    by_cases hi : i = 0
    · simp [hi]
    · by_cases p : i % 2 = 1 <;> simp [hi, p, get]
  | .node v l r, a, h, i => by
    rw [ins_node] at h ⊢
    rw [get_node v l r i]
    by_cases ha : a = 0
    · subst ha
      rw [if_pos rfl, get_node]
      by_cases hi : i = 0 <;> simp [hi]
    · rw [if_neg ha] at h ⊢
      by_cases pa : a % 2 = 1
      · rw [if_pos pa] at h ⊢
        rw [get_node, if_neg ha, if_pos pa] at h
        rw [get_node]
        by_cases hi : i = 0
        · simp [hi, Ne.symm ha]
        · by_cases pi : i % 2 = 1
          · simp only [hi, pi, if_true, if_false, get_ins o l _ h]
            by_cases e : i = a
            · simp [e]
            · have : i / 2 ≠ a / 2 := by omega
              simp [e, this]
          · have : i ≠ a := fun q => pi (q ▸ pa)
            simp [hi, pi, this]
      · rw [if_neg pa] at h ⊢
        rw [get_node, if_neg ha, if_neg pa] at h
        rw [get_node]
        by_cases hi : i = 0
        · simp [hi, Ne.symm ha]
        · by_cases pi : i % 2 = 1
          · have : i ≠ a := fun q => pa (q ▸ pi)
            simp [hi, pi, this]
          · simp only [hi, pi, if_false, get_ins o r _ h]
            by_cases e : i = a
            · simp [e]
            · have : i / 2 - 1 ≠ a / 2 - 1 := by omega
              simp [e, this]
end Tr

/-- what a call does, said ahead: its code, its result, what it asks of the heap and what it turns -/
structure Summ where
  code : Code
  res : Result
  pre : List (Nat × Nat × Obj) := []
  post : List (Nat × Nat × Obj) := []
  new : List (Nat × Obj) := []
  dsz : Option Nat := none
  dl : Nat := 0
  dtok : Nat := 0
  newg : List GenState := []
  needs : List (Nat × List (Nat × Obj)) := []
  facts : List (List (Nat × Obj)) := []
  shape : List (Code × Pos) → Bool := fun _ => true
  atS : Option Nat := none
  atT : Option Nat := none

/-- a stretch inside one tree, said ahead -/
structure Mid where
  X : Sem Fin
  Y : Sem Fin
  pre : List (Nat × Nat × Obj) := []
  post : List (Nat × Nat × Obj) := []

inductive Op where
  | k (n : Nat)
  | s (i : Nat)
  | u (S : Code → Nat → Nat → Summ)
  | a (S : Code → Nat → Nat → Summ)
  | m (M : Nat → Nat → Mid)
  | q (M : List (Code × Pos) → Nat → Nat → Mid)

noncomputable def restK : Nat → List Op → List Op
  | 0, r => r
  | n + 1, r => .k n :: r

inductive SideV where
  | n (a : Nat)
  | o (o : Obj)
  | c (c : Code)
  | b (b : Bool)
  | h (v : Option Value)
  | f (l : List (Nat × Obj))
  | t (t : Sem Fin)

noncomputable abbrev Mem := Tr (Nat × Obj)

structure Out where
  T : Mem
  m : Nat
  sz : Nat
  gens : List GenState
  toks : Nat
  F : List (List (Nat × Obj))
  cur : Sem Fin
  code : Code
  pos : Pos
  st : List Frame
  L : List SideV
  R : List SideV
  ops : List Op

noncomputable def putPost : List (Nat × Nat × Obj) → Mem → Mem
  | [], T => T
  | (i, a, o) :: r, T => putPost r (T.set i (a, o))
noncomputable def putNew (sz : Nat) : List (Nat × Obj) → Mem → Nat → Mem × Nat
  | [], T, m => (T, m)
  | (d, o) :: r, T, m => putNew sz r (T.ins m (sz + d, o)) (m + 1)
noncomputable def newOk (sz : Nat) : List (Nat × Obj) → Mem → Nat → Bool
  | [], _, _ => true
  | (d, o) :: r, T, m => match (T.ins m (sz + d, o)).get m with
    | some _ => newOk sz r (T.ins m (sz + d, o)) (m + 1)
    | none => false
/-- the sides that a summary lays: what its rows say, what stands there -/
noncomputable def preL : List (Nat × Nat × Obj) → List SideV → List SideV
  | [], L => L
  | (_, a, o) :: r, L => preL r (.o o :: .n a :: L)
noncomputable def preR (T : Mem) : List (Nat × Nat × Obj) → List SideV → Option (List SideV)
  | [], R => some R
  | (i, _, _) :: r, R => match T.get i with
    | some (a, o) => preR T r (.o o :: .n a :: R)
    | none => none
noncomputable def atL : List (Nat × Nat × Obj) → List SideV → List SideV
  | [], L => L
  | (_, a, _) :: r, L => atL r (.n a :: L)
noncomputable def atR (T : Mem) : List (Nat × Nat × Obj) → List SideV → Option (List SideV)
  | [], R => some R
  | (i, _, _) :: r, R => match T.get i with
    | some (a, _) => atR T r (.n a :: R)
    | none => none
noncomputable def needL : List (Nat × List (Nat × Obj)) → List SideV → List SideV
  | [], L => L
  | (_, l) :: r, L => needL r (.f l :: L)
noncomputable def needR (F : List (List (Nat × Obj))) : List (Nat × List (Nat × Obj)) → List SideV → Option (List SideV)
  | [], R => some R
  | (i, _) :: r, R => match F[i]? with
    | some l => needR F r (.f l :: R)
    | none => none

noncomputable def atsL (S : Summ) (L : List SideV) : List SideV := match S.atS with
  | none => (match S.atT with
    | none => L
    | some b => .n b :: L)
  | some a => (match S.atT with
    | none => .n a :: L
    | some b => .n b :: .n a :: L)
noncomputable def atsR (S : Summ) (sz tok : Nat) (R : List SideV) : List SideV := match S.atS with
  | none => (match S.atT with
    | none => R
    | some _ => .n tok :: R)
  | some _ => (match S.atT with
    | none => .n sz :: R
    | some _ => .n tok :: .n sz :: R)
theorem ats_spec {S : Summ} {sz tok : Nat} {L R : List SideV} (h : atsL S L = atsR S sz tok R) : L = R ∧ (∀ a, S.atS = some a → sz = a) ∧ (∀ a, S.atT = some a → tok = a) := by
  unfold atsL atsR at h
  cases h1 : S.atS with
  | none =>
    cases h2 : S.atT with
    | none => simp only [h1, h2] at h; exact ⟨h, (fun _ z => nomatch z), (fun _ z => nomatch z)⟩
    | some b =>
      simp only [h1, h2, List.cons.injEq, SideV.n.injEq] at h
      exact ⟨h.2, (fun _ z => nomatch z), (fun _ z => by cases z; exact h.1.symm)⟩
  | some a =>
    cases h2 : S.atT with
    | none =>
      simp only [h1, h2, List.cons.injEq, SideV.n.injEq] at h
      exact ⟨h.2, (fun _ z => by cases z; exact h.1.symm), (fun _ z => nomatch z)⟩
    | some b =>
      simp only [h1, h2, List.cons.injEq, SideV.n.injEq] at h
      exact ⟨h.2.2, (fun _ z => by cases z; exact h.2.1.symm), (fun _ z => by cases z; exact h.1.symm)⟩
noncomputable def appG (g : List GenState) : List GenState → List GenState
  | [] => g
  | x :: l => g ++ x :: l
theorem appG_eq (g l : List GenState) : appG g l = g ++ l := by cases l <;> simp [appG]
noncomputable def addZ : Option Nat → Nat → Nat
  | none, z => z
  | some d, z => d + z
theorem addZ_eq (d : Option Nat) (z : Nat) : addZ d z = d.getD 0 + z := by cases d <;> simp [addZ]

section
variable (tb : String → Option Builtin) (p : Program) (w : World) (K : Nat → Option Obj) (W : List (Code × Pos))

noncomputable abbrev RunTy := List Op → Mem → Nat → Nat → List GenState → Nat → List (List (Nat × Obj)) → Sem Fin → Code → Pos → List Frame → List SideV → List SideV → Option Out

/-- the call of a summary -/
noncomputable def useS (ih : RunTy) (S : Summ) (ops : List Op) (T : Mem) (m sz : Nat) (gens : List GenState) (toks : Nat) (F : List (List (Nat × Obj))) (c : Code) (hd : Option Value) (k : Result → Sem Fin) (code : Code) (pos : Pos) (st : List Frame) (L R : List SideV) : Option Out :=
  match preR T S.pre (atsR S sz toks R) with
  | none => none
  | some R' => match atR T S.post R' with
    | none => none
    | some R' => match needR F S.needs R' with
      | none => none
      | some R' => match newOk sz S.new (putPost S.post T) m with
        | false => none
        | true => ih ops (putNew sz S.new (putPost S.post T) m).1 (putNew sz S.new (putPost S.post T) m).2 (addZ S.dsz sz + S.dl) (appG gens S.newg) (toks + S.dtok) (S.facts ++ F) (k S.res) code pos st
          (.b true :: .h none :: .h none :: .c S.code :: needL S.needs (atL S.post (preL S.pre (atsL S L))))
          (.b (S.shape ((code, pos) :: (st.map Frame.where_ ++ W))) :: .h (topHandled st) :: .h hd :: .c c :: R')

/-- a stretch -/
noncomputable def useM (ih : RunTy) (M : Mid) (ops : List Op) (T : Mem) (m sz : Nat) (gens : List GenState) (toks : Nat) (F : List (List (Nat × Obj))) (cur : Sem Fin) (code : Code) (pos : Pos) (st : List Frame) (L R : List SideV) : Option Out :=
  match preR T M.pre R with
  | none => none
  | some R' => match atR T M.post R' with
    | none => none
    | some R' => ih ops (putPost M.post T) m sz gens toks F M.Y code pos st (.h none :: .t M.X :: atL M.post (preL M.pre L)) (.h (topHandled st) :: .t cur :: R')

noncomputable def stepO (ih : RunTy) : RunTy := fun ops T m sz gens toks F cur code pos st L R => match cur with
  | .pure fin => match fin with
    | .done f => match st with
      | [] => none
      | fr :: st' => match fr with
        | .ret k _ _ _ c q _ => ih ops T m sz gens toks F (k (.ok f)) c q st' L R
        | .gen g k _ c q => ih ops T m sz (gens.set g .finished) toks F (k (.returned (match f with | .ret v => v | _ => .none))) c q st' L R
    | .again c => match c.quiet with
      | false => none
      | true => match ops with
        | [] => ih [] T m sz gens toks F (denote tb c) c pos st L R
        | op :: ops' => match op with
          | .k n => ih (.k n :: ops') T m sz gens toks F (denote tb c) c pos st L R
          | .s i => ih (.s i :: ops') T m sz gens toks F (denote tb c) c pos st L R
          | .u S => ih (.u S :: ops') T m sz gens toks F (denote tb c) c pos st L R
          | .m M => ih (.m M :: ops') T m sz gens toks F (denote tb c) c pos st L R
          | .q M => ih (.q M :: ops') T m sz gens toks F (denote tb c) c pos st L R
          | .a S => match st with
            | [] => none
            | fr :: st' => match fr with
              | .ret k h _ _ c0 q _ => useS W ih (S c sz toks) ops' T m sz gens toks F c h k c0 q st' L R
              | .gen .. => none
  | .raise e => match st with
    | [] => none
    | fr :: st' => match fr with
      | .ret k _ _ _ c q _ => ih ops T m sz gens toks F (k (.error e)) c q st' L R
      | .gen g k _ c q => ih ops T m sz (gens.set g .finished) toks F (k (.raised e)) c q st' L R
  | .rule _ k => ih ops T m sz gens toks F (k ()) code pos st L R
  | .at q k => ih ops T m sz gens toks F (k ()) code q st L R
  | .point _ k => ih ops T m sz gens toks F (k ()) code pos st L R
  | .ask k => ih ops T m sz gens toks F (k ⟨p, w.params⟩) code pos st L R
  | .fresh k => ih ops T m sz gens (toks + 1) F (k toks) code pos st L R
  | .handled own k => ih ops T m sz gens toks F (k (topHandled (match own with | true => ownFrames st | false => st))) code pos st L R
  | .stack k => match ops with
    | [] => ih [] T m sz gens toks F (k ((code, pos) :: (st.map Frame.where_ ++ W))) code pos st L R
    | op :: ops' => match op with
      | .k n => ih (.k n :: ops') T m sz gens toks F (k ((code, pos) :: (st.map Frame.where_ ++ W))) code pos st L R
      | .s i => ih (.s i :: ops') T m sz gens toks F (k ((code, pos) :: (st.map Frame.where_ ++ W))) code pos st L R
      | .u S => ih (.u S :: ops') T m sz gens toks F (k ((code, pos) :: (st.map Frame.where_ ++ W))) code pos st L R
      | .a S => ih (.a S :: ops') T m sz gens toks F (k ((code, pos) :: (st.map Frame.where_ ++ W))) code pos st L R
      | .m M => ih (.m M :: ops') T m sz gens toks F (k ((code, pos) :: (st.map Frame.where_ ++ W))) code pos st L R
      | .q M => useM ih (M ((code, pos) :: (st.map Frame.where_ ++ W)) sz toks) ops' T m sz gens toks F (k ((code, pos) :: (st.map Frame.where_ ++ W))) code pos st L R
  | .thread k => ih ops T m sz gens toks F (k 0) code pos st L R
  | .alloc o k => match o.isFreed with
    | true => none
    | false => match (T.ins m (sz, o)).get m with
      | some _ => ih ops (T.ins m (sz, o)) (m + 1) (sz + 1) gens toks F (k sz) code pos st L R
      | none => none
  | .load a _ k => match ops with
    | [] => none
    | op :: ops' => match op with
      | .k n => match K a with
        | some o => ih (restK n ops') T m sz gens toks F (k o) code pos st L R
        | none => none
      | .s i => match T.get i with
        | some (b, o) => ih ops' T m sz gens toks F (k o) code pos st (.n a :: L) (.n b :: R)
        | none => none
      | .u _ => none
      | .a _ => none
      | .m M => useM ih (M sz toks) ops' T m sz gens toks F cur code pos st L R
      | .q _ => none
  | .loadIfAlive a k => match ops with
    | [] => none
    | op :: ops' => match op with
      | .k n => match K a with
        | some o => ih (restK n ops') T m sz gens toks F (k (some o)) code pos st L R
        | none => none
      | .s i => match T.get i with
        | some (b, o) => ih ops' T m sz gens toks F (k (some o)) code pos st (.n a :: L) (.n b :: R)
        | none => none
      | .u _ => none
      | .a _ => none
      | .m _ => none
      | .q _ => none
  | .update a _ f k => match ops with
    | [] => none
    | op :: ops' => match op with
      | .k _ => none
      | .s i => match T.get i with
        | some (b, o) => match (f o).isFreed with
          | true => none
          | false => ih ops' (T.set i (b, f o)) m sz gens toks F (k ()) code pos st (.n a :: L) (.n b :: R)
        | none => none
      | .u _ => none
      | .a _ => none
      | .m _ => none
      | .q _ => none
  | .call c h g l k => match ops with
    | [] => none
    | op :: ops' => match op with
      | .k n => ih (restK n ops') T m sz gens toks F (denote tb c) c pos (.ret k h g l code pos [] :: st) L R
      | .s _ => none
      | .u S => useS W ih (S c sz toks) ops' T m sz gens toks F c h k code pos st L R
      | .a _ => none
      | .m _ => none
      | .q _ => none
  | .newGen c k => ih ops T m sz (gens ++ [.fresh c]) toks F (k gens.length) code pos st L R
  | .genState g k => match gens[g]? with
    | some x => ih ops T m sz gens toks F (k x.seen) code pos st L R
    | none => none
  | .resume g r l k => match gens[g]? with
    | none => none
    | some x => match x with
      | .fresh c => match r with
        | .send v => match v with
          | .none => ih ops T m sz (gens.set g .running) toks F (denote tb c) c pos (.gen g k l code pos :: st) L R
          | _ => none
        | .throw _ => none
      | .suspended kk _ c q fs _ => ih ops T m sz (gens.set g .running) toks F (kk r) c q (fs ++ .gen g k l code pos :: st) L R
      | .running => none
      | .finished => none
  | .yield v gd l k => match splitAtGen st with
    | none => none
    | some (fs, (g, kk, c, q), rest) => match (End.susp v gd l k code pos fs).quiet with
      | false => none
      | true => ih ops T m sz (gens.set g (End.susp v gd l k code pos fs).genState) toks F (kk (.yielded v)) c q rest L R
  | .unsupported _ => none
  | .finish _ => none
  | .register .. => none
  | .choose .. => none
  | .os .. => none
  | .fork .. => none
  | .await .. => none
noncomputable def run : Nat → RunTy
  | 0 => fun ops T m sz gens toks F cur code pos st L R => some ⟨T, m, sz, gens, toks, F, cur, code, pos, st, L, R, ops⟩
  | n + 1 => stepO tb p w K W (run n)
end

/-- the heap bears the memory -/
structure Rep (h₀ : Heap) (free : List Nat) (h : Heap) (T : Mem) (m sz : Nat) (F : List (List (Nat × Obj))) : Prop where
  size : h.objs.size = sz
  slot : ∀ i a o, T.get i = some (a, o) → i < m ∧ h.get? a = some o
  inj : ∀ i j a o o', T.get i = some (a, o) → T.get j = some (a, o') → i = j
  keep : ∀ b o, h₀.get? b = some o → b ∉ free → h.get? b = some o
  own : ∀ i a o, T.get i = some (a, o) → a ∈ free ∨ h₀.get? a = none
  sub : h₀.objs.size ≤ h.objs.size
  fact : ∀ l ∈ F, ∀ q ∈ l, h.get? q.1 = some q.2 ∧ ∀ i o, T.get i ≠ some (q.1, o)

/-- a summary is true of the machine: from the code's entry to the frame that waits for it -/
noncomputable def Summ.Valid (M : Model) (K : Nat → Option Obj) (S : Summ) (sz tok : Nat) : Prop :=
  ∀ (s : Shared) (k : Result → Sem Fin) (g : Bool) (l : List Value) (code : Code) (pos pos' : Pos) (kp : List Value) (st : List Frame),
    (∀ a o, K a = some o → s.heap.get? a = some o) → (∀ q ∈ S.pre, s.heap.get? q.2.1 = some q.2.2) → (∀ q ∈ S.post, ∃ o, s.heap.get? q.2.1 = some o) →
    (∀ n ∈ S.needs, ∀ q ∈ n.2, s.heap.get? q.1 = some q.2) → (∀ n ∈ S.needs, ∀ q ∈ n.2, ∀ r ∈ S.post, q.1 ≠ r.2.1) → s.heap.objs.size = sz → s.toks = tok →
    topHandled st = none → S.shape ((code, pos) :: st.map Frame.where_) = true →
    ∃ h' : Heap, Comes M s ⟨M.den S.code, S.code, pos', .ret k none g l code pos kp :: st⟩ { s with heap := h', gens := s.gens ++ ⟨S.newg⟩, toks := tok + S.dtok } ⟨k S.res, code, pos, st⟩ ∧ h'.objs.size = S.dsz.getD 0 + sz + S.dl ∧
      (∀ q ∈ S.post, h'.get? q.2.1 = some q.2.2) ∧ (∀ q ∈ S.new, h'.get? (sz + q.1) = some q.2) ∧
      (∀ l ∈ S.facts, ∀ q ∈ l, h'.get? q.1 = some q.2 ∧ sz ≤ q.1 ∧ ∀ r ∈ S.new, q.1 ≠ sz + r.1) ∧
      ∀ b o, s.heap.get? b = some o → (∀ q ∈ S.post, q.2.1 ≠ b) → h'.get? b = some o

noncomputable def Mid.Valid (M : Model) (K : Nat → Option Obj) (D : Mid) (sz tok : Nat) : Prop :=
  ∀ (s : Shared) (code : Code) (pos : Pos) (st : List Frame), (∀ a o, K a = some o → s.heap.get? a = some o) → (∀ q ∈ D.pre, s.heap.get? q.2.1 = some q.2.2) → (∀ q ∈ D.post, ∃ o, s.heap.get? q.2.1 = some o) → s.heap.objs.size = sz → s.toks = tok → topHandled st = none →
    ∃ h' : Heap, Comes M s ⟨D.X, code, pos, st⟩ { s with heap := h' } ⟨D.Y, code, pos, st⟩ ∧ h'.objs.size = sz ∧ (∀ q ∈ D.post, h'.get? q.2.1 = some q.2.2) ∧
      ∀ b o, s.heap.get? b = some o → (∀ q ∈ D.post, q.2.1 ≠ b) → h'.get? b = some o

noncomputable def OpsOk (M : Model) (K : Nat → Option Obj) : List Op → Prop
  | [] => True
  | .u S :: r => (∀ c sz tok, (∀ a, (S c sz tok).atS = some a → sz = a) → (∀ a, (S c sz tok).atT = some a → tok = a) → (S c sz tok).Valid M K sz tok ∧ ((S c sz tok).new.map (·.1)).Nodup) ∧ OpsOk M K r
  | .a S :: r => (∀ c sz tok, (∀ a, (S c sz tok).atS = some a → sz = a) → (∀ a, (S c sz tok).atT = some a → tok = a) → (S c sz tok).Valid M K sz tok ∧ ((S c sz tok).new.map (·.1)).Nodup) ∧ OpsOk M K r
  | .m D :: r => (∀ sz tok, (D sz tok).Valid M K sz tok) ∧ OpsOk M K r
  | .q D :: r => (∀ acts sz tok, (D acts sz tok).Valid M K sz tok) ∧ OpsOk M K r
  | .k _ :: r => OpsOk M K r
  | .s _ :: r => OpsOk M K r
end Mine
namespace Mine
open PySem PySem.W

theorem goTrue_none : ∀ {b : List Frame}, topHandled b = none → topHandled.go true b = none
  | [], _ => rfl
  | .gen .. :: _, h => h
  | .ret k hd g l c p kp :: r, h => by
    show topHandled.go true r = none
    rw [topHandled_ret] at h
    cases hd with
    | none => exact goTrue_none h
    | some e =>
      replace h : (if (e == byPass) = true then topHandled.go true r else some e) = none := h
      split at h
      · exact h
      · cases h
theorem topHandled_over (a : List Frame) {b : List Frame} (h : topHandled b = none) : topHandled (a ++ b) = topHandled a := by
  rw [topHandled_append, h, goTrue_none h]
  have := topHandled_append a []
  rw [List.append_nil] at this
  rw [this]; rfl
theorem goTrue_own : ∀ b : List Frame, topHandled.go true (ownFrames b) = none
  | [] => rfl
  | .gen .. :: _ => rfl
  | .ret k hd g l c p kp :: r => by
    rw [ownFrames_ret]
    exact goTrue_own r
theorem ownFrames_none : ∀ {b : List Frame}, topHandled b = none → topHandled (ownFrames b) = none
  | [], _ => rfl
  | .gen .. :: _, _ => rfl
  | .ret k hd g l c p kp :: r, h => by
    rw [ownFrames_ret]
    rw [topHandled_ret] at h ⊢
    cases hd with
    | none => exact ownFrames_none h
    | some e =>
      replace h : (if (e == byPass) = true then topHandled.go true r else some e) = none := h
      show (if (e == byPass) = true then topHandled.go true (ownFrames r) else some e) = none
      split at h
      · rename_i hb
        rw [if_pos hb, goTrue_own]
      · cases h
theorem topOwn_over (a : List Frame) {b : List Frame} (h : topHandled b = none) : topHandled (ownFrames (a ++ b)) = topHandled (ownFrames a) := by
  unfold ownFrames
  cases q : splitAtGen a with
  | none =>
    rw [splitAtGen_append_none b q]
    have h1 := ownFrames_none h
    unfold ownFrames at h1
    cases e : splitAtGen b with
    | none => exact topHandled_over a h
    | some x =>
      obtain ⟨fs, y, rest⟩ := x
      rw [e] at h1
      exact topHandled_over a h1
  | some x =>
    obtain ⟨fs, y, rest⟩ := x
    rw [splitAtGen_append_some b q]
theorem topRet_cond {k k' : Result → Sem Fin} {hd : Option Value} {g g' : Bool} {l l' : List Value} {c c' : Code} {p p' : Pos} {kp kp' : List Value} (st : List Frame) :
    topHandled (.ret k hd g l c p kp :: st) = topHandled (.ret k' hd g' l' c' p' kp' :: st) := by rw [topHandled_ret, topHandled_ret]

section
variable {h₀ : Heap} {free : List Nat} {h : Heap} {T : Mem} {m sz : Nat} {F : List (List (Nat × Obj))}

theorem Rep.alloc (D : Rep h₀ free h T m sz F) {o : Obj} (hf : o.isFreed = false) (hg : ((T.ins m (sz, o)).get m).isSome = true) : Rep h₀ free (h.push o) (T.ins m (sz, o)) (m + 1) (sz + 1) F := by
  have hs := D.size
  refine ⟨by rw [Heap.size_push, hs], fun i a o' e => ?_, fun i j a o1 o2 e1 e2 => ?_, fun b o' e q => Heap.get?_push_of_some _ (D.keep b o' e q), fun i a o' e => ?_,
    by rw [Heap.size_push]; exact Nat.le_succ_of_le D.sub, fun l hl q hq => ?_⟩
  · rw [Tr.get_ins _ T m hg] at e
    by_cases hi : i = m
    · subst hi
      rw [if_pos rfl] at e
      cases e
      exact ⟨Nat.lt_succ_self _, by rw [← hs]; exact Heap.get?_push_size _ hf⟩
    · rw [if_neg hi] at e
      have z := D.slot i a o' e
      exact ⟨Nat.lt_succ_of_lt z.1, Heap.get?_push_of_some _ z.2⟩
  · rw [Tr.get_ins _ T m hg] at e1 e2
    by_cases hi : i = m
    · by_cases hj : j = m
      · rw [hi, hj]
      · rw [if_pos hi] at e1
        rw [if_neg hj] at e2
        cases e1
        have := Heap.lt_size (D.slot j _ _ e2).2
        rw [hs] at this
        exact absurd this (Nat.lt_irrefl _)
    · by_cases hj : j = m
      · rw [if_neg hi] at e1
        rw [if_pos hj] at e2
        cases e2
        have := Heap.lt_size (D.slot i _ _ e1).2
        rw [hs] at this
        exact absurd this (Nat.lt_irrefl _)
      · rw [if_neg hi] at e1
        rw [if_neg hj] at e2
        exact D.inj i j a o1 o2 e1 e2
  · rw [Tr.get_ins _ T m hg] at e
    by_cases hi : i = m
    · rw [if_pos hi] at e
      cases e
      right
      cases hq : h₀.get? sz with
      | none => rfl
      | some o'' =>
        have h1 := Heap.lt_size hq
        have h2 := D.sub
        rw [hs] at h2
        exact absurd (Nat.lt_of_lt_of_le h1 h2) (Nat.lt_irrefl _)
    · rw [if_neg hi] at e
      exact D.own i a o' e
  · obtain ⟨z1, z2⟩ := D.fact l hl q hq
    refine ⟨Heap.get?_push_of_some _ z1, fun i o' e => ?_⟩
    rw [Tr.get_ins _ T m hg] at e
    by_cases hi : i = m
    · rw [if_pos hi] at e
      have := Heap.lt_size z1
      rw [hs] at this
      cases e
      exact absurd this (Nat.lt_irrefl _)
    · rw [if_neg hi] at e
      exact z2 i o' e

theorem Rep.put (D : Rep h₀ free h T m sz F) {i a : Nat} {o o' : Obj} {h' : Heap} (e : T.get i = some (a, o)) (hs : h'.objs.size = h.objs.size) (hne : ∀ b, b ≠ a → h'.get? b = h.get? b) (hn : h'.get? a = some o') :
    Rep h₀ free h' (T.set i (a, o')) m sz F := by
  have key : ∀ j b o1, (T.set i (a, o')).get j = some (b, o1) → ∃ o2, T.get j = some (b, o2) := fun j b o1 q => by
    rw [Tr.get_set] at q
    by_cases hj : j = i
    · subst hj
      rw [if_pos rfl, e] at q
      cases q
      exact ⟨o, e⟩
    · rw [if_neg hj] at q
      exact ⟨o1, q⟩
  refine ⟨hs.trans D.size, fun j b o2 q => ?_, fun j1 j2 b o1 o2 q1 q2 => ?_, fun b o2 q f => ?_, fun j b o2 q => ?_, by rw [hs]; exact D.sub, fun l hl q hq => ?_⟩
  · rw [Tr.get_set] at q
    by_cases hj : j = i
    · subst hj
      rw [if_pos rfl, e] at q
      cases q
      have z := D.slot j a o e
      exact ⟨z.1, hn⟩
    · rw [if_neg hj] at q
      have z := D.slot j b o2 q
      exact ⟨z.1, (hne b fun w => hj (D.inj j i a o2 o (w ▸ q) e)).trans z.2⟩
  · obtain ⟨p1, r1⟩ := key j1 b o1 q1
    obtain ⟨p2, r2⟩ := key j2 b o2 q2
    exact D.inj j1 j2 b p1 p2 r1 r2
  · refine (hne b fun w => ?_).trans (D.keep b o2 q f)
    subst w
    rcases D.own i b o e with z | z
    · exact f z
    · rw [z] at q; cases q
  · obtain ⟨o3, r⟩ := key j b o2 q
    exact D.own j b o3 r
  · obtain ⟨z1, z2⟩ := D.fact l hl q hq
    refine ⟨(hne q.1 fun w => z2 i o (w ▸ e)).trans z1, fun j o2 r => ?_⟩
    obtain ⟨o3, r'⟩ := key j _ o2 r
    exact z2 j o3 r'

theorem Rep.update (D : Rep h₀ free h T m sz F) {i a : Nat} {o : Obj} {f : Obj → Obj} (e : T.get i = some (a, o)) (hf : (f o).isFreed = false) : Rep h₀ free (h.update a f) (T.set i (a, f o)) m sz F := by
  have hs : Heap.SameBut a h (h.update a f) := Heap.SameBut.update ..
  have z := D.slot i a o e
  exact D.put e hs.1 hs.2 (by first | exact Heap.get?_update_self f z.2 hf | exact Heap.get?_update_self _ z.2 hf)

theorem putPost_get : ∀ {post : List (Nat × Nat × Obj)} {T : Mem} {i a : Nat} {o : Obj}, (putPost post T).get i = some (a, o) →
    (T.get i = some (a, o) ∧ ∀ q ∈ post, q.1 ≠ i) ∨ ((i, a, o) ∈ post ∧ ∃ x, T.get i = some x)
  | [], T, i, a, o, e => .inl ⟨e, fun q hq => nomatch hq⟩
  | (j, b, o1) :: r, T, i, a, o, e => by
    rcases putPost_get (post := r) e with ⟨q, hr⟩ | ⟨hm, x, hx⟩
    · rw [Tr.get_set] at q
      by_cases hj : i = j
      · subst hj
        rw [if_pos rfl] at q
        cases ht : T.get i with
        | none => rw [ht] at q; cases q
        | some y =>
          rw [ht] at q
          cases q
          exact .inr ⟨List.mem_cons_self, y, rfl⟩
      · rw [if_neg hj] at q
        refine .inl ⟨q, fun z hz => ?_⟩
        rcases List.mem_cons.mp hz with rfl | hz
        · exact Ne.symm hj
        · exact hr z hz
    · refine .inr ⟨List.mem_cons_of_mem _ hm, ?_⟩
      rw [Tr.get_set] at hx
      by_cases hj : i = j
      · subst hj
        rw [if_pos rfl] at hx
        cases ht : T.get i with
        | none => rw [ht] at hx; cases hx
        | some y => exact ⟨y, rfl⟩
      · rw [if_neg hj] at hx
        exact ⟨x, hx⟩

theorem Rep.posts (D : Rep h₀ free h T m sz F) {h' : Heap} {d : Nat} {post : List (Nat × Nat × Obj)} (hs : h'.objs.size = d + sz) (hat : ∀ q ∈ post, ∃ o, T.get q.1 = some (q.2.1, o))
    (hp : ∀ q ∈ post, h'.get? q.2.1 = some q.2.2) (hk : ∀ b o, h.get? b = some o → (∀ q ∈ post, q.2.1 ≠ b) → h'.get? b = some o) : Rep h₀ free h' (putPost post T) m (d + sz) F := by
  have key : ∀ i a o, (putPost post T).get i = some (a, o) → ∃ o', T.get i = some (a, o') := fun i a o e => by
    rcases putPost_get e with ⟨q, _⟩ | ⟨hm, _⟩
    · exact ⟨o, q⟩
    · exact hat _ hm
  refine ⟨hs, fun i a o e => ?_, fun i j a o1 o2 e1 e2 => ?_, fun b o e f => hk _ _ (D.keep b o e f) fun q hq z => ?_, fun i a o e => ?_,
    by rw [hs]; have := D.sub; rw [D.size] at this; omega, fun l hl q hq => ?_⟩
  · rcases putPost_get e with ⟨q, hr⟩ | ⟨hm, x, hx⟩
    · have z := D.slot i a o q
      refine ⟨z.1, hk _ _ z.2 fun y hy w => ?_⟩
      obtain ⟨o', hq'⟩ := hat y hy
      rw [w] at hq'
      exact hr y hy (D.inj _ _ _ _ _ hq' q)
    · obtain ⟨o', hq'⟩ := hat _ hm
      have z := D.slot i a o' hq'
      exact ⟨z.1, hp _ hm⟩
  · obtain ⟨p1, r1⟩ := key i a o1 e1
    obtain ⟨p2, r2⟩ := key j a o2 e2
    exact D.inj i j a p1 p2 r1 r2
  · obtain ⟨o', hq'⟩ := hat q hq
    rcases D.own _ _ _ hq' with y | y
    · exact f (z ▸ y)
    · rw [z, e] at y; cases y
  · obtain ⟨o', r⟩ := key i a o e
    exact D.own i a o' r
  · obtain ⟨z1, z2⟩ := D.fact l hl q hq
    refine ⟨hk _ _ z1 fun y hy w => ?_, fun i o e => ?_⟩
    · obtain ⟨o', hq'⟩ := hat y hy
      exact z2 _ _ (w ▸ hq')
    · obtain ⟨o', r⟩ := key i _ o e
      exact z2 i o' r

theorem Rep.add (D : Rep h₀ free h T m sz F) {a : Nat} {o : Obj} (hg : ((T.ins m (a, o)).get m).isSome = true) (hh : h.get? a = some o) (h0 : h₀.get? a = none) (hne : ∀ i a' o', T.get i = some (a', o') → a' ≠ a)
    (hF : ∀ l ∈ F, ∀ q ∈ l, q.1 ≠ a) : Rep h₀ free h (T.ins m (a, o)) (m + 1) sz F := by
  refine ⟨D.size, fun i b o' e => ?_, fun i j b o1 o2 e1 e2 => ?_, D.keep, fun i b o' e => ?_, D.sub, fun l hl q hq => ⟨(D.fact l hl q hq).1, fun i o' e => ?_⟩⟩
  · rw [Tr.get_ins _ T m hg] at e
    by_cases hi : i = m
    · subst hi
      rw [if_pos rfl] at e
      cases e
      exact ⟨Nat.lt_succ_self _, hh⟩
    · rw [if_neg hi] at e
      have z := D.slot i b o' e
      exact ⟨Nat.lt_succ_of_lt z.1, z.2⟩
  · rw [Tr.get_ins _ T m hg] at e1 e2
    by_cases hi : i = m
    · by_cases hj : j = m
      · rw [hi, hj]
      · rw [if_pos hi] at e1
        rw [if_neg hj] at e2
        cases e1
        exact absurd rfl (hne j _ _ e2)
    · by_cases hj : j = m
      · rw [if_neg hi] at e1
        rw [if_pos hj] at e2
        cases e2
        exact absurd rfl (hne i _ _ e1)
      · rw [if_neg hi] at e1
        rw [if_neg hj] at e2
        exact D.inj i j b o1 o2 e1 e2
  · rw [Tr.get_ins _ T m hg] at e
    by_cases hi : i = m
    · rw [if_pos hi] at e
      cases e
      exact .inr h0
    · rw [if_neg hi] at e
      exact D.own i b o' e
  · rw [Tr.get_ins _ T m hg] at e
    by_cases hi : i = m
    · rw [if_pos hi] at e
      cases e
      exact hF l hl q hq rfl
    · rw [if_neg hi] at e
      exact (D.fact l hl q hq).2 i o' e

theorem Rep.news {s₀ : Nat} (h0 : h₀.objs.size ≤ s₀) : ∀ {new : List (Nat × Obj)} {T : Mem} {m : Nat} (dn : List Nat), Rep h₀ free h T m sz F → newOk s₀ new T m = true → (∀ q ∈ new, h.get? (s₀ + q.1) = some q.2) →
    (∀ i a o, T.get i = some (a, o) → a < s₀ ∨ ∃ d ∈ dn, a = s₀ + d) → (∀ q ∈ new, q.1 ∉ dn) → (new.map (·.1)).Nodup → (∀ l ∈ F, ∀ q ∈ l, ∀ r ∈ new, q.1 ≠ s₀ + r.1) →
    Rep h₀ free h (putNew s₀ new T m).1 (putNew s₀ new T m).2 sz F
  | [], T, m, dn, D, _, _, _, _, _, _ => D
  | (d, o) :: r, T, m, dn, D, ok, hh, hT, hd, nd, hF => by
    unfold newOk at ok
    have hg : ((T.ins m (s₀ + d, o)).get m).isSome = true := by
      cases q : (T.ins m (s₀ + d, o)).get m with
      | none => rw [q] at ok; cases ok
      | some _ => rfl
    have ok' : newOk s₀ r (T.ins m (s₀ + d, o)) (m + 1) = true := by
      cases q : (T.ins m (s₀ + d, o)).get m with
      | none => rw [q] at ok; cases ok
      | some _ => rw [q] at ok; exact ok
    have D' := D.add (a := s₀ + d) (o := o) hg (hh _ (List.mem_cons_self)) (by
      cases q : h₀.get? (s₀ + d) with
      | none => rfl
      | some o' => exact absurd (Heap.lt_size q) (Nat.not_lt.mpr (Nat.le_trans h0 (Nat.le_add_right _ _)))) (fun i a' o' e z => by
      rcases hT i a' o' e with w | ⟨d', hd', w⟩
      · exact absurd w (Nat.not_lt.mpr (z ▸ Nat.le_add_right _ _))
      · have : d' = d := Nat.add_left_cancel (w.symm.trans z)
        subst this
        exact hd _ (List.mem_cons_self) hd') (fun l hl q hq => hF l hl q hq _ (List.mem_cons_self))
    rw [List.map_cons, List.nodup_cons] at nd
    refine Rep.news h0 (new := r) (d :: dn) D' ok' (fun q hq => hh q (List.mem_cons_of_mem _ hq)) (fun i a o' e => ?_) (fun q hq z => ?_) nd.2 (fun l hl q hq z hz => hF l hl q hq z (List.mem_cons_of_mem _ hz))
    · rw [Tr.get_ins _ T m hg] at e
      by_cases hi : i = m
      · rw [if_pos hi] at e
        cases e
        exact .inr ⟨d, List.mem_cons_self, rfl⟩
      · rw [if_neg hi] at e
        rcases hT i a o' e with w | ⟨d', hd', w⟩
        · exact .inl w
        · exact .inr ⟨d', List.mem_cons_of_mem _ hd', w⟩
    · rcases List.mem_cons.mp z with w | w
      · exact nd.1 (List.mem_map.mpr ⟨q, hq, w⟩)
      · exact hd q (List.mem_cons_of_mem _ hq) w

theorem Rep.facts (D : Rep h₀ free h T m sz F) {fs : List (List (Nat × Obj))} (hf : ∀ l ∈ fs, ∀ q ∈ l, h.get? q.1 = some q.2 ∧ ∀ i o, T.get i ≠ some (q.1, o)) : Rep h₀ free h T m sz (fs ++ F) :=
  ⟨D.size, D.slot, D.inj, D.keep, D.own, D.sub, fun l hl => by
    rcases List.mem_append.mp hl with z | z
    · exact hf l z
    · exact D.fact l z⟩

theorem putNew_get {s₀ : Nat} : ∀ {new : List (Nat × Obj)} {T : Mem} {m i a : Nat} {o : Obj}, newOk s₀ new T m = true → (putNew s₀ new T m).1.get i = some (a, o) → T.get i = some (a, o) ∨ ∃ q ∈ new, a = s₀ + q.1
  | [], T, m, i, a, o, _, e => .inl e
  | (d, o1) :: r, T, m, i, a, o, ok, e => by
    unfold newOk at ok
    have hg : ((T.ins m (s₀ + d, o1)).get m).isSome = true := by
      cases q : (T.ins m (s₀ + d, o1)).get m with
      | none => rw [q] at ok; cases ok
      | some _ => rfl
    have ok' : newOk s₀ r (T.ins m (s₀ + d, o1)) (m + 1) = true := by
      cases q : (T.ins m (s₀ + d, o1)).get m with
      | none => rw [q] at ok; cases ok
      | some _ => rw [q] at ok; exact ok
    rcases putNew_get (new := r) ok' e with z | ⟨q, hq, z⟩
    · rw [Tr.get_ins _ T m hg] at z
      by_cases hi : i = m
      · rw [if_pos hi] at z
        cases z
        exact .inr ⟨_, List.mem_cons_self, rfl⟩
      · rw [if_neg hi] at z
        exact .inl z
    · exact .inr ⟨q, List.mem_cons_of_mem _ hq, z⟩
end

theorem preR_spec {T : Mem} : ∀ {pre : List (Nat × Nat × Obj)} {L R R' : List SideV}, preR T pre R = some R' → preL pre L = R' → L = R ∧ ∀ q ∈ pre, T.get q.1 = some q.2
  | [], L, R, R', h, e => by
    cases h
    exact ⟨e, fun q hq => nomatch hq⟩
  | (i, a, o) :: r, L, R, R', h, e => by
    unfold preR at h
    unfold preL at e
    cases q : T.get i with
    | none => rw [q] at h; cases h
    | some x =>
      obtain ⟨a', o'⟩ := x
      rw [q] at h
      obtain ⟨e1, e2⟩ := preR_spec (pre := r) h e
      simp only [List.cons.injEq, SideV.o.injEq, SideV.n.injEq] at e1
      obtain ⟨rfl, rfl, rfl⟩ := e1
      refine ⟨rfl, fun z hz => ?_⟩
      rcases List.mem_cons.mp hz with rfl | hz
      · exact q
      · exact e2 z hz
theorem atR_spec {T : Mem} : ∀ {post : List (Nat × Nat × Obj)} {L R R' : List SideV}, atR T post R = some R' → atL post L = R' → L = R ∧ ∀ q ∈ post, ∃ o, T.get q.1 = some (q.2.1, o)
  | [], L, R, R', h, e => by
    cases h
    exact ⟨e, fun q hq => nomatch hq⟩
  | (i, a, o) :: r, L, R, R', h, e => by
    unfold atR at h
    unfold atL at e
    cases q : T.get i with
    | none => rw [q] at h; cases h
    | some x =>
      obtain ⟨a', o'⟩ := x
      rw [q] at h
      obtain ⟨e1, e2⟩ := atR_spec (post := r) h e
      simp only [List.cons.injEq, SideV.n.injEq] at e1
      obtain ⟨rfl, rfl⟩ := e1
      refine ⟨rfl, fun z hz => ?_⟩
      rcases List.mem_cons.mp hz with rfl | hz
      · exact ⟨o', q⟩
      · exact e2 z hz
theorem needR_spec {F : List (List (Nat × Obj))} : ∀ {ns : List (Nat × List (Nat × Obj))} {L R R' : List SideV}, needR F ns R = some R' → needL ns L = R' → L = R ∧ ∀ n ∈ ns, n.2 ∈ F
  | [], L, R, R', h, e => by
    cases h
    exact ⟨e, fun q hq => nomatch hq⟩
  | (i, l) :: r, L, R, R', h, e => by
    unfold needR at h
    unfold needL at e
    cases q : F[i]? with
    | none => rw [q] at h; cases h
    | some x =>
      rw [q] at h
      obtain ⟨e1, e2⟩ := needR_spec (ns := r) h e
      simp only [List.cons.injEq, SideV.f.injEq] at e1
      obtain ⟨rfl, rfl⟩ := e1
      refine ⟨rfl, fun z hz => ?_⟩
      rcases List.mem_cons.mp hz with rfl | hz
      · exact List.mem_of_getElem? q
      · exact e2 z hz
end Mine
namespace Mine
open PySem PySem.W

theorem gset (h : Heap) (gl : List GenState) (d : Drawn) (t : Nat) (os : OsState) (g : Nat) (x : GenState) : (⟨h, ⟨gl⟩, d, t, os⟩ : Shared).setGen g x = ⟨h, ⟨gl.set g x⟩, d, t, os⟩ := by
  unfold Shared.setGen
  have : (⟨gl⟩ : Array GenState).setIfInBounds g x = ⟨gl.set g x⟩ := by simp
  rw [this]
theorem gpush (gl : List GenState) (x : GenState) : (⟨gl⟩ : Array GenState).push x = ⟨gl ++ [x]⟩ := by simp
theorem gget (gl : List GenState) (g : Nat) : (⟨gl⟩ : Array GenState)[g]? = gl[g]? := by simp

theorem opsK {M : Model} {K : Nat → Option Obj} {n : Nat} {r : List Op} (h : OpsOk M K (.k n :: r)) : OpsOk M K (restK n r) := by
  cases n with
  | zero => exact h
  | succ n => exact h

section
variable (tb : String → Option Builtin) (p : Program) (w : World) (K : Nat → Option Obj) (h₀ : Heap) (free : List Nat) (d : Drawn) (os : OsState) (bot : List Frame)

noncomputable def Goes (out : Out) (h : Heap) (gens : List GenState) (toks : Nat) (th : Thread) : Prop :=
  ∃ h', Comes ⟨denote tb, p, w⟩ ⟨h, ⟨gens⟩, d, toks, os⟩ th ⟨h', ⟨out.gens⟩, d, out.toks, os⟩ ⟨out.cur, out.code, out.pos, out.st ++ bot⟩ ∧ Rep h₀ free h' out.T out.m out.sz out.F

theorem Goes.step {out : Out} {h h' : Heap} {gens gens' : List GenState} {toks toks' : Nat} {th th' : Thread} (e : Model.step ⟨denote tb, p, w⟩ ⟨h, ⟨gens⟩, d, toks, os⟩ th = .go ⟨h', ⟨gens'⟩, d, toks', os⟩ th')
    (x : Goes tb p w h₀ free d os bot out h' gens' toks' th') : Goes tb p w h₀ free d os bot out h gens toks th := by
  obtain ⟨h2, c, r⟩ := x
  exact ⟨h2, .step e c, r⟩

noncomputable def RunOk (ih : RunTy) : Prop := ∀ ops T m sz gens toks F cur code pos st L R out, ih ops T m sz gens toks F cur code pos st L R = some out → out.L = out.R →
  L = R ∧ (OpsOk ⟨denote tb, p, w⟩ K ops → ∀ h, Rep h₀ free h T m sz F → Goes tb p w h₀ free d os bot out h gens toks ⟨cur, code, pos, st ++ bot⟩)

variable (hK : ∀ a o, K a = some o → h₀.get? a = some o ∧ a ∉ free) (hb : topHandled bot = none)
include hK hb
theorem useS_ok {ih : RunTy} (IH : RunOk tb p w K h₀ free d os bot ih) (S : Summ) {ops T m sz gens toks F c hd k code pos st L R out} (e : useS (bot.map Frame.where_) ih S ops T m sz gens toks F c hd k code pos st L R = some out) (eq : out.L = out.R) :
    L = R ∧ (OpsOk ⟨denote tb, p, w⟩ K ops → ((∀ a, S.atS = some a → sz = a) → (∀ a, S.atT = some a → toks = a) → S.Valid ⟨denote tb, p, w⟩ K sz toks ∧ (S.new.map (·.1)).Nodup) → ∀ g l kp pos' h, Rep h₀ free h T m sz F → Goes tb p w h₀ free d os bot out h gens toks ⟨denote tb c, c, pos', .ret k hd g l code pos kp :: st ++ bot⟩) := by
  unfold useS at e
  cases h1 : preR T S.pre (atsR S sz toks R) with
  | none => simp only [h1] at e; cases e
  | some R1 =>
    cases h2 : atR T S.post R1 with
    | none => simp only [h1, h2] at e; cases e
    | some R2 =>
      cases h3 : needR F S.needs R2 with
      | none => simp only [h1, h2, h3] at e; cases e
      | some R3 =>
        cases h4 : newOk sz S.new (putPost S.post T) m with
        | false => simp only [h1, h2, h3, h4] at e; cases e
        | true =>
          simp only [h1, h2, h3, h4] at e
          rw [appG_eq, addZ_eq, show S.dsz.getD 0 + sz + S.dl = S.dsz.getD 0 + S.dl + sz by omega] at e
          obtain ⟨x, y⟩ := IH _ _ _ _ _ _ _ _ _ _ _ _ _ _ e eq
          simp only [List.cons.injEq, SideV.b.injEq, SideV.h.injEq, SideV.c.injEq] at x
          obtain ⟨x1, x2, x0, x3, x4⟩ := x
          subst x0
          obtain ⟨x5, nd⟩ := needR_spec h3 x4
          obtain ⟨x6, at_⟩ := atR_spec h2 x5
          obtain ⟨x7, pr⟩ := preR_spec h1 x6
          obtain ⟨x7, ats, att⟩ := ats_spec x7
          refine ⟨x7, fun ok V g l kp pos' h D => ?_⟩
          obtain ⟨V, nn⟩ := V ats att
          subst x3
          obtain ⟨h', C, c1, c2, c3, c5, c4⟩ := V ⟨h, ⟨gens⟩, d, toks, os⟩ k g l code pos pos' kp (st ++ bot) (fun a o q => D.keep a o (hK a o q).1 (hK a o q).2) (fun q hq => (D.slot _ _ _ (pr q hq)).2) (fun q hq => by
              obtain ⟨o, ho⟩ := at_ q hq
              exact ⟨o, (D.slot _ _ _ ho).2⟩) (fun n hn q hq => (D.fact _ (nd n hn) q hq).1) (fun n hn q hq r hr z => by
              obtain ⟨o, ho⟩ := at_ r hr
              exact (D.fact _ (nd n hn) q hq).2 r.1 o (z ▸ ho)) D.size rfl
              (by rw [topHandled_over _ hb]; exact x2.symm) (by rw [List.map_append]; exact x1.symm)
          have D1 := D.posts (d := S.dsz.getD 0 + S.dl) (by rw [c1]; omega) at_ c2 c4
          have lt : ∀ i a o, (putPost S.post T).get i = some (a, o) → a < sz := fun i a o q => by
            rcases putPost_get q with ⟨q, _⟩ | ⟨hm, _⟩
            · exact D.size ▸ Heap.lt_size (D.slot i a o q).2
            · obtain ⟨o', hq'⟩ := at_ _ hm
              exact D.size ▸ Heap.lt_size (D.slot i a o' hq').2
          have D2 := Rep.news (s₀ := sz) (by rw [← D.size]; exact D.sub) [] D1 h4 c3 (fun i a o q => .inl (lt i a o q)) (fun _ _ z => nomatch z) nn (fun l hl q hq r _ z => by
            have := Heap.lt_size (D.fact l hl q hq).1
            rw [D.size] at this
            exact absurd this (Nat.not_lt.mpr (z ▸ Nat.le_add_right _ _)))
          have D3 := D2.facts (fs := S.facts) (fun l hl q hq => by
            obtain ⟨z1, z2, z3⟩ := c5 l hl q hq
            refine ⟨z1, fun i o z => ?_⟩
            rcases putNew_get h4 z with z | ⟨r, hr, z⟩
            · exact absurd (lt i _ o z) (Nat.not_lt.mpr z2)
            · exact z3 r hr z)
          obtain ⟨h2, C2, r⟩ := y ok h' D3
          refine ⟨h2, Comes.trans C ?_, r⟩
          have eg : (⟨gens⟩ : Array GenState) ++ ⟨S.newg⟩ = ⟨gens ++ S.newg⟩ := by simp
          rw [eg]
          exact C2

theorem useM_ok {ih : RunTy} (IH : RunOk tb p w K h₀ free d os bot ih) (D : Mid) {ops T m sz gens toks F cur code pos st L R out} (e : useM ih D ops T m sz gens toks F cur code pos st L R = some out) (eq : out.L = out.R) :
    L = R ∧ (OpsOk ⟨denote tb, p, w⟩ K ops → D.Valid ⟨denote tb, p, w⟩ K sz toks → ∀ h, Rep h₀ free h T m sz F → Goes tb p w h₀ free d os bot out h gens toks ⟨cur, code, pos, st ++ bot⟩) := by
  unfold useM at e
  cases h1 : preR T D.pre R with
  | none => simp only [h1] at e; cases e
  | some R1 =>
    cases h2 : atR T D.post R1 with
    | none => simp only [h1, h2] at e; cases e
    | some R2 =>
      simp only [h1, h2] at e
      obtain ⟨x, y⟩ := IH _ _ _ _ _ _ _ _ _ _ _ _ _ _ e eq
      simp only [List.cons.injEq, SideV.t.injEq, SideV.h.injEq] at x
      obtain ⟨ht, x3, x5⟩ := x
      obtain ⟨x6, at_⟩ := atR_spec h2 x5
      obtain ⟨x7, pr⟩ := preR_spec h1 x6
      refine ⟨x7, fun ok V h Dd => ?_⟩
      subst x3
      obtain ⟨h', C, c1, c2, c4⟩ := V ⟨h, ⟨gens⟩, d, toks, os⟩ code pos (st ++ bot) (fun a o q => Dd.keep a o (hK a o q).1 (hK a o q).2) (fun q hq => (Dd.slot _ _ _ (pr q hq)).2) (fun q hq => by
          obtain ⟨o, ho⟩ := at_ q hq
          exact ⟨o, (Dd.slot _ _ _ ho).2⟩) Dd.size rfl (by rw [topHandled_over _ hb]; exact ht.symm)
      have D1 := Dd.posts (d := 0) (by rw [Nat.zero_add]; exact c1) at_ c2 c4
      rw [Nat.zero_add] at D1
      obtain ⟨h2, C2, r⟩ := y ok h' D1
      exact ⟨h2, Comes.trans C C2, r⟩

theorem stepO_ok {ih : RunTy} (IH : RunOk tb p w K h₀ free d os bot ih) : RunOk tb p w K h₀ free d os bot (stepO tb p w K (bot.map Frame.where_) ih) := by
  intro ops T m sz gens toks F cur code pos st L R out e eq
  cases cur with
  | pure fin =>
    cases fin with
    | done f =>
      cases st with
      | nil => cases e
      | cons fr st =>
        cases fr with
        | ret k h g l c q kp =>
          obtain ⟨a, b⟩ := IH _ _ _ _ _ _ _ _ _ _ _ _ _ _ e eq
          exact ⟨a, fun ok hh D => .step _ _ _ _ _ _ _ _ (step_leaf_ret (M := ⟨denote tb, p, w⟩) _ _ _ _ (.ok f) k h g l c q kp) (b ok hh D)⟩
        | gen g k l c q =>
          obtain ⟨a, b⟩ := IH _ _ _ _ _ _ _ _ _ _ _ _ _ _ e eq
          refine ⟨a, fun ok hh D => .step _ _ _ _ _ _ _ _ ?_ (b ok hh D)⟩
          rw [← gset]
          exact step_leaf_gen (M := ⟨denote tb, p, w⟩) _ _ _ _ (.ok f) g k l c q
    | again c =>
      cases q : c.quiet with
      | false => simp only [stepO, q] at e; cases e
      | true =>
        simp only [stepO, q] at e
        cases ops with
        | nil =>
          obtain ⟨a, b⟩ := IH _ _ _ _ _ _ _ _ _ _ _ _ _ _ e eq
          exact ⟨a, fun ok hh D => .step _ _ _ _ _ _ _ _ (step_again (M := ⟨denote tb, p, w⟩) _ _ _ _ c q) (b ok hh D)⟩
        | cons op ops =>
          cases op with
          | k n =>
            obtain ⟨a, b⟩ := IH _ _ _ _ _ _ _ _ _ _ _ _ _ _ e eq
            exact ⟨a, fun ok hh D => .step _ _ _ _ _ _ _ _ (step_again (M := ⟨denote tb, p, w⟩) _ _ _ _ c q) (b ok hh D)⟩
          | s i =>
            obtain ⟨a, b⟩ := IH _ _ _ _ _ _ _ _ _ _ _ _ _ _ e eq
            exact ⟨a, fun ok hh D => .step _ _ _ _ _ _ _ _ (step_again (M := ⟨denote tb, p, w⟩) _ _ _ _ c q) (b ok hh D)⟩
          | u S =>
            obtain ⟨a, b⟩ := IH _ _ _ _ _ _ _ _ _ _ _ _ _ _ e eq
            exact ⟨a, fun ok hh D => .step _ _ _ _ _ _ _ _ (step_again (M := ⟨denote tb, p, w⟩) _ _ _ _ c q) (b ok hh D)⟩
          | m M =>
            obtain ⟨a, b⟩ := IH _ _ _ _ _ _ _ _ _ _ _ _ _ _ e eq
            exact ⟨a, fun ok hh D => .step _ _ _ _ _ _ _ _ (step_again (M := ⟨denote tb, p, w⟩) _ _ _ _ c q) (b ok hh D)⟩
          | q M =>
            obtain ⟨a, b⟩ := IH _ _ _ _ _ _ _ _ _ _ _ _ _ _ e eq
            exact ⟨a, fun ok hh D => .step _ _ _ _ _ _ _ _ (step_again (M := ⟨denote tb, p, w⟩) _ _ _ _ c q) (b ok hh D)⟩
          | a S =>
            cases st with
            | nil => cases e
            | cons fr st =>
              cases fr with
              | gen g k l c' q' => cases e
              | ret k h g l c' q' kp =>
                obtain ⟨x, y⟩ := useS_ok tb p w K h₀ free d os bot hK hb IH _ e eq
                exact ⟨x, fun ok hh D => .step _ _ _ _ _ _ _ _ (step_again (M := ⟨denote tb, p, w⟩) _ _ _ _ c q) (y ok.2 (ok.1 c sz toks) g l kp pos hh D)⟩
  | raise x =>
    cases st with
    | nil => cases e
    | cons fr st =>
      cases fr with
      | ret k h g l c q kp =>
        obtain ⟨a, b⟩ := IH _ _ _ _ _ _ _ _ _ _ _ _ _ _ e eq
        exact ⟨a, fun ok hh D => .step _ _ _ _ _ _ _ _ (step_leaf_ret (M := ⟨denote tb, p, w⟩) _ _ _ _ (.error x) k h g l c q kp) (b ok hh D)⟩
      | gen g k l c q =>
        obtain ⟨a, b⟩ := IH _ _ _ _ _ _ _ _ _ _ _ _ _ _ e eq
        refine ⟨a, fun ok hh D => .step _ _ _ _ _ _ _ _ ?_ (b ok hh D)⟩
        rw [← gset]
        exact step_leaf_gen (M := ⟨denote tb, p, w⟩) _ _ _ _ (.error x) g k l c q
  | rule tag k => obtain ⟨a, b⟩ := IH _ _ _ _ _ _ _ _ _ _ _ _ _ _ e eq; exact ⟨a, fun ok hh D => .step _ _ _ _ _ _ _ _ (step_rule (M := ⟨denote tb, p, w⟩) ..) (b ok hh D)⟩
  | «at» q k => obtain ⟨a, b⟩ := IH _ _ _ _ _ _ _ _ _ _ _ _ _ _ e eq; exact ⟨a, fun ok hh D => .step _ _ _ _ _ _ _ _ (step_at (M := ⟨denote tb, p, w⟩) ..) (b ok hh D)⟩
  | point l k => obtain ⟨a, b⟩ := IH _ _ _ _ _ _ _ _ _ _ _ _ _ _ e eq; exact ⟨a, fun ok hh D => .step _ _ _ _ _ _ _ _ (step_point (M := ⟨denote tb, p, w⟩) ..) (b ok hh D)⟩
  | ask k => obtain ⟨a, b⟩ := IH _ _ _ _ _ _ _ _ _ _ _ _ _ _ e eq; exact ⟨a, fun ok hh D => .step _ _ _ _ _ _ _ _ (step_ask (M := ⟨denote tb, p, w⟩) ..) (b ok hh D)⟩
  | fresh k => obtain ⟨a, b⟩ := IH _ _ _ _ _ _ _ _ _ _ _ _ _ _ e eq; exact ⟨a, fun ok hh D => .step _ _ _ _ _ _ _ _ (step_fresh (M := ⟨denote tb, p, w⟩) ..) (b ok hh D)⟩
  | thread k => obtain ⟨a, b⟩ := IH _ _ _ _ _ _ _ _ _ _ _ _ _ _ e eq; exact ⟨a, fun ok hh D => .step _ _ _ _ _ _ _ _ (step_thread (M := ⟨denote tb, p, w⟩) ..) (b ok hh D)⟩
  | stack k =>
    cases ops with
    | nil =>
      obtain ⟨a, b⟩ := IH _ _ _ _ _ _ _ _ _ _ _ _ _ _ e eq
      refine ⟨a, fun ok hh D => .step _ _ _ _ _ _ _ _ (step_stack (M := ⟨denote tb, p, w⟩) ..) ?_⟩
      rw [List.map_append]
      exact b ok hh D
    | cons op ops =>
      cases op with
      | k n =>
        obtain ⟨a, b⟩ := IH _ _ _ _ _ _ _ _ _ _ _ _ _ _ e eq
        refine ⟨a, fun ok hh D => .step _ _ _ _ _ _ _ _ (step_stack (M := ⟨denote tb, p, w⟩) ..) ?_⟩
        rw [List.map_append]
        exact b ok hh D
      | s i =>
        obtain ⟨a, b⟩ := IH _ _ _ _ _ _ _ _ _ _ _ _ _ _ e eq
        refine ⟨a, fun ok hh D => .step _ _ _ _ _ _ _ _ (step_stack (M := ⟨denote tb, p, w⟩) ..) ?_⟩
        rw [List.map_append]
        exact b ok hh D
      | u S =>
        obtain ⟨a, b⟩ := IH _ _ _ _ _ _ _ _ _ _ _ _ _ _ e eq
        refine ⟨a, fun ok hh D => .step _ _ _ _ _ _ _ _ (step_stack (M := ⟨denote tb, p, w⟩) ..) ?_⟩
        rw [List.map_append]
        exact b ok hh D
      | a S =>
        obtain ⟨a, b⟩ := IH _ _ _ _ _ _ _ _ _ _ _ _ _ _ e eq
        refine ⟨a, fun ok hh D => .step _ _ _ _ _ _ _ _ (step_stack (M := ⟨denote tb, p, w⟩) ..) ?_⟩
        rw [List.map_append]
        exact b ok hh D
      | m M =>
        obtain ⟨a, b⟩ := IH _ _ _ _ _ _ _ _ _ _ _ _ _ _ e eq
        refine ⟨a, fun ok hh D => .step _ _ _ _ _ _ _ _ (step_stack (M := ⟨denote tb, p, w⟩) ..) ?_⟩
        rw [List.map_append]
        exact b ok hh D
      | q M =>
        obtain ⟨x, y⟩ := useM_ok tb p w K h₀ free d os bot hK hb IH _ e eq
        refine ⟨x, fun ok hh D => .step _ _ _ _ _ _ _ _ (step_stack (M := ⟨denote tb, p, w⟩) ..) ?_⟩
        rw [List.map_append]
        exact y ok.2 (ok.1 _ sz toks) hh D
  | handled own k =>
    obtain ⟨a, b⟩ := IH _ _ _ _ _ _ _ _ _ _ _ _ _ _ e eq
    refine ⟨a, fun ok hh D => .step _ _ _ _ _ _ _ _ (step_handled (M := ⟨denote tb, p, w⟩) ..) ?_⟩
    have := b ok hh D
    cases own with
    | true =>
      rw [show topHandled (if true = true then ownFrames (st ++ bot) else st ++ bot) = topHandled (ownFrames st) from topOwn_over st hb]
      exact this
    | false =>
      rw [show topHandled (if false = true then ownFrames (st ++ bot) else st ++ bot) = topHandled st from topHandled_over st hb]
      exact this
  | alloc o k =>
    cases hf : o.isFreed with
    | true => simp only [stepO, hf] at e; cases e
    | false =>
      cases hg : (T.ins m (sz, o)).get m with
      | none => simp only [stepO, hf, hg] at e; cases e
      | some y =>
        simp only [stepO, hf, hg] at e
        obtain ⟨a, b⟩ := IH _ _ _ _ _ _ _ _ _ _ _ _ _ _ e eq
        refine ⟨a, fun ok hh D => ?_⟩
        refine .step _ _ _ _ _ _ _ _ (step_alloc (M := ⟨denote tb, p, w⟩) ..) ?_
        rw [show hh.objs.size = sz from D.size]
        exact b ok _ (D.alloc hf (by rw [hg]; rfl))
  | load a q k =>
    cases ops with
    | nil => cases e
    | cons op ops =>
      cases op with
      | k n =>
        cases hk : K a with
        | none => simp only [stepO, hk] at e; cases e
        | some o =>
          simp only [stepO, hk] at e
          obtain ⟨x, y⟩ := IH _ _ _ _ _ _ _ _ _ _ _ _ _ _ e eq
          exact ⟨x, fun ok hh D => .step _ _ _ _ _ _ _ _ (step_load (M := ⟨denote tb, p, w⟩) _ _ _ _ q k (D.keep a o (hK a o hk).1 (hK a o hk).2)) (y (opsK ok) hh D)⟩
      | s i =>
        cases hi : T.get i with
        | none => simp only [stepO, hi] at e; cases e
        | some bo =>
          obtain ⟨b, o⟩ := bo
          simp only [stepO, hi] at e
          obtain ⟨x, y⟩ := IH _ _ _ _ _ _ _ _ _ _ _ _ _ _ e eq
          simp only [List.cons.injEq, SideV.n.injEq] at x
          obtain ⟨rfl, rfl⟩ := x
          exact ⟨rfl, fun ok hh D => .step _ _ _ _ _ _ _ _ (step_load (M := ⟨denote tb, p, w⟩) _ _ _ _ q k (D.slot i a o hi).2) (y ok hh D)⟩
      | u S => cases e
      | a S => cases e
      | m M =>
        obtain ⟨x, y⟩ := useM_ok tb p w K h₀ free d os bot hK hb IH _ e eq
        exact ⟨x, fun ok hh D => y ok.2 (ok.1 sz toks) hh D⟩
      | q M => cases e
  | loadIfAlive a k =>
    cases ops with
    | nil => cases e
    | cons op ops =>
      cases op with
      | k n =>
        cases hk : K a with
        | none => simp only [stepO, hk] at e; cases e
        | some o =>
          simp only [stepO, hk] at e
          obtain ⟨x, y⟩ := IH _ _ _ _ _ _ _ _ _ _ _ _ _ _ e eq
          refine ⟨x, fun ok hh D => .step _ _ _ _ _ _ _ _ (step_loadIfAlive (M := ⟨denote tb, p, w⟩) ..) ?_⟩
          rw [show (Shared.heap ⟨hh, ⟨gens⟩, d, toks, os⟩).get? a = some o from D.keep a o (hK a o hk).1 (hK a o hk).2]
          exact y (opsK ok) hh D
      | s i =>
        cases hi : T.get i with
        | none => simp only [stepO, hi] at e; cases e
        | some bo =>
          obtain ⟨b, o⟩ := bo
          simp only [stepO, hi] at e
          obtain ⟨x, y⟩ := IH _ _ _ _ _ _ _ _ _ _ _ _ _ _ e eq
          simp only [List.cons.injEq, SideV.n.injEq] at x
          obtain ⟨rfl, rfl⟩ := x
          refine ⟨rfl, fun ok hh D => .step _ _ _ _ _ _ _ _ (step_loadIfAlive (M := ⟨denote tb, p, w⟩) ..) ?_⟩
          rw [show (Shared.heap ⟨hh, ⟨gens⟩, d, toks, os⟩).get? a = some o from (D.slot i a o hi).2]
          exact y ok hh D
      | u S => cases e
      | a S => cases e
      | m M => cases e
      | q M => cases e
  | update a q f k =>
    cases ops with
    | nil => cases e
    | cons op ops =>
      cases op with
      | k n => cases e
      | s i =>
        cases hi : T.get i with
        | none => simp only [stepO, hi] at e; cases e
        | some bo =>
          obtain ⟨b, o⟩ := bo
          cases hf : (f o).isFreed with
          | true => simp only [stepO, hi, hf] at e; cases e
          | false =>
            simp only [stepO, hi, hf] at e
            obtain ⟨x, y⟩ := IH _ _ _ _ _ _ _ _ _ _ _ _ _ _ e eq
            simp only [List.cons.injEq, SideV.n.injEq] at x
            obtain ⟨rfl, rfl⟩ := x
            exact ⟨rfl, fun ok hh D => .step _ _ _ _ _ _ _ _ (step_update (M := ⟨denote tb, p, w⟩) _ _ _ _ q f k (by rw [show (Shared.heap ⟨hh, ⟨gens⟩, d, toks, os⟩).get? a = some o from (D.slot i a o hi).2]; rfl)) (y ok _ (D.update hi hf))⟩
      | u S => cases e
      | a S => cases e
      | m M => cases e
      | q M => cases e
  | call c hd g l k =>
    cases ops with
    | nil => cases e
    | cons op ops =>
      cases op with
      | k n =>
        obtain ⟨x, y⟩ := IH _ _ _ _ _ _ _ _ _ _ _ _ _ _ e eq
        exact ⟨x, fun ok hh D => .step _ _ _ _ _ _ _ _ (step_call (M := ⟨denote tb, p, w⟩) ..) (y (opsK ok) hh D)⟩
      | s i => cases e
      | u S =>
        obtain ⟨x, y⟩ := useS_ok tb p w K h₀ free d os bot hK hb IH _ e eq
        exact ⟨x, fun ok hh D => .step _ _ _ _ _ _ _ _ (step_call (M := ⟨denote tb, p, w⟩) ..) (y ok.2 (ok.1 c sz toks) g l [] pos hh D)⟩
      | a S => cases e
      | m M => cases e
      | q M => cases e
  | newGen c k =>
    obtain ⟨a, b⟩ := IH _ _ _ _ _ _ _ _ _ _ _ _ _ _ e eq
    refine ⟨a, fun ok hh D => .step _ _ _ _ _ _ _ _ (by rw [← gpush]; exact step_newGen (M := ⟨denote tb, p, w⟩) ..) (b ok hh D)⟩
  | genState g k =>
    cases hg : gens[g]? with
    | none => simp only [stepO, hg] at e; cases e
    | some x =>
      simp only [stepO, hg] at e
      obtain ⟨a, b⟩ := IH _ _ _ _ _ _ _ _ _ _ _ _ _ _ e eq
      exact ⟨a, fun ok hh D => .step _ _ _ _ _ _ _ _ (step_genState (M := ⟨denote tb, p, w⟩) _ _ _ _ k ((gget gens g).trans hg)) (b ok hh D)⟩
  | resume g r l k =>
    cases hg : gens[g]? with
    | none => simp only [stepO, hg] at e; cases e
    | some x =>
      have hg' : (⟨gens⟩ : Array GenState)[g]? = some x := (gget gens g).trans hg
      cases x with
      | fresh c =>
        cases r with
        | throw v => simp only [stepO, hg] at e; cases e
        | send v =>
          cases v with
          | none =>
            simp only [stepO, hg] at e
            obtain ⟨a, b⟩ := IH _ _ _ _ _ _ _ _ _ _ _ _ _ _ e eq
            exact ⟨a, fun ok hh D => .step _ _ _ _ _ _ _ _ (by rw [← gset]; exact step_resume_fresh (M := ⟨denote tb, p, w⟩) _ _ _ _ l k hg') (b ok hh D)⟩
          | _ => simp only [stepO, hg] at e; cases e
      | suspended kk lv c q fs cl =>
        simp only [stepO, hg] at e
        obtain ⟨a, b⟩ := IH _ _ _ _ _ _ _ _ _ _ _ _ _ _ e eq
        refine ⟨a, fun ok hh D => .step _ _ _ _ _ _ _ _ (by rw [← gset]; exact step_resume_suspended (M := ⟨denote tb, p, w⟩) ⟨hh, ⟨gens⟩, d, toks, os⟩ _ _ (st ++ bot) r l k hg') ?_⟩
        have := b ok hh D
        rw [List.append_assoc] at this
        exact this
      | running => simp only [stepO, hg] at e; cases e
      | finished => simp only [stepO, hg] at e; cases e
  | «yield» v gd l k =>
    cases hs : splitAtGen st with
    | none => simp only [stepO, hs] at e; cases e
    | some x =>
      obtain ⟨fs, ⟨g, kk, c, q⟩, rest⟩ := x
      cases hq : (End.susp v gd l k code pos fs).quiet with
      | false => simp only [stepO, hs, hq] at e; cases e
      | true =>
        simp only [stepO, hs, hq] at e
        obtain ⟨a, b⟩ := IH _ _ _ _ _ _ _ _ _ _ _ _ _ _ e eq
        exact ⟨a, fun ok hh D => .step _ _ _ _ _ _ _ _ (by rw [← gset]; exact step_yield (M := ⟨denote tb, p, w⟩) _ _ _ _ v gd l k (splitAtGen_append_some bot hs) hq) (b ok hh D)⟩
  | unsupported | finish | register | choose | os | fork | await => cases e

theorem run_ok : ∀ n, RunOk tb p w K h₀ free d os bot (run tb p w K (bot.map Frame.where_) n)
  | 0 => fun ops T m sz gens toks F cur code pos st L R out e eq => by
    cases e
    exact ⟨eq, fun _ h D => ⟨h, .refl _ _, D⟩⟩
  | n + 1 => stepO_ok tb p w K h₀ free d os bot hK hb (run_ok n)
end
end Mine
namespace Mine
open PySem PySem.W
noncomputable def runT (p : Program) (w : World) (K : Nat → Option Obj) (W : List (Code × Pos)) := run treeTable p w K W
noncomputable def denT := denote treeTable
/-- a world, its two rows told apart -/
noncomputable def wb (b c : Bool) (w : World) : World := (w.withFollow "special-get-raises" b).withFollow "comprehension-iter-twice" c
theorem wb_self (w : World) : ∃ b c, wb b c w = w := by
  refine ⟨w.params.followText "special-get-raises", w.params.followText "comprehension-iter-twice", ?_⟩
  unfold wb
  rw [World.withFollow_self, World.withFollow_self]
end Mine
lay_quick Mine.runT
lay_quick Mine.denT
lay_quick Mine.wb
namespace Mine
open PySem PySem.W

noncomputable abbrev tR := PySem.W.Fast.tw1274714115002603182
noncomputable abbrev tD := PySem.W.Fast.tw15477605792463102439
noncomputable abbrev tW := PySem.W.Fast.tw2171096225454540129
theorem tR_eq : tR = runT := PySem.W.Fast.te1274714115002603182.symm
theorem tD_eq : tD = denote treeTable := PySem.W.Fast.te15477605792463102439.symm
theorem tW_eq : tW = wb := PySem.W.Fast.te2171096225454540129.symm
noncomputable abbrev mdl (p : Program) (w : World) : Model := ⟨denote treeTable, p, w⟩

/-- the memory that a list of objects makes -/
noncomputable def iniGo : List (Nat × Obj) → Mem → Nat → Mem
  | [], T, _ => T
  | q :: r, T, m => iniGo r (T.ins m q) (m + 1)
noncomputable def iniOk : List (Nat × Obj) → Mem → Nat → Bool
  | [], _, _ => true
  | q :: r, T, m => match (T.ins m q).get m with
    | some _ => iniOk r (T.ins m q) (m + 1)
    | none => false
noncomputable def mkT (l : List (Nat × Obj)) : Mem := iniGo l .nil 0

theorem iniGo_get : ∀ {l : List (Nat × Obj)} {T : Mem} {m i : Nat} {q : Nat × Obj}, iniOk l T m = true → (iniGo l T m).get i = some q → T.get i = some q ∨ (m ≤ i ∧ l[i - m]? = some q)
  | [], _, _, _, _, _, e => .inl e
  | x :: r, T, m, i, q, ok, e => by
    unfold iniOk at ok
    have hg : ((T.ins m x).get m).isSome = true := by
      cases z : (T.ins m x).get m with
      | none => rw [z] at ok; cases ok
      | some _ => rfl
    have ok' : iniOk r (T.ins m x) (m + 1) = true := by
      cases z : (T.ins m x).get m with
      | none => rw [z] at ok; cases ok
      | some _ => rw [z] at ok; exact ok
    rcases iniGo_get (l := r) ok' e with z | ⟨z1, z2⟩
    · rw [Tr.get_ins _ T m hg] at z
      by_cases hi : i = m
      · rw [if_pos hi] at z
        cases z
        exact .inr ⟨Nat.le_of_eq hi.symm, by rw [hi, Nat.sub_self]; rfl⟩
      · rw [if_neg hi] at z
        exact .inl z
    · refine .inr ⟨Nat.le_of_succ_le z1, ?_⟩
      have : i - m = (i - (m + 1)) + 1 := by omega
      rw [this]; exact z2

theorem Rep.start {h : Heap} {ini : List (Nat × Obj)} (ok : iniOk ini .nil 0 = true) (hh : ∀ q ∈ ini, h.get? q.1 = some q.2) (nd : (ini.map (·.1)).Nodup) {F : List (List (Nat × Obj))}
    (hF : ∀ l ∈ F, ∀ q ∈ l, h.get? q.1 = some q.2 ∧ q.1 ∉ ini.map (·.1)) : Rep h (ini.map (·.1)) h (mkT ini) ini.length h.objs.size F := by
  have key : ∀ i q, (mkT ini).get i = some q → ini[i]? = some q := fun i q e => by
    rcases iniGo_get ok e with z | ⟨_, z⟩
    · cases z
    · exact z
  refine ⟨rfl, fun i a o e => ?_, fun i j a o o' e1 e2 => ?_, fun b o e _ => e, fun i a o e => .inl ?_, Nat.le_refl _, fun l hl q hq => ⟨(hF l hl q hq).1, fun i o e => ?_⟩⟩
  · have := key i _ e
    exact ⟨(List.getElem?_eq_some_iff.mp this).1, hh _ (List.mem_of_getElem? this)⟩
  · have h1 := key i _ e1
    have h2 := key j _ e2
    obtain ⟨l1, g1⟩ := List.getElem?_eq_some_iff.mp h1
    obtain ⟨l2, g2⟩ := List.getElem?_eq_some_iff.mp h2
    rcases Nat.lt_trichotomy i j with z | z | z
    · have x := List.pairwise_iff_getElem.mp nd i j (by simpa using l1) (by simpa using l2) z
      rw [List.getElem_map, List.getElem_map, g1, g2] at x
      exact absurd rfl x
    · exact z
    · have x := List.pairwise_iff_getElem.mp nd j i (by simpa using l2) (by simpa using l1) z
      rw [List.getElem_map, List.getElem_map, g1, g2] at x
      exact absurd rfl x
  · exact List.mem_map.mpr ⟨_, List.mem_of_getElem? (key i _ e), rfl⟩
  · exact (hF l hl q hq).2 (List.mem_map.mpr ⟨_, List.mem_of_getElem? (key i _ e), rfl⟩)

/-- the equation that the kernel checks -/
noncomputable def chk {α : Type} (r : Option Out) (P : Out → α) : Bool × Option (List SideV × α) := (r.isSome, r.map fun o => (o.L, P o))
noncomputable def chk' {α : Type} (r : Option Out) (v : α) : Bool × Option (List SideV × α) := (true, r.map fun o => (o.R, v))
theorem chk_out {α : Type} {r : Option Out} {P : Out → α} {v : α} (e : chk r P = chk' r v) : ∃ o, r = some o ∧ o.L = o.R ∧ P o = v := by
  unfold chk chk' at e
  cases r with
  | none => cases (Prod.mk.inj e).1
  | some o =>
    obtain ⟨_, e⟩ := Prod.mk.inj e
    obtain ⟨e1, e2⟩ := Prod.mk.inj (Option.some.inj e)
    exact ⟨o, rfl, e1, e2⟩

/-- one run: what comes of it -/
theorem go {p : Program} {w : World} {K : Nat → Option Obj} {bot : List Frame} {W : List (Code × Pos)} {ini : List (Nat × Obj)} {F : List (List (Nat × Obj))} {n : Nat} {ops : List Op} {m sz : Nat} {gens : List GenState} {toks : Nat} {cur : Sem Fin} {code : Code} {pos : Pos} {st : List Frame}
    {α : Type} {P : Out → α} {v : α} (hW : bot.map Frame.where_ = W) (hb : topHandled bot = none) {h : Heap} {d : Drawn} {os : OsState}
    (hK : ∀ a o, K a = some o → h.get? a = some o) (hK' : ∀ q ∈ ini, K q.1 = none) (hh : ∀ q ∈ ini, h.get? q.1 = some q.2) (nd : (ini.map (·.1)).Nodup) (hF : ∀ l ∈ F, ∀ q ∈ l, h.get? q.1 = some q.2 ∧ q.1 ∉ ini.map (·.1))
    (hs : h.objs.size = sz) (hm : m = ini.length) (hi : iniOk ini .nil 0 = true) (ok : OpsOk (mdl p w) K ops)
    (e : chk (tR p w K W n ops (mkT ini) m sz gens toks F cur code pos st [] []) P = chk' (tR p w K W n ops (mkT ini) m sz gens toks F cur code pos st [] []) v) :
    ∃ out h', P out = v ∧ Comes (mdl p w) ⟨h, ⟨gens⟩, d, toks, os⟩ ⟨cur, code, pos, st ++ bot⟩ ⟨h', ⟨out.gens⟩, d, out.toks, os⟩ ⟨out.cur, out.code, out.pos, out.st ++ bot⟩ ∧ h'.objs.size = out.sz ∧
      (∀ i a o, out.T.get i = some (a, o) → h'.get? a = some o) ∧ (∀ l ∈ out.F, ∀ q ∈ l, h'.get? q.1 = some q.2) ∧ ∀ b o, h.get? b = some o → b ∉ ini.map (·.1) → h'.get? b = some o := by
  obtain ⟨out, e1, e2, e3⟩ := chk_out e
  subst hW hs hm
  rw [tR_eq] at e1
  have D := Rep.start (F := F) hi hh nd hF
  obtain ⟨_, y⟩ := run_ok treeTable p w K h (ini.map (·.1)) d os bot (fun a o q => ⟨hK a o q, fun z => by
    obtain ⟨x, hx, rfl⟩ := List.mem_map.mp z
    rw [hK' x hx] at q; cases q⟩) hb n _ _ _ _ _ _ _ _ _ _ _ _ _ out e1 e2
  obtain ⟨h', C, D'⟩ := y ok h D
  exact ⟨out, h', e3, C, D'.size, fun i a o q => (D'.slot i a o q).2, fun l hl q hq => (D'.fact l hl q hq).1, D'.keep⟩

/-- what a summary's run shows at its end -/
noncomputable def ends (n : Nat) (newi : List Nat) (o : Out) := (o.cur, o.code, o.pos, o.st, o.sz, o.toks, o.gens, o.F, (List.range n).map o.T.get, newi.map o.T.get)

theorem Summ.ofRun {p : Program} {w : World} {K : Nat → Option Obj} {S : Summ} {sz tok : Nat} (ini fin : List (Nat × Obj)) (newi : List Nat) (n : Nat) (ops : List Op) (N : Nat) (F : List (List (Nat × Obj)))
    (hini : S.pre.map (·.2) = ini) (hF : S.needs.map (·.2) = F) (hN : ini.length = N) (hfin : fin.map (·.1) = ini.map (·.1))
    (hpost : ∀ q ∈ S.post, (q.2.1, q.2.2) ∈ fin) (hsame : ∀ q ∈ fin, q ∈ ini ∨ ∃ r ∈ S.post, r.2.1 = q.1) (nd : (ini.map (·.1)).Nodup) (hK' : ∀ q ∈ ini, K q.1 = none) (hi : iniOk ini .nil 0 = true)
    (hFi : ∀ l ∈ F, ∀ q ∈ l, q.1 ∈ ini.map (·.1) → ∃ r ∈ S.post, r.2.1 = q.1)
    (hfa : ∀ l ∈ S.facts, ∀ q ∈ l, sz ≤ q.1 ∧ ∀ r ∈ S.new, q.1 ≠ sz + r.1)
    (ok : OpsOk (mdl p w) K ops)
    (e : ∀ (k : Result → Sem Fin) (g : Bool) (l : List Value) (code : Code) (pos pos' : Pos) (kp : List Value) (W : List (Code × Pos)) (gens : List GenState), S.shape ((code, pos) :: W) = true →
      chk (tR p w K W n ops (mkT ini) N sz gens tok F (tD S.code) S.code pos' [.ret k none g l code pos kp] [] []) (ends N newi) =
      chk' (tR p w K W n ops (mkT ini) N sz gens tok F (tD S.code) S.code pos' [.ret k none g l code pos kp] [] [])
        (k S.res, code, pos, [], addZ S.dsz sz + S.dl, tok + S.dtok, appG gens S.newg, S.facts ++ F, fin.map some, S.new.map fun q => some (sz + q.1, q.2))) : S.Valid (mdl p w) K sz tok := by
  intro s k g l code pos pos' kp st hK hpre hpo hne hne' hs ht hb hsh
  obtain ⟨h, ⟨gens⟩, d, toks, os⟩ := s
  replace ht : toks = tok := ht
  subst ht hini hF hN
  obtain ⟨out, h', e1, C, c1, c2, c3, c4⟩ := go (d := d) (os := os) (bot := st) rfl hb hK hK' (fun q hq => by
      obtain ⟨x, hx, rfl⟩ := List.mem_map.mp hq
      exact hpre x hx) nd (fun x hx q hq => by
      obtain ⟨y, hy, rfl⟩ := List.mem_map.mp hx
      refine ⟨hne y hy q hq, fun z => ?_⟩
      obtain ⟨r, hr, z⟩ := hFi _ hx q hq z
      exact hne' y hy q hq r hr z.symm) hs rfl hi ok (e k g l code pos pos' kp (st.map Frame.where_) gens hsh)
  simp only [ends, Prod.mk.injEq, appG_eq, addZ_eq] at e1
  obtain ⟨e1, e2, e3, e4, e5, e6, e7, e8, e9, e10⟩ := e1
  rw [tD_eq] at C
  rw [e1, e2, e3, e4, e6, e7] at C
  have hfinget : ∀ q ∈ fin, h'.get? q.1 = some q.2 := fun q hq => by
    have : some q ∈ fin.map some := List.mem_map.mpr ⟨q, hq, rfl⟩
    rw [← e9] at this
    obtain ⟨i, _, hi⟩ := List.mem_map.mp this
    exact c2 i q.1 q.2 hi
  have eg : (⟨gens⟩ : Array GenState) ++ ⟨S.newg⟩ = ⟨gens ++ S.newg⟩ := by simp
  refine ⟨h', ?_, c1.trans e5, fun q hq => hfinget _ (hpost q hq), fun q hq => ?_, fun x hx q hq => ⟨c3 x (by rw [e8]; exact List.mem_append_left _ hx) q hq, hfa x hx q hq⟩, fun b o hb' hn => ?_⟩
  · show Comes _ _ _ ⟨h', (⟨gens⟩ : Array GenState) ++ ⟨S.newg⟩, d, _, os⟩ _
    rw [eg]
    exact C
  · have : some (sz + q.1, q.2) ∈ S.new.map (fun q => some (sz + q.1, q.2)) := List.mem_map.mpr ⟨q, hq, rfl⟩
    rw [← e10] at this
    obtain ⟨i, _, hi⟩ := List.mem_map.mp this
    exact c2 i _ _ hi
  · by_cases hm : b ∈ (S.pre.map (·.2)).map (·.1)
    · rw [← hfin] at hm
      obtain ⟨q, hq, rfl⟩ := List.mem_map.mp hm
      rcases hsame q hq with z | ⟨r, hr, z⟩
      · obtain ⟨x, hx, rfl⟩ := List.mem_map.mp z
        have := hpre x hx
        rw [show (Shared.heap ⟨h, ⟨gens⟩, d, toks, os⟩).get? x.2.1 = h.get? x.2.1 from rfl] at this
        rw [show (Shared.heap ⟨h, ⟨gens⟩, d, toks, os⟩).get? x.2.1 = h.get? x.2.1 from rfl, this] at hb'
        cases hb'
        exact hfinget _ hq
      · exact absurd z (hn r hr)
    · exact c4 b o hb' hm

/-- what a turn's run shows at its end -/
noncomputable def turns (n : Nat) (o : Out) := (o.cur, o.code, o.st, o.sz, o.toks, o.gens, (List.range n).map o.T.get)
/-- one turn of a loop, and then the rest of it -/
theorem Summ.ofTurn {p : Program} {w : World} {K : Nat → Option Obj} {S : Summ} {sz tok : Nat} (pre' : List (Nat × Nat × Obj)) (dsz' : Option Nat) (dl' dtok' : Nat) (g1 g' : List GenState) (sz1 tok1 : Nat) (ini : List (Nat × Obj)) (n : Nat) (ops : List Op) (N : Nat)
    (hnew : S.new = []) (hfacts : S.facts = []) (hg : S.newg = g1 ++ g') (hini : S.pre.map (·.2) = ini) (hN : ini.length = N) (hfin : pre'.map (·.2.1) = ini.map (·.1))
    (hsame : ∀ q ∈ pre', q.2 ∈ ini ∨ ∃ r ∈ S.post, r.2.1 = q.2.1) (nd : (ini.map (·.1)).Nodup) (hK' : ∀ q ∈ ini, K q.1 = none) (hi : iniOk ini .nil 0 = true)
    (hne : S.needs = [])
    (hsz : S.dsz.getD 0 + sz + S.dl = dsz'.getD 0 + sz1 + dl') (htok : tok + S.dtok = tok1 + dtok')
    (ok : OpsOk (mdl p w) K ops)
    (e : ∀ (k : Result → Sem Fin) (g : Bool) (l : List Value) (code : Code) (pos pos' : Pos) (kp : List Value) (W : List (Code × Pos)) (gens : List GenState), S.shape ((code, pos) :: W) = true →
      chk (tR p w K W n ops (mkT ini) N sz gens tok [] (tD S.code) S.code pos' [.ret k none g l code pos kp] [] []) (turns N) =
      chk' (tR p w K W n ops (mkT ini) N sz gens tok [] (tD S.code) S.code pos' [.ret k none g l code pos kp] [] [])
        (tD S.code, S.code, [.ret k none g l code pos kp], sz1, tok1, appG gens g1, (pre'.map (·.2)).map some))
    (next : Summ.Valid (mdl p w) K { S with pre := pre', dsz := dsz', dl := dl', dtok := dtok', newg := g' } sz1 tok1) : S.Valid (mdl p w) K sz tok := by
  intro s k g l code pos pos' kp st hK hpre hpo hne1 hne' hs ht hb hsh
  obtain ⟨h, ⟨gens⟩, d, toks, os⟩ := s
  replace ht : toks = tok := ht
  subst ht hini hN
  obtain ⟨out, h1, e1, C, c1, c2, c3, c4⟩ := go (d := d) (os := os) (bot := st) rfl hb hK hK' (fun q hq => by
      obtain ⟨x, hx, rfl⟩ := List.mem_map.mp hq
      exact hpre x hx) nd (fun x hx => absurd hx (List.not_mem_nil)) hs rfl hi ok (e k g l code pos pos' kp (st.map Frame.where_) gens hsh)
  simp only [turns, Prod.mk.injEq, appG_eq] at e1
  obtain ⟨e1, e2, e3, e4, e5, e6, e7⟩ := e1
  rw [tD_eq] at C e1
  rw [e1, e2, e3, e5, e6] at C
  have hfinget : ∀ q ∈ pre', h1.get? q.2.1 = some q.2.2 := fun q hq => by
    have : some q.2 ∈ (pre'.map (·.2)).map some := List.mem_map.mpr ⟨q.2, List.mem_map.mpr ⟨q, hq, rfl⟩, rfl⟩
    rw [← e7] at this
    obtain ⟨i, _, hi⟩ := List.mem_map.mp this
    exact c2 i q.2.1 q.2.2 hi
  have hin : ∀ b, b ∈ (S.pre.map (·.2)).map (·.1) → ∃ q ∈ pre', q.2.1 = b := fun b hm => by
    rw [← hfin] at hm
    obtain ⟨q, hq, rfl⟩ := List.mem_map.mp hm
    exact ⟨q, hq, rfl⟩
  have keep : ∀ b o, h.get? b = some o → (∀ q ∈ S.post, q.2.1 ≠ b) → h1.get? b = some o := fun b o hb' hn => by
    by_cases hm : b ∈ (S.pre.map (·.2)).map (·.1)
    · obtain ⟨q, hq, rfl⟩ := hin b hm
      rcases hsame q hq with z | ⟨r, hr, z⟩
      · obtain ⟨x, hx, z⟩ := List.mem_map.mp z
        have := hpre x hx
        rw [show (Shared.heap ⟨h, ⟨gens⟩, d, toks, os⟩).get? x.2.1 = h.get? x.2.1 from rfl, z, hb'] at this
        rw [hfinget q hq, this]
      · exact absurd z (hn r hr)
    · exact c4 b o hb' hm
  obtain ⟨h', C2, w1, w2, w3, w4, w5⟩ := next ⟨h1, ⟨gens ++ g1⟩, d, tok1, os⟩ k g l code pos out.pos kp st (fun a o q => by
      by_cases hm : a ∈ (S.pre.map (·.2)).map (·.1)
      · obtain ⟨x, hx, rfl⟩ := List.mem_map.mp hm
        rw [hK' x hx] at q; cases q
      · exact c4 a o (hK a o q) hm) hfinget (fun q hq => by
      obtain ⟨o, ho⟩ := hpo q hq
      by_cases hm : q.2.1 ∈ (S.pre.map (·.2)).map (·.1)
      · obtain ⟨x, hx, z⟩ := hin _ hm
        exact ⟨x.2.2, z ▸ hfinget x hx⟩
      · exact ⟨o, c4 _ o ho hm⟩) (fun n hn => by rw [hne] at hn; cases hn) (fun n hn => by rw [hne] at hn; cases hn) (c1.trans e4) rfl hb hsh
  refine ⟨h', ?_, w1.trans hsz.symm, w2, (by rw [hnew]; exact fun _ z => nomatch z), (by rw [hfacts]; exact fun _ z => nomatch z), fun b o hb' hn => w5 b o (keep b o hb' hn) hn⟩
  have C3 := C.trans C2
  rw [htok, hg]
  have eg : (⟨gens ++ g1⟩ : Array GenState) ++ ⟨g'⟩ = (⟨gens⟩ : Array GenState) ++ ⟨g1 ++ g'⟩ := by simp
  rw [← eg]
  exact C3
end Mine
namespace Mine
open PySem PySem.W
/-- a summary at a told size and token -/
noncomputable def Summ.at (S : Summ) (sz tok : Nat) : Summ := { S with atS := some sz, atT := some tok }
theorem Summ.at_ok {M : Model} {K : Nat → Option Obj} {S : Summ} {sz tok : Nat} (h : S.Valid M K sz tok) (sz' tok' : Nat) (h1 : ∀ a, (S.at sz tok).atS = some a → sz' = a) (h2 : ∀ a, (S.at sz tok).atT = some a → tok' = a) : (S.at sz tok).Valid M K sz' tok' := by
  have e1 : sz' = sz := h1 sz rfl
  have e2 : tok' = tok := h2 tok rfl
  subst e1 e2
  exact h
end Mine
namespace Mine
open PySem PySem.W

theorem comes_any {p : Program} {w : World} {c code : Code} {s s₁ : Shared} {r : Result} {k : Result → Sem Fin} {g : Bool} {l kp : List Value} {pos pos' : Pos} {st : List Frame} (hb : topHandled st = none)
    (h : ∀ A : Around, A.handled = none → wpAny (model p w) A (denote table c) (fun fin s' => ∃ f, fin = .done f ∧ r = .ok f ∧ s' = s₁) (fun e s' => r = .error e ∧ s' = s₁) s) :
    Comes (mdl p w) s ⟨(mdl p w).den c, c, pos', .ret k none g l code pos kp :: st⟩ s₁ ⟨k r, code, pos, st⟩ := by
  have hm : mdl p w = model p w := by unfold mdl model; rw [table_eq_tree]
  rw [hm]
  let Γ := Ctx.of c (.ret k none g l code pos kp :: st)
  have hh : Γ.handled = none := by
    show topHandled (.ret k none g l code pos kp :: st) = none
    rw [topHandled_ret]; exact hb
  obtain ⟨s', p', leaf, C, hl⟩ := wp_comes (Γ := Γ) (Ctx.fits_of c _) (denote table c) _ _ pos' s
    (h ⟨none, frameCount Γ.below + Γ.code.weight, none, none, Γ.units⟩ rfl Γ pos' ⟨hh, Nat.le_refl _, (fun _ z => by cases z), (fun _ z => by cases z), Nat.le_refl _⟩)
  rcases hl with ⟨a, rfl, f, rfl, rfl, rfl⟩ | ⟨e, rfl, rfl, rfl⟩
  · exact C.trans (.step (step_leaf_ret (M := model p w) _ _ _ _ (.ok f) k none g l code pos kp) (.refl _ _))
  · exact C.trans (.step (step_leaf_ret (M := model p w) _ _ _ _ (.error e) k none g l code pos kp) (.refl _ _))

theorem comes_tree {p : Program} {w : World} {c code : Code} {s s₁ : Shared} {r : Result} {k : Result → Sem Fin} {g : Bool} {l kp : List Value} {pos pos' : Pos} {st : List Frame} {t : Sem Fin} (hb : topHandled st = none)
    (h : ∀ A : Around, A.handled = none → wpAny (model p w) A t (fun fin s' => ∃ f, fin = .done f ∧ r = .ok f ∧ s' = s₁) (fun e s' => r = .error e ∧ s' = s₁) s) :
    Comes (mdl p w) s ⟨t, c, pos', .ret k none g l code pos kp :: st⟩ s₁ ⟨k r, code, pos, st⟩ := by
  have hm : mdl p w = model p w := by unfold mdl model; rw [table_eq_tree]
  rw [hm]
  let Γ := Ctx.of c (.ret k none g l code pos kp :: st)
  have hh : Γ.handled = none := by
    show topHandled (.ret k none g l code pos kp :: st) = none
    rw [topHandled_ret]; exact hb
  obtain ⟨s', p', leaf, C, hl⟩ := wp_comes (Γ := Γ) (Ctx.fits_of c _) t _ _ pos' s
    (h ⟨none, frameCount Γ.below + Γ.code.weight, none, none, Γ.units⟩ rfl Γ pos' ⟨hh, Nat.le_refl _, (fun _ z => by cases z), (fun _ z => by cases z), Nat.le_refl _⟩)
  rcases hl with ⟨a, rfl, f, rfl, rfl, rfl⟩ | ⟨e, rfl, rfl, rfl⟩
  · exact C.trans (.step (step_leaf_ret (M := model p w) _ _ _ _ (.ok f) k none g l code pos kp) (.refl _ _))
  · exact C.trans (.step (step_leaf_ret (M := model p w) _ _ _ _ (.error e) k none g l code pos kp) (.refl _ _))
/-- the middle of a tree -/
theorem comes_mid {p : Program} {w : World} {α : Type} {c : Code} {s s₁ : Shared} {a : α} {m : Sem α} {f : α → Sem Fin} {pos' : Pos} {st : List Frame} (hb : topHandled st = none)
    (h : ∀ A : Around, A.handled = none → wpAny (model p w) A m (fun x s' => x = a ∧ s' = s₁) (fun _ _ => False) s) :
    ∃ pos'', Comes (mdl p w) s ⟨m.bind f, c, pos', st⟩ s₁ ⟨f a, c, pos'', st⟩ := by
  have hm : mdl p w = model p w := by unfold mdl model; rw [table_eq_tree]
  rw [hm]
  let Γ := Ctx.of c st
  have hh : Γ.handled = none := hb
  obtain ⟨s', p', t', C, hl⟩ := wp_comes_bind (Γ := Γ) (Ctx.fits_of c _) f m _ _ pos' s
    (h ⟨none, frameCount Γ.below + Γ.code.weight, none, none, Γ.units⟩ rfl Γ pos' ⟨hh, Nat.le_refl _, (fun _ z => by cases z), (fun _ z => by cases z), Nat.le_refl _⟩)
  rcases hl with ⟨x, rfl, rfl, rfl⟩ | ⟨e, rfl, z⟩
  · exact ⟨p', C⟩
  · exact z.elim

/-- what a prefix's run shows -/
noncomputable def mids (n : Nat) (o : Out) := (o.cur, o.code, o.st, o.sz, o.toks, o.gens, (List.range n).map o.T.get)
/-- a summary from a run that changes nothing, and then the library's rules -/
theorem Summ.ofPre {p : Program} {w : World} {K : Nat → Option Obj} {S : Summ} {sz tok : Nat} (ini : List (Nat × Obj)) (X : Sem Fin) (n : Nat) (ops : List Op) (N : Nat)
    (hg : S.newg = []) (hfa : S.facts = []) (hne : S.needs = []) (hini : S.pre.map (·.2) = ini) (hN : ini.length = N) (nd : (ini.map (·.1)).Nodup) (hK' : ∀ q ∈ ini, K q.1 = none) (hi : iniOk ini .nil 0 = true)
    (ok : OpsOk (mdl p w) K ops)
    (e : ∀ (k : Result → Sem Fin) (g : Bool) (l : List Value) (code : Code) (pos pos' : Pos) (kp : List Value) (W : List (Code × Pos)) (gens : List GenState), S.shape ((code, pos) :: W) = true →
      chk (tR p w K W n ops (mkT ini) N sz gens tok [] (tD S.code) S.code pos' [.ret k none g l code pos kp] [] []) (mids N) =
      chk' (tR p w K W n ops (mkT ini) N sz gens tok [] (tD S.code) S.code pos' [.ret k none g l code pos kp] [] [])
        (X, S.code, [.ret k none g l code pos kp], sz, tok, gens, ini.map some))
    (H : ∀ s : Shared, (∀ q ∈ S.pre, s.heap.get? q.2.1 = some q.2.2) → s.heap.objs.size = sz → s.toks = tok → ∃ h' : Heap,
      (∀ A : Around, A.handled = none → wpAny (model p w) A X (fun fin s' => ∃ f, fin = .done f ∧ S.res = .ok f ∧ s' = { s with heap := h', toks := tok + S.dtok }) (fun e s' => S.res = .error e ∧ s' = { s with heap := h', toks := tok + S.dtok }) s) ∧
      h'.objs.size = S.dsz.getD 0 + sz + S.dl ∧ (∀ q ∈ S.post, h'.get? q.2.1 = some q.2.2) ∧ (∀ q ∈ S.new, h'.get? (sz + q.1) = some q.2) ∧
      ∀ b o, s.heap.get? b = some o → (∀ q ∈ S.post, q.2.1 ≠ b) → h'.get? b = some o) : S.Valid (mdl p w) K sz tok := by
  intro s k g l code pos pos' kp st hK hpre hpo hne1 hne' hs ht hb hsh
  obtain ⟨h, ⟨gens⟩, d, toks, os⟩ := s
  replace ht : toks = tok := ht
  subst ht hini hN
  obtain ⟨out, h1, e1, C, c1, c2, c3, c4⟩ := go (d := d) (os := os) (bot := st) rfl hb hK hK' (fun q hq => by
      obtain ⟨x, hx, rfl⟩ := List.mem_map.mp hq
      exact hpre x hx) nd (fun x hx => absurd hx (List.not_mem_nil)) hs rfl hi ok (e k g l code pos pos' kp (st.map Frame.where_) gens hsh)
  simp only [mids, Prod.mk.injEq] at e1
  obtain ⟨e1, e2, e3, e4, e5, e6, e7⟩ := e1
  rw [tD_eq] at C
  rw [e1, e2, e3, e5, e6] at C
  have hini : ∀ q ∈ S.pre, h1.get? q.2.1 = some q.2.2 := fun q hq => by
    have : some q.2 ∈ (S.pre.map (·.2)).map some := List.mem_map.mpr ⟨q.2, List.mem_map.mpr ⟨q, hq, rfl⟩, rfl⟩
    rw [← e7] at this
    obtain ⟨i, _, hi⟩ := List.mem_map.mp this
    exact c2 i q.2.1 q.2.2 hi
  have keep : ∀ b o, h.get? b = some o → h1.get? b = some o := fun b o hb' => by
    by_cases hm : b ∈ (S.pre.map (·.2)).map (·.1)
    · obtain ⟨x, hx, rfl⟩ := List.mem_map.mp hm
      obtain ⟨q, hq, rfl⟩ := List.mem_map.mp hx
      have := hpre q hq
      rw [show (Shared.heap ⟨h, ⟨gens⟩, d, toks, os⟩).get? q.2.1 = h.get? q.2.1 from rfl, hb'] at this
      cases this
      exact hini q hq
    · exact c4 b o hb' hm
  obtain ⟨h', w1, w2, w3, w4, w5⟩ := H ⟨h1, ⟨gens⟩, d, toks, os⟩ hini (c1.trans e4) rfl
  have C2 := comes_tree (c := S.code) (code := code) (k := k) (g := g) (l := l) (kp := kp) (pos := pos) (pos' := out.pos) hb w1
  refine ⟨h', ?_, w2, w3, w4, (by rw [hfa]; exact fun _ z => nomatch z), fun b o hb' hn => w5 b o (keep b o hb') hn⟩
  rw [hg]
  have C3 := C.trans C2
  simpa using C3

/-- a summary of a built-in's own code, from the library's rules -/
theorem Summ.ofAny {p : Program} {w : World} {K : Nat → Option Obj} {S : Summ} {sz tok : Nat} (hg : S.newg = []) (hfa : S.facts = [])
    (H : ∀ s : Shared, (∀ q ∈ S.pre, s.heap.get? q.2.1 = some q.2.2) → s.heap.objs.size = sz → s.toks = tok → ∃ h' : Heap,
      (∀ A : Around, A.handled = none → wpAny (model p w) A (denote table S.code) (fun fin s' => ∃ f, fin = .done f ∧ S.res = .ok f ∧ s' = { s with heap := h', toks := tok + S.dtok }) (fun e s' => S.res = .error e ∧ s' = { s with heap := h', toks := tok + S.dtok }) s) ∧
      h'.objs.size = S.dsz.getD 0 + sz + S.dl ∧ (∀ q ∈ S.post, h'.get? q.2.1 = some q.2.2) ∧ (∀ q ∈ S.new, h'.get? (sz + q.1) = some q.2) ∧
      ∀ b o, s.heap.get? b = some o → (∀ q ∈ S.post, q.2.1 ≠ b) → h'.get? b = some o) : S.Valid (mdl p w) K sz tok := by
  intro s k g l code pos pos' kp st hK hpre hpo hne hne' hs ht hb hsh
  obtain ⟨h', h1, h2, h3, h4, h5⟩ := H s hpre hs ht
  refine ⟨h', ?_, h2, h3, h4, (by rw [hfa]; exact fun _ z => nomatch z), h5⟩
  have := comes_any (code := code) (k := k) (g := g) (l := l) (kp := kp) (pos := pos) (pos' := pos') hb h1
  rw [hg]
  simpa using this

noncomputable def liObj (l n : Nat) : Obj := ⟨.type "list_iterator", none, .fields ⟨[.ref l, .int (n : Int) 0]⟩, #[]⟩
noncomputable def liEnd : Obj → Obj
  | ⟨c, d, .fields ⟨_ :: r⟩, s⟩ => ⟨c, d, .fields ⟨.none :: r⟩, s⟩
  | o => o
noncomputable def lsObj (xs : List Value) (ep : Nat) : Obj := ⟨.type "list", none, .seq ⟨xs⟩ ep, #[]⟩
noncomputable def tupObj (xs : List Value) : Obj := ⟨.type "tuple", none, .seq ⟨xs⟩ 0, #[]⟩
noncomputable def stopObj (t : Nat) : Obj := ⟨.type "StopIteration", none, .fields ⟨[.ref t, .none, .none, .none, .bool false, .none]⟩, #[]⟩
noncomputable def cNext (id : String) (it : Nat) : Code := .builtin id ⟨[.ref it], []⟩

/-- the next of a list's iterator: an item -/
noncomputable def sLiNext (i j it l n : Nat) (xs : List Value) (ep : Nat) (v : Value) : Summ :=
  { code := cNext "list_iterator.__next__" it, res := .ok (.ret v), pre := [(i, it, liObj l n), (j, l, lsObj xs ep)], post := [(i, it, liObj l (n + 1))] }
/-- the next of a list's iterator: the end -/
noncomputable def sLiEnd (i j it l n : Nat) (xs : List Value) (ep sz : Nat) : Summ :=
  { code := cNext "list_iterator.__next__" it, res := .error (.ref (sz + 1)), pre := [(i, it, liObj l n), (j, l, lsObj xs ep)], post := [(i, it, liEnd (liObj l n))], new := [(0, tupObj []), (1, stopObj sz)], dl := 2 }

variable {p : Program} {w : World} {K : Nat → Option Obj}
theorem any_builtin {A : Around} {id : String} {args : Args} {b : Builtin} {Q : PySem.Fin → Shared → Prop} {E : Value → Shared → Prop} {s : Shared} (hb : entryFor table id = some b)
    (h : wpAny (model p w) A (b args) Q E s) : wpAny (model p w) A (denote table (.builtin id args)) Q E s := by
  show wpAny _ _ (match entryFor table id with | some b => b args | none => unsupported ((withoutEnding? id "#data").getD id)) _ _ s
  rw [hb]; exact h
theorem sLiNext_ok {i j it l n : Nat} {xs : List Value} {ep : Nat} {v : Value} (hv : xs[n]? = some v) (sz tok : Nat) : (sLiNext i j it l n xs ep v).Valid (mdl p w) K sz tok := by
  refine Summ.ofAny rfl rfl fun s hpre hs ht => ?_
  have h1 : s.heap.get? it = some (liObj l n) := hpre (i, it, liObj l n) (by simp [sLiNext])
  have h2 : s.heap.get? l = some (lsObj xs ep) := hpre (j, l, lsObj xs ep) (by simp [sLiNext])
  have hu := Heap.get?_update_self (Obj.mapFields (·.setIfInBounds 1 (rawInt (n + 1)))) h1 rfl
  have hsb : Heap.SameBut it s.heap (s.heap.update it (Obj.mapFields (·.setIfInBounds 1 (rawInt (n + 1))))) := Heap.SameBut.update ..
  refine ⟨s.heap.update it (Obj.mapFields (·.setIfInBounds 1 (rawInt (n + 1)))), fun A hA => ?_, ?_, ?_, fun q hq => (nomatch hq), fun b o hb hn => ?_⟩
  · refine any_builtin entry_listiter_next ?_
    show wpAny _ _ (field (.ref it) 0 >>= _) _ _ s
    refine wpAny_bind (wpAny_field h1 rfl (x := .ref l) rfl ?_)
    show wpAny _ _ (if (Value.ref l == Value.none) = true then _ else _) _ _ s
    rw [if_neg (show ¬ ((Value.ref l == Value.none) = true) from Bool.false_ne_true)]
    show wpAny _ _ (field (.ref it) 1 >>= _) _ _ s
    refine wpAny_bind (wpAny_field h1 rfl (x := .int n 0) rfl ?_)
    show wpAny _ _ (seqItems? (.ref l) >>= _) _ _ s
    refine wpAny_bind (wpAny_seqItems h2 rfl ?_)
    have hx : (⟨xs⟩ : Array Value)[n]? = some v := by simpa using hv
    simp only [Int.toNat_natCast, hx]
    refine wpAny_bind (wpAny_setField h1 rfl (by simp) (wpAny_pure ⟨_, rfl, rfl, ?_⟩))
    subst ht
    rfl
  · rw [hsb.1, hs]; exact (Nat.zero_add _).symm
  · intro q hq
    simp only [sLiNext, List.mem_singleton] at hq
    subst hq
    exact hu
  · exact (hsb.2 b fun z => hn (i, it, liObj l (n + 1)) (by simp [sLiNext]) z.symm).trans hb
theorem sLiEnd_ok {i j it l n : Nat} {xs : List Value} {ep : Nat} (hv : xs[n]? = none) (sz tok : Nat) : (sLiEnd i j it l n xs ep sz).Valid (mdl p w) K sz tok := by
  refine Summ.ofAny rfl rfl fun s hpre hs ht => ?_
  have h1 : s.heap.get? it = some (liObj l n) := hpre (i, it, liObj l n) (by simp [sLiEnd])
  have h2 : s.heap.get? l = some (lsObj xs ep) := hpre (j, l, lsObj xs ep) (by simp [sLiEnd])
  have hu := Heap.get?_update_self (Obj.mapFields (·.setIfInBounds 0 .none)) h1 rfl
  have hsb : Heap.SameBut it s.heap (s.heap.update it (Obj.mapFields (·.setIfInBounds 0 .none))) := Heap.SameBut.update ..
  have hz : (s.heap.update it (Obj.mapFields (·.setIfInBounds 0 .none))).objs.size = sz := hsb.1.trans hs
  refine ⟨((s.heap.update it (Obj.mapFields (·.setIfInBounds 0 .none))).push (tupObj [])).push (stopObj sz), fun A hA => ?_, ?_, ?_, ?_, fun b o hb hn => ?_⟩
  · refine any_builtin entry_listiter_next ?_
    show wpAny _ _ (field (.ref it) 0 >>= _) _ _ s
    refine wpAny_bind (wpAny_field h1 rfl (x := .ref l) rfl ?_)
    show wpAny _ _ (if (Value.ref l == Value.none) = true then _ else _) _ _ s
    rw [if_neg (show ¬ ((Value.ref l == Value.none) = true) from Bool.false_ne_true)]
    show wpAny _ _ (field (.ref it) 1 >>= _) _ _ s
    refine wpAny_bind (wpAny_field h1 rfl (x := .int n 0) rfl ?_)
    show wpAny _ _ (seqItems? (.ref l) >>= _) _ _ s
    refine wpAny_bind (wpAny_seqItems h2 rfl ?_)
    have hx : (⟨xs⟩ : Array Value)[n]? = none := by simpa using hv
    simp only [Int.toNat_natCast, hx]
    refine wpAny_bind (wpAny_rule (wpAny_bind (wpAny_setField h1 rfl (by simp) ?_)))
    show wpAny _ _ (newExc (.type "StopIteration") [] >>= _) _ _ _
    refine wpAny_bind ?_
    simp only [newExc, newTuple]
    refine wpAny_bind (wpAny_newObj_type ?_ (by size_fits))
    refine wpAny_bind (m := firstArgMember _ _) (wpAny_of_eq (a := Value.none) (by first | rfl | (simp only [firstArgMember]; rfl)) ?_)
    refine wpAny_newObj_type ?_ (by size_fits)
    simp only [raiseNew]
    refine wpAny_bind (wpAny_handled ?_)
    rw [hA]
    refine wpAny_bind (wpAny_pure (wpAny_throw ?_))
    subst ht
    refine ⟨?_, ?_⟩
    · show Except.error (Value.ref (sz + 1)) = Except.error (Value.ref _)
      rw [Heap.size_push, hz]
    · rw [hz]; rfl
  · rw [Heap.size_push, Heap.size_push, hz]; show _ = 0 + sz + 2; omega
  · intro q hq
    simp only [sLiEnd, List.mem_singleton] at hq
    subst hq
    exact Heap.get?_push_of_some _ (Heap.get?_push_of_some _ hu)
  · intro q hq
    simp only [sLiEnd, List.mem_cons, List.not_mem_nil, or_false] at hq
    rcases hq with rfl | rfl
    · refine Heap.get?_push_of_some _ ?_
      rw [Nat.add_zero, ← hz]
      exact Heap.get?_push_size _ rfl
    · have : sz + 1 = ((s.heap.update it (Obj.mapFields (·.setIfInBounds 0 .none))).push (tupObj [])).objs.size := by rw [Heap.size_push, hz]
      show Heap.get? _ (sz + 1) = _
      rw [this]
      exact Heap.get?_push_size _ rfl
  · exact Heap.get?_push_of_some _ (Heap.get?_push_of_some _ ((hsb.2 b fun z => hn (i, it, liEnd (liObj l n)) (by simp [sLiEnd]) z.symm).trans hb))
end Mine
namespace Mine
open PySem PySem.W

/-- an entry: key and value, each with its token -/
structure E where
  k : Int
  t : Nat
  v : Int
  u : Nat
noncomputable def ent (e : E) : DictEntry := ⟨hashInt e.k, .int e.k e.t, .int e.v e.u⟩
noncomputable def dObj (cls : Value) (dd : Option Nat) (es : List E) (ep : Nat) : Obj := ⟨cls, dd, .dict ⟨es.map ent⟩ ep, #[]⟩
noncomputable def esFind : List E → Int → Option E
  | [], _ => none
  | e :: r, x => if e.k = x then some e else esFind r x
noncomputable def esSet : List E → Int → Nat → Int → Nat → List E
  | [], x, t, y, u => [⟨x, t, y, u⟩]
  | e :: r, x, t, y, u => if e.k = x then ⟨e.k, e.t, y, u⟩ :: r else e :: esSet r x t y u
noncomputable def esDel : List E → Int → List E
  | [], _ => []
  | e :: r, x => if e.k = x then r else e :: esDel r x
noncomputable def esVal (es : List E) (x : Int) : Option Value := (esFind es x).map fun e => .int e.v e.u

theorem intKeys (es : List E) : IntKeys ⟨es.map ent⟩ := by
  intro e he
  obtain ⟨x, _, rfl⟩ := List.mem_map.mp (by simpa using he)
  exact ⟨x.k, x.t, rfl, rfl⟩
theorem idx_eq (es : List E) (x : Int) : ((⟨es.map ent⟩ : Array DictEntry).findIdx? fun e => Value.isInt x e.key) = es.findIdx? fun e => decide (e.k = x) := by
  have : ∀ e : E, Value.isInt x (ent e).key = decide (e.k = x) := fun e => by
    show (e.k == x) = decide (e.k = x)
    by_cases h : e.k = x <;> simp [h]
  simp only [List.findIdx?_toArray, List.findIdx?_map]
  congr 1
theorem idx_none {es : List E} {x : Int} : (es.findIdx? fun e => decide (e.k = x)) = none ↔ esFind es x = none := by
  induction es with
  | nil => simp [esFind]
  | cons e r ih =>
    rw [List.findIdx?_cons]
    unfold esFind
    by_cases h : e.k = x
    · simp [h]
    · simp only [h, decide_false, if_false]
      rw [← ih]
      simp
theorem idx_some {es : List E} {x : Int} {i : Nat} (h : (es.findIdx? fun e => decide (e.k = x)) = some i) : es[i]? = esFind es x ∧ (esFind es x).isSome = true := by
  induction es generalizing i with
  | nil => simp at h
  | cons e r ih =>
    rw [List.findIdx?_cons] at h
    unfold esFind
    by_cases hk : e.k = x
    · simp [hk] at h
      subst h
      simp [hk]
    · simp only [hk, decide_false, if_false] at h
      obtain ⟨j, hj, rfl⟩ := Option.map_eq_some_iff.mp h
      simpa [hk] using ih hj
theorem set_some {es : List E} {x : Int} {i : Nat} (h : (es.findIdx? fun e => decide (e.k = x)) = some i) (t : Nat) (y : Int) (u : Nat) :
    (⟨es.map ent⟩ : Array DictEntry).modify i (fun e => { e with val := .int y u }) = ⟨(esSet es x t y u).map ent⟩ := by
  have key : (es.map ent).modify i (fun e => { e with val := .int y u }) = (esSet es x t y u).map ent := by
    induction es generalizing i with
    | nil => simp at h
    | cons e r ih =>
      rw [List.findIdx?_cons] at h
      unfold esSet
      by_cases hk : e.k = x
      · simp [hk] at h
        subst h
        simp [hk, ent]
      · simp only [hk, decide_false, if_false] at h
        obtain ⟨j, hj, rfl⟩ := Option.map_eq_some_iff.mp h
        simp only [List.map_cons, hk, if_false, List.modify_succ_cons]
        rw [ih hj]
  simp [key]
theorem set_none {es : List E} {x : Int} (h : esFind es x = none) (t : Nat) (y : Int) (u : Nat) :
    (⟨es.map ent⟩ : Array DictEntry).push ⟨hashInt x, .int x t, .int y u⟩ = ⟨(esSet es x t y u).map ent⟩ := by
  have key : es.map ent ++ [⟨hashInt x, .int x t, .int y u⟩] = (esSet es x t y u).map ent := by
    induction es with
    | nil => rfl
    | cons e r ih =>
      unfold esFind at h
      unfold esSet
      by_cases hk : e.k = x
      · simp [hk] at h
      · simp only [hk, if_false] at h ⊢
        simp only [List.map_cons, List.cons_append]
        rw [ih h]
  simp [key]
theorem del_some {es : List E} {x : Int} {i : Nat} (h : (es.findIdx? fun e => decide (e.k = x)) = some i) :
    (⟨es.map ent⟩ : Array DictEntry).eraseIdxIfInBounds i = ⟨(esDel es x).map ent⟩ := by
  have key : (es.map ent).eraseIdx i = (esDel es x).map ent := by
    induction es generalizing i with
    | nil => simp at h
    | cons e r ih =>
      rw [List.findIdx?_cons] at h
      unfold esDel
      by_cases hk : e.k = x
      · simp [hk] at h
        subst h
        simp [hk]
      · simp only [hk, decide_false, if_false] at h
        obtain ⟨j, hj, rfl⟩ := Option.map_eq_some_iff.mp h
        simp only [List.map_cons, hk, if_false, List.eraseIdx_cons_succ]
        rw [ih hj]
  simp [key]

/-- the turn of a dict's object when an entry is set -/
noncomputable def setF (es : List E) (x : Int) (t : Nat) (y : Int) (u : Nat) : Obj → Obj := match es.findIdx? fun e => decide (e.k = x) with
  | some i => Obj.mapDict (·.modify i fun e => { e with val := .int y u })
  | none => Obj.mapDictKeys (·.push ⟨hashInt x, .int x t, .int y u⟩)
theorem setF_eq (cls : Value) (dd : Option Nat) (es : List E) (ep : Nat) (x : Int) (t : Nat) (y : Int) (u : Nat) :
    setF es x t y u (dObj cls dd es ep) = dObj cls dd (esSet es x t y u) (match esFind es x with | some _ => ep | none => ep + 1) := by
  unfold setF
  cases hi : es.findIdx? fun e => decide (e.k = x) with
  | some i =>
    obtain ⟨_, h2⟩ := idx_some hi
    obtain ⟨e, he⟩ := Option.isSome_iff_exists.mp h2
    rw [he]
    show Obj.mk _ _ (.dict ((⟨es.map ent⟩ : Array DictEntry).modify i _) ep) _ = Obj.mk _ _ _ _
    rw [set_some hi t y u]
  | none =>
    rw [idx_none.mp hi]
    show Obj.mk _ _ (.dict ((⟨es.map ent⟩ : Array DictEntry).push _) (ep + 1)) _ = Obj.mk _ _ _ _
    rw [set_none (idx_none.mp hi) t y u]

section
variable {p : Program} {w : World} {A : Around} {EE : Value → Shared → Prop} {s : Shared}
theorem any_dictGet {d : Nat} {cls : Value} {dd : Option Nat} {es : List E} {ep : Nat} {x : Int} {t : Nat} {Q : Option Value → Shared → Prop} (ho : s.heap.get? d = some (dObj cls dd es ep))
    (h : Q (esVal es x) { s with toks := s.toks + 1 }) : wpAny (model p w) A (dictGet d (.int x t)) Q EE s := by
  unfold dictGet
  try with_reducible refine wpAny_holding ?_
  refine wpAny_bind (wpAny_pyHash_int (wpAny_bind (wpAny_dictFind_int (s := { s with toks := s.toks + 1 }) ho rfl (intKeys es) ?_)))
  rw [idx_eq]
  cases hi : es.findIdx? fun e => decide (e.k = x) with
  | none =>
    rw [show esVal es x = none by unfold esVal; rw [idx_none.mp hi]; rfl] at h
    exact wpAny_pure h
  | some i =>
    refine wpAny_bind (wpAny_dictEntries (s := { s with toks := s.toks + 1 }) ho rfl (wpAny_pure ?_))
    obtain ⟨h1, _⟩ := idx_some hi
    have : ((⟨es.map ent⟩ : Array DictEntry)[i]?).map (·.val) = esVal es x := by
      simp only [List.getElem?_toArray, List.getElem?_map, h1, esVal, Option.map_map]
      rfl
    rw [this]
    exact h
theorem any_dictSet {d : Nat} {cls : Value} {dd : Option Nat} {es : List E} {ep : Nat} {x : Int} {t : Nat} {y : Int} {u : Nat} {Q : Unit → Shared → Prop} (ho : s.heap.get? d = some (dObj cls dd es ep)) (hz : es.length ≤ sizeLine)
    (h : Q () { s with heap := s.heap.update d (setF es x t y u), toks := s.toks + 1 }) :
    wpAny (model p w) A (dictSet d (.int x t) (.int y u)) Q EE s := by
  unfold dictSet
  try with_reducible refine wpAny_holding ?_
  refine wpAny_bind (wpAny_pyHash_int ?_)
  unfold dictSetHashed
  try with_reducible refine wpAny_holding ?_
  refine wpAny_bind (wpAny_dictFind_int (s := { s with toks := s.toks + 1 }) ho rfl (intKeys es) ?_)
  rw [idx_eq]
  unfold setF at h
  cases hi : es.findIdx? fun e => decide (e.k = x) with
  | some i =>
    rw [hi] at h
    exact wpAny_bind (wpAny_rule (wpAny_bind (wpAny_updateDict (s := { s with toks := s.toks + 1 }) ho rfl (wpAny_point h))))
  | none =>
    rw [hi] at h
    exact wpAny_bind (wpAny_rule (wpAny_updateDictKeys (hz := by simpa using hz) (s := { s with toks := s.toks + 1 }) ho rfl h))

theorem any_dictSetHashed {d : Nat} {cls : Value} {dd : Option Nat} {es : List E} {ep : Nat} {x : Int} {t : Nat} {y : Int} {u : Nat} {Q : Unit → Shared → Prop} (ho : s.heap.get? d = some (dObj cls dd es ep)) (hz : es.length ≤ sizeLine)
    (h : Q () { s with heap := s.heap.update d (setF es x t y u) }) :
    wpAny (model p w) A (dictSetHashed d (.int x t) (hashInt x) (.int y u)) Q EE s := by
  unfold dictSetHashed
  try with_reducible refine wpAny_holding ?_
  refine wpAny_bind (wpAny_dictFind_int ho rfl (intKeys es) ?_)
  rw [idx_eq]
  unfold setF at h
  cases hi : es.findIdx? fun e => decide (e.k = x) with
  | some i =>
    rw [hi] at h
    exact wpAny_bind (wpAny_rule (wpAny_bind (wpAny_updateDict ho rfl (wpAny_point h))))
  | none =>
    rw [hi] at h
    exact wpAny_bind (wpAny_rule (wpAny_updateDictKeys (hz := by simpa using hz) ho rfl h))

/-- the heap after entries have been put one by one -/
noncomputable def cpH (d : Nat) : Heap → List E → List E → Heap
  | h, _, [] => h
  | h, pre, e :: r => cpH d (h.update d (setF pre e.k e.t e.v e.u)) (pre ++ [e]) r
theorem esFind_none {es : List E} {x : Int} (h : x ∉ es.map (·.k)) : esFind es x = none := by
  induction es with
  | nil => rfl
  | cons e r ih =>
    rw [List.map_cons, List.mem_cons, not_or] at h
    unfold esFind
    rw [if_neg (fun z => h.1 z.symm)]
    exact ih h.2
theorem esSet_new {es : List E} {x : Int} (h : esFind es x = none) (t : Nat) (y : Int) (u : Nat) : esSet es x t y u = es ++ [⟨x, t, y, u⟩] := by
  induction es with
  | nil => rfl
  | cons e r ih =>
    unfold esFind at h
    unfold esSet
    by_cases hk : e.k = x
    · rw [if_pos hk] at h; cases h
    · rw [if_neg hk] at h
      rw [if_neg hk, ih h]; rfl
theorem cpH_get {d : Nat} {cls : Value} {dd : Option Nat} : ∀ (r pre : List E) (h : Heap) (ep : Nat), h.get? d = some (dObj cls dd pre ep) → ((pre ++ r).map (·.k)).Nodup →
    (cpH d h pre r).get? d = some (dObj cls dd (pre ++ r) (ep + r.length)) ∧ Heap.SameBut d h (cpH d h pre r)
  | [], pre, h, ep, hg, _ => by rw [List.append_nil]; exact ⟨hg, Heap.SameBut.refl _ _⟩
  | e :: r, pre, h, ep, hg, nd => by
    have hf : esFind pre e.k = none := esFind_none fun z => by
      rw [List.map_append, List.nodup_append] at nd
      exact nd.2.2 _ z e.k (by simp) rfl
    have hsb : Heap.SameBut d h (h.update d (setF pre e.k e.t e.v e.u)) := Heap.SameBut.update ..
    have h1 : (h.update d (setF pre e.k e.t e.v e.u)).get? d = some (dObj cls dd (pre ++ [e]) (ep + 1)) := by
      rw [Heap.get?_update_self _ hg (by rw [setF_eq]; rfl), setF_eq, hf, esSet_new hf]
    obtain ⟨a, b⟩ := cpH_get r (pre ++ [e]) _ (ep + 1) h1 (by simpa using nd)
    refine ⟨?_, Heap.SameBut.trans hsb b⟩
    rw [List.append_assoc] at a
    rw [show ep + (e :: r).length = ep + 1 + r.length by simp; omega]
    exact a

theorem any_mergeDict {nm : String} {d o : Nat} {cls cls' : Value} {dd dd' : Option Nat} {es : List E} {ep : Nat} {Q : Unit → Shared → Prop} (hne : d ≠ o) (hoS : (o == sysModules) = false) (hd : s.heap.get? d = some (dObj cls dd [] 0))
    (ho : s.heap.get? o = some (dObj cls' dd' es ep)) (hz : es.length ≤ 8) (h8 : 8 ≤ sizeLine) (nd : (es.map (·.k)).Nodup) (h : Q () { s with heap := cpH d s.heap [] es }) :
    wpAny (model p w) A (Builtin.Dict.mergeDict nm d o) Q EE s := by
  unfold Builtin.Dict.mergeDict
  rw [if_neg (by simpa using hne)]
  unfold Builtin.Dict.showsAll
  rw [if_neg (by rw [hoS]; exact Bool.false_ne_true)]
  refine wpAny_bind (wpAny_pure ?_)
  refine wpAny_bind (wpAny_dictEntries ho rfl ?_)
  have hfew : ((decide ((⟨es.map ent⟩ : Array DictEntry).size ≤ 8)) && (⟨es.map ent⟩ : Array DictEntry).all fun e => (keyPart e.key).isSome) = true := by
    rw [Bool.and_eq_true]
    refine ⟨by simpa using hz, ?_⟩
    rw [Array.all_eq_true']
    intro e he
    obtain ⟨x, _, rfl⟩ := List.mem_map.mp (by simpa using he)
    rfl
  dsimp only
  rw [hfew]
  have hlen : (⟨es.map ent⟩ : Array DictEntry).size = es.length := by simp
  rw [if_neg (by decide)]
  refine wpAny_bind (wpAny_dictEpoch ho rfl ?_)
  refine wpAny_bind (wpAny_dictEntries ho rfl ?_)
  refine wpAny_bind ?_
  rw [Std.Legacy.Range.forIn_eq_forIn_range']
  simp only [Std.Legacy.Range.size, Nat.sub_zero, Nat.add_sub_cancel, Nat.div_one]
  rw [hlen]
  refine wpAny_forIn_list _ (fun rest _ s' => ∃ pre r, es = pre ++ r ∧ rest = List.range' pre.length r.length ∧ s' = { s with heap := s'.heap } ∧ s'.heap.get? d = some (dObj cls dd pre pre.length) ∧ Heap.SameBut d s.heap s'.heap ∧ cpH d s'.heap pre r = cpH d s.heap [] es)
    _ ?_ ?_ _ _ ⟨[], es, rfl, by simp, rfl, hd, Heap.SameBut.refl _ _, rfl⟩
  · rintro x rest b s' ⟨pre, r, he, hr, hs', hg, hsb, hc⟩
    cases r with
    | nil => simp at hr
    | cons e r =>
      rw [List.length_cons, List.range'_succ] at hr
      injection hr with hx hrest
      subst hx
      have ho' : s'.heap.get? o = some (dObj cls' dd' es ep) := (hsb.2 o (Ne.symm hne)).trans ho
      refine wpAny_bind (wpAny_dictEntries ho' rfl ?_)
      have hge : (⟨es.map ent⟩ : Array DictEntry)[pre.length]? = some (ent e) := by
        simp [he]
      rw [hge]
      have hf : esFind pre e.k = none := esFind_none fun z => by
        rw [he, List.map_append, List.nodup_append] at nd
        exact nd.2.2 _ z e.k (by simp) rfl
      have hpl : pre.length ≤ sizeLine := by
        have : pre.length ≤ es.length := by rw [he]; simp
        omega
      show wpAny _ _ (holding [.int e.k e.t, .int e.v e.u] (dictSetHashed d (.int e.k e.t) (hashInt e.k) (.int e.v e.u)) >>= _) _ _ _
      refine wpAny_bind (wpAny_holding (any_dictSetHashed hg hpl ?_))
      have hsb2 : Heap.SameBut d s'.heap (s'.heap.update d (setF pre e.k e.t e.v e.u)) := Heap.SameBut.update ..
      refine wpAny_bind (wpAny_dictEpoch (o := dObj cls' dd' es ep) (by exact (hsb2.2 o (Ne.symm hne)).trans ho') rfl ?_)
      rw [if_neg (by simp)]
      refine wpAny_pure ⟨pre ++ [e], r, by rw [he]; simp, by rw [hrest]; simp, ?_, ?_, Heap.SameBut.trans hsb hsb2, hc⟩
      · rw [hs']
      · show (s'.heap.update d (setF pre e.k e.t e.v e.u)).get? d = _
        rw [Heap.get?_update_self _ hg (by rw [setF_eq]; rfl), setF_eq, hf, esSet_new hf]
        simp
  · rintro b s' ⟨pre, r, he, hr, hs', hg, hsb, hc⟩
    have : r = [] := by
      cases r with
      | nil => rfl
      | cons e r => simp [List.range'_succ] at hr
    subst this
    refine wpAny_pure ?_
    rw [hs']
    rw [show s'.heap = cpH d s.heap [] es from hc]
    exact h
end
end Mine
namespace Mine
open PySem PySem.W

/-- a summary from the library's rules for the first stretch, and a run for the rest -/
theorem Summ.ofMid {p : Program} {w : World} {K : Nat → Option Obj} {S : Summ} {sz tok : Nat} {α : Type} (m : Sem α) (f : α → Sem Fin) (a : α) (dt0 : Nat) (Y : Sem Fin) (ini fin : List (Nat × Obj)) (newi : List Nat) (n : Nat) (ops : List Op) (N : Nat)
    (hcode : denote table S.code = m.bind f) (hY : Y = f a)
    (hm : ∀ s : Shared, (∀ q ∈ S.pre, s.heap.get? q.2.1 = some q.2.2) → s.toks = tok → ∀ A : Around, A.handled = none → wpAny (model p w) A m (fun x s' => x = a ∧ s' = { s with toks := tok + dt0 }) (fun _ _ => False) s)
    (hini : S.pre.map (·.2) = ini) (hne : S.needs = []) (hN : ini.length = N) (hfin : fin.map (·.1) = ini.map (·.1))
    (hpost : ∀ q ∈ S.post, (q.2.1, q.2.2) ∈ fin) (hsame : ∀ q ∈ fin, q ∈ ini ∨ ∃ r ∈ S.post, r.2.1 = q.1) (nd : (ini.map (·.1)).Nodup) (hK' : ∀ q ∈ ini, K q.1 = none) (hi : iniOk ini .nil 0 = true)
    (hfa : ∀ l ∈ S.facts, ∀ q ∈ l, sz ≤ q.1 ∧ ∀ r ∈ S.new, q.1 ≠ sz + r.1)
    (ok : OpsOk (mdl p w) K ops)
    (e : ∀ (k : Result → Sem Fin) (g : Bool) (l : List Value) (code : Code) (pos pos' : Pos) (kp : List Value) (W : List (Code × Pos)) (gens : List GenState), S.shape ((code, pos) :: W) = true →
      chk (tR p w K W n ops (mkT ini) N sz gens (tok + dt0) [] Y S.code pos' [.ret k none g l code pos kp] [] []) (ends N newi) =
      chk' (tR p w K W n ops (mkT ini) N sz gens (tok + dt0) [] Y S.code pos' [.ret k none g l code pos kp] [] [])
        (k S.res, code, pos, [], addZ S.dsz sz + S.dl, tok + S.dtok, appG gens S.newg, S.facts, fin.map some, S.new.map fun q => some (sz + q.1, q.2))) : S.Valid (mdl p w) K sz tok := by
  intro s k g l code pos pos' kp st hK hpre hpo hne1 hne' hs ht hb hsh
  obtain ⟨h, ⟨gens⟩, d, toks, os⟩ := s
  replace ht : toks = tok := ht
  have hb' : topHandled (.ret k none g l code pos kp :: st) = none := by rw [topHandled_ret]; exact hb
  obtain ⟨pos2, C0⟩ := comes_mid (c := S.code) (f := f) (pos' := pos') hb' (hm ⟨h, ⟨gens⟩, d, toks, os⟩ hpre ht)
  subst ht hini hN
  obtain ⟨out, h', e1, C, c1, c2, c3, c4⟩ := go (d := d) (os := os) (bot := st) rfl hb hK hK' (fun q hq => by
      obtain ⟨x, hx, rfl⟩ := List.mem_map.mp hq
      exact hpre x hx) nd (fun x hx => absurd hx (List.not_mem_nil)) hs rfl hi ok (e k g l code pos pos2 kp (st.map Frame.where_) gens hsh)
  simp only [ends, Prod.mk.injEq, appG_eq, addZ_eq] at e1
  obtain ⟨e1, e2, e3, e4, e5, e6, e7, e8, e9, e10⟩ := e1
  rw [e1, e2, e3, e4, e6, e7, hY] at C
  have hfinget : ∀ q ∈ fin, h'.get? q.1 = some q.2 := fun q hq => by
    have : some q ∈ fin.map some := List.mem_map.mpr ⟨q, hq, rfl⟩
    rw [← e9] at this
    obtain ⟨i, _, hi⟩ := List.mem_map.mp this
    exact c2 i q.1 q.2 hi
  have eg : (⟨gens⟩ : Array GenState) ++ ⟨S.newg⟩ = ⟨gens ++ S.newg⟩ := by simp
  refine ⟨h', ?_, c1.trans e5, fun q hq => hfinget _ (hpost q hq), fun q hq => ?_, fun x hx q hq => ⟨c3 x (by rw [e8]; exact hx) q hq, hfa x hx q hq⟩, fun b o hb' hn => ?_⟩
  · show Comes _ _ _ ⟨h', (⟨gens⟩ : Array GenState) ++ ⟨S.newg⟩, d, _, os⟩ _
    rw [eg]
    have hd : (mdl p w).den S.code = m.bind f := by
      rw [← hcode]
      show denote treeTable S.code = denote table S.code
      rw [table_eq_tree]
    rw [hd]
    exact C0.trans C
  · have : some (sz + q.1, q.2) ∈ S.new.map (fun q => some (sz + q.1, q.2)) := List.mem_map.mpr ⟨q, hq, rfl⟩
    rw [← e10] at this
    obtain ⟨i, _, hi⟩ := List.mem_map.mp this
    exact c2 i _ _ hi
  · by_cases hm : b ∈ (S.pre.map (·.2)).map (·.1)
    · rw [← hfin] at hm
      obtain ⟨q, hq, rfl⟩ := List.mem_map.mp hm
      rcases hsame q hq with z | ⟨r, hr, z⟩
      · obtain ⟨x, hx, rfl⟩ := List.mem_map.mp z
        have := hpre x hx
        rw [show (Shared.heap ⟨h, ⟨gens⟩, d, toks, os⟩).get? x.2.1 = h.get? x.2.1 from rfl] at this
        rw [show (Shared.heap ⟨h, ⟨gens⟩, d, toks, os⟩).get? x.2.1 = h.get? x.2.1 from rfl, this] at hb'
        cases hb'
        exact hfinget _ hq
      · exact absurd z (hn r hr)
    · exact c4 b o hb' hm

theorem denote_builtin {id : String} {args : Args} {b : Builtin} (h : entryFor table id = some b) : denote table (.builtin id args) = b args := by
  show (match entryFor table id with | some b => b args | none => unsupported ((withoutEnding? id "#data").getD id)) = _
  rw [h]
/-- key in dict -/
noncomputable def sHas (cls : Value) (dd : Option Nat) (i d : Nat) (es : List E) (ep : Nat) (x : Int) (t : Nat) (r : Bool) : Summ :=
  { code := .builtin "dict.__contains__" ⟨[.ref d, .int x t], []⟩, res := .ok (.ret (.bool r)), pre := [(i, d, dObj cls dd es ep)], dtok := 1 }
theorem sHas_ok {p : Program} {w : World} {K : Nat → Option Obj} {cls : Value} {dd : Option Nat} {i d : Nat} {es : List E} {ep : Nat} {x : Int} {t : Nat} {r : Bool} (hr : (esFind es x).isSome = r) (hd : (d == sysModules) = false) (sz tok : Nat) : (sHas cls dd i d es ep x t r).Valid (mdl p w) K sz tok := by
  refine Summ.ofAny rfl rfl fun s hpre hs ht => ?_
  have h1 : s.heap.get? d = some (dObj cls dd es ep) := hpre (i, d, _) (List.mem_singleton.mpr rfl)
  refine ⟨s.heap, fun A hA => ?_, by rw [hs]; exact (Nat.zero_add _).symm, (fun q hq => nomatch hq), (fun q hq => nomatch hq), fun b o hb _ => hb⟩
  show wpAny _ _ (denote table (.builtin "dict.__contains__" ⟨[.ref d, .int x t], []⟩)) _ _ _
  rw [denote_builtin entry_dict_contains]
  refine wpAny_bind (m := dictGet d (.int x t)) (any_dictGet h1 ?_)
  subst hr
  unfold esVal
  cases esFind es x with
  | some e => exact wpAny_pure ⟨_, rfl, rfl, by subst ht; rfl⟩
  | none =>
    show wpAny _ _ (Builtin.Dict.pendingKey? d (.int x t) >>= _) _ _ _
    unfold Builtin.Dict.pendingKey?
    rw [if_neg (by rw [hd]; exact Bool.false_ne_true)]
    exact wpAny_bind (wpAny_pure (wpAny_pure ⟨_, rfl, rfl, by subst ht; rfl⟩))

/-- dict.get with a default -/
noncomputable def sGetD (cls : Value) (dd : Option Nat) (i d : Nat) (es : List E) (ep : Nat) (x : Int) (t : Nat) (df : Value) (r : Value) : Summ :=
  { code := .builtin "dict.get" ⟨[.ref d, .int x t, df], []⟩, res := .ok (.ret r), pre := [(i, d, dObj cls dd es ep)], dtok := 1 }
theorem sGetD_ok {p : Program} {w : World} {K : Nat → Option Obj} {cls : Value} {dd : Option Nat} {i d : Nat} {es : List E} {ep : Nat} {x : Int} {t : Nat} {df r : Value} (hr : (esVal es x).getD df = r) (hd : (d == sysModules) = false) (sz tok : Nat) : (sGetD cls dd i d es ep x t df r).Valid (mdl p w) K sz tok := by
  refine Summ.ofAny rfl rfl fun s hpre hs ht => ?_
  have h1 : s.heap.get? d = some (dObj cls dd es ep) := hpre (i, d, _) (List.mem_singleton.mpr rfl)
  refine ⟨s.heap, fun A hA => ?_, by rw [hs]; exact (Nat.zero_add _).symm, (fun q hq => nomatch hq), (fun q hq => nomatch hq), fun b o hb _ => hb⟩
  show wpAny _ _ (denote table (.builtin "dict.get" ⟨[.ref d, .int x t, df], []⟩)) _ _ _
  rw [denote_builtin F.entry_dict_get]
  refine wpAny_bind (m := dictGet d (.int x t)) (any_dictGet h1 ?_)
  subst hr
  cases esVal es x with
  | some v => exact wpAny_pure ⟨_, rfl, rfl, by subst ht; rfl⟩
  | none =>
    show wpAny _ _ (Builtin.Dict.missed d (.int x t) >>= _) _ _ _
    unfold Builtin.Dict.missed
    rw [if_neg (by rw [hd]; exact Bool.false_ne_true)]
    exact wpAny_bind (wpAny_pure (wpAny_pure ⟨_, rfl, rfl, by subst ht; rfl⟩))

/-- dict.__getitem__ when the key is not there -/
noncomputable def getRest (d : Nat) (key : Value) : Sem PySem.Fin := do
  match ← Builtin.Dict.missed d key with
  | some v => ret v
  | none => do
    if (← typeOf (.ref d)) != .type "dict" then
      if let some r ← callSpecial? (.ref d) "__missing__" [key] then rule "dict.__getitem__.missing-hook"; return ← ret r
    rule "dict.__getitem__.keyerror"
    raiseNew (← newExc (.type "KeyError") [key])
noncomputable def getCont (d : Nat) (key : Value) (o : Option Value) : Sem PySem.Fin := match o with
  | some v => ret v
  | none => getRest d key
theorem getitem_code (d : Nat) (x : Int) (t : Nat) : denote table (.builtin "dict.__getitem__" ⟨[.ref d, .int x t], []⟩) = (dictGet d (.int x t)).bind (getCont d (.int x t)) := by
  rw [denote_builtin entry_dict_getitem]
  show (dictGet d (.int x t)).bind _ = _
  congr 1
  funext o
  cases o <;> rfl
end Mine
lay_quick Mine.getRest
namespace Mine
open PySem PySem.W

theorem Summ.Valid.none_dsz {M : Model} {K : Nat → Option Obj} {S : Summ} {sz tok : Nat} (h : Summ.Valid M K { S with dsz := none } sz tok) : Summ.Valid M K { S with dsz := some 0 } sz tok := h

/-- a loop: its state, what stands in its slots, what a turn does to the state, what it costs -/
structure Loop (σ ε : Type) where
  code : Code
  res : Result
  slots : Nat → σ → List (Nat × Nat × Obj)
  fin : Nat → σ → List (Nat × Obj)
  post : Nat → σ → List (Nat × Nat × Obj)
  edl : Nat
  edt : Nat
  step : ε → σ → Nat → σ
  sdl : ε → σ → Nat → Nat
  sdt : ε → σ → Nat → Nat
  shape : List (Code × Pos) → Bool := fun _ => true

variable {σ ε : Type}
noncomputable def Loop.go (L : Loop σ ε) : List ε → σ → Nat → σ × Nat × Nat
  | [], st, _ => (st, 0, L.edt)
  | e :: r, st, t => ((L.go r (L.step e st t) (t + L.sdt e st t)).1, L.sdl e st t + (L.go r (L.step e st t) (t + L.sdt e st t)).2.1, L.sdt e st t + (L.go r (L.step e st t) (t + L.sdt e st t)).2.2)
noncomputable def Loop.S (L : Loop σ ε) (n : Nat) (rem : List ε) (st : σ) (t : Nat) : Summ :=
  { code := L.code, res := L.res, pre := L.slots n st, post := L.post (n + rem.length) (L.go rem st t).1, dsz := some (L.go rem st t).2.1, dl := L.edl, dtok := (L.go rem st t).2.2, shape := L.shape }

theorem Loop.valid {p : Program} {w : World} {K : Nat → Option Obj} (L : Loop σ ε) (addrs paddrs : List Nat) (len : Nat) (I : Nat → σ → Prop) (el : Nat → ε → Prop) (last : Nat → Prop) (lo : Nat)
    (h1 : ∀ n st, (L.slots n st).map (·.2.1) = addrs) (hl : addrs.length = len) (hi : ∀ n st, iniOk ((L.slots n st).map (·.2)) .nil 0 = true) (nd : addrs.Nodup) (hK : ∀ a ∈ addrs, K a = none)
    (hp : ∀ n st, (L.post n st).map (·.2.1) = paddrs) (hsame : ∀ n st n' st', ∀ q ∈ L.slots n' st', q.2 ∈ (L.slots n st).map (·.2) ∨ q.2.1 ∈ paddrs)
    (turn : ∀ n st e sz tok, lo ≤ sz → I n st → el n e → I (n + 1) (L.step e st tok) ∧ ∃ N ops, OpsOk (mdl p w) K ops ∧
      ∀ (k : Result → Sem Fin) (g : Bool) (l : List Value) (code : Code) (pos pos' : Pos) (kp : List Value) (W : List (Code × Pos)) (gens : List GenState), L.shape ((code, pos) :: W) = true →
        chk (tR p w K W N ops (mkT ((L.slots n st).map (·.2))) len sz gens tok [] (tD L.code) L.code pos' [.ret k none g l code pos kp] [] []) (turns len) =
        chk' (tR p w K W N ops (mkT ((L.slots n st).map (·.2))) len sz gens tok [] (tD L.code) L.code pos' [.ret k none g l code pos kp] [] [])
          (tD L.code, L.code, [.ret k none g l code pos kp], sz + L.sdl e st tok, tok + L.sdt e st tok, appG gens [], ((L.slots (n + 1) (L.step e st tok)).map (·.2)).map some))
    (fin : ∀ n st sz tok, lo ≤ sz → I n st → last n → ∃ N ops, OpsOk (mdl p w) K ops ∧
      ∀ (k : Result → Sem Fin) (g : Bool) (l : List Value) (code : Code) (pos pos' : Pos) (kp : List Value) (W : List (Code × Pos)) (gens : List GenState), L.shape ((code, pos) :: W) = true →
        chk (tR p w K W N ops (mkT ((L.slots n st).map (·.2))) len sz gens tok [] (tD L.code) L.code pos' [.ret k none g l code pos kp] [] []) (ends len []) =
        chk' (tR p w K W N ops (mkT ((L.slots n st).map (·.2))) len sz gens tok [] (tD L.code) L.code pos' [.ret k none g l code pos kp] [] [])
          (k L.res, code, pos, [], sz + L.edl, tok + L.edt, appG gens [], [], (L.fin n st).map some, []))
    (hf1 : ∀ n st, (L.fin n st).map (·.1) = addrs) (hf2 : ∀ n st, ∀ q ∈ L.post n st, (q.2.1, q.2.2) ∈ L.fin n st) (hf3 : ∀ n st, ∀ q ∈ L.fin n st, q ∈ (L.slots n st).map (·.2) ∨ q.1 ∈ paddrs) :
    ∀ (rem : List ε) (n : Nat) (st : σ) (sz tok : Nat), lo ≤ sz → (∀ i e, rem[i]? = some e → el (n + i) e) → last (n + rem.length) → I n st → (L.S n rem st tok).Valid (mdl p w) K sz tok
  | [], n, st, sz, tok, hlo, he, hla, hI => by
    obtain ⟨N, ops, ok, run⟩ := fin n st sz tok hlo hI hla
    have hm : ∀ n st, ((L.slots n st).map (·.2)).map (·.1) = addrs := fun n st => by rw [List.map_map]; exact h1 n st
    refine Summ.Valid.none_dsz (S := L.S n [] st tok) ?_
    refine Summ.ofRun ((L.slots n st).map (·.2)) (L.fin n st) [] N ops len [] rfl rfl (by rw [← hl, ← h1 n st]; simp) ((hf1 n st).trans (hm n st).symm) (hf2 n st) (fun q hq => ?_) (by rw [hm]; exact nd) (fun q hq => hK _ (by rw [← hm n st]; exact List.mem_map.mpr ⟨q, hq, rfl⟩)) (hi n st) (fun l hl => nomatch hl) (fun l hl => nomatch hl) ok run
    rcases hf3 n st q hq with z | z
    · exact .inl z
    · rw [← hp n st] at z
      obtain ⟨r, hr, z⟩ := List.mem_map.mp z
      exact .inr ⟨r, hr, z⟩
  | e :: rem, n, st, sz, tok, hlo, he, hla, hI => by
    obtain ⟨hI', N, ops, ok, run⟩ := turn n st e sz tok hlo hI (he 0 e rfl)
    have hm : ∀ n st, ((L.slots n st).map (·.2)).map (·.1) = addrs := fun n st => by rw [List.map_map]; exact h1 n st
    have next := L.valid addrs paddrs len I el last lo h1 hl hi nd hK hp hsame turn fin hf1 hf2 hf3 rem (n + 1) (L.step e st tok) (sz + L.sdl e st tok) (tok + L.sdt e st tok) (Nat.le_trans hlo (Nat.le_add_right _ _)) (fun i x hx => by
      have := he (i + 1) x (by simpa using hx)
      rw [show n + (i + 1) = n + 1 + i by omega] at this
      exact this) (by rw [show n + 1 + rem.length = n + (e :: rem).length by simp; omega]; exact hla) hI'
    refine Summ.ofTurn (S := L.S n (e :: rem) st tok) (L.slots (n + 1) (L.step e st tok)) (some (L.go rem (L.step e st tok) (tok + L.sdt e st tok)).2.1) L.edl (L.go rem (L.step e st tok) (tok + L.sdt e st tok)).2.2 [] [] (sz + L.sdl e st tok) (tok + L.sdt e st tok) (List.map (fun q : Nat × Nat × Obj => q.2) (L.slots n st)) N ops len
      rfl rfl rfl rfl (by rw [← hl, ← h1 n st]; simp) ((h1 _ _).trans (hm n st).symm) (fun q hq => ?_) (by rw [hm]; exact nd) (fun q hq => hK _ (by rw [← hm n st]; exact List.mem_map.mpr ⟨q, hq, rfl⟩)) (hi n st) rfl ?_ ?_ ok run ?_
    · rcases hsame n st _ _ q hq with z | z
      · exact .inl z
      · rw [← hp (n + (e :: rem).length) (L.go (e :: rem) st tok).1] at z
        obtain ⟨r, hr, z⟩ := List.mem_map.mp z
        exact .inr ⟨r, hr, z⟩
    · show L.sdl e st tok + _ + sz + L.edl = _ + (sz + L.sdl e st tok) + L.edl
      simp only [Option.getD_some]
      omega
    · show tok + (L.sdt e st tok + _) = tok + L.sdt e st tok + _
      omega
    · have hx : n + 1 + rem.length = n + (e :: rem).length := by simp; omega
      unfold Loop.S at next
      rw [hx] at next
      exact next

/-- the same summary, its end said by names -/
noncomputable def Loop.T (L : Loop σ ε) (n m : Nat) (st st' : σ) (dz dt : Nat) : Summ :=
  { code := L.code, res := L.res, pre := L.slots n st, post := L.post m st', dsz := some dz, dl := L.edl, dtok := dt, shape := L.shape }
theorem Loop.T_ok {M : Model} {K : Nat → Option Obj} {L : Loop σ ε} {n m : Nat} {st st' : σ} {dz dt sz tok : Nat} {rem : List ε} (h : (L.S n rem st tok).Valid M K sz tok) (hm : m = n + rem.length) (hg : L.go rem st tok = (st', dz, dt)) : (L.T n m st st' dz dt).Valid M K sz tok := by
  subst hm
  unfold Loop.S at h
  rw [hg] at h
  exact h
end Mine
namespace Mine
open PySem PySem.W

/-- the number of entries, as the machine counts them -/
noncomputable def eln (es : List E) : Nat := (es.map ent).length
theorem eln_eq (es : List E) : eln es = es.length := by simp [eln]
noncomputable def fset (i : Nat) (v : Value) : Obj → Obj := Obj.mapFields (·.setIfInBounds i v)
noncomputable def iiObj (f0 f1 : Value) (d i n ep : Nat) (ok ov : Value) : Obj := ⟨.type "dict_itemiterator", none, .fields ⟨[f0, f1, .ref d, .int (i : Int) 0, .int (n : Int) 0, .int (ep : Int) 0, ok, ov]⟩, #[]⟩
noncomputable def iiEnd : Obj → Obj
  | ⟨c, d, .fields ⟨a :: b :: _ :: r⟩, s⟩ => ⟨c, d, .fields ⟨a :: b :: .none :: r⟩, s⟩
  | o => o
noncomputable def kiObj (d i n ep : Nat) : Obj := ⟨.type "dict_keyiterator", none, .fields ⟨[.ref d, .int (i : Int) 0, .int (n : Int) 0, .int (ep : Int) 0]⟩, #[]⟩
noncomputable def viObj (d i n ep : Nat) : Obj := ⟨.type "dict_valueiterator", none, .fields ⟨[.ref d, .int (i : Int) 0, .int (n : Int) 0, .int (ep : Int) 0]⟩, #[]⟩
noncomputable def kv (e : E) : List Value := [.int e.k e.t, .int e.v e.u]

/-- the heap after an item's tuple has been handed out by its owner -/
noncomputable def iiH (h : Heap) (it n : Nat) (e : E) : Heap :=
  ((((((h.update it (fset 3 (rawInt ((n : Int) + 1)))).push (tupObj (kv e))).update it (fset 6 (.int e.k e.t))).update it (fset 7 (.int e.v e.u))).update it (fset 0 (rawInt h.objs.size))).update it (fset 1 (.bool false)))
/-- the heap after an item's tuple has been made, the owner's own one being held -/
noncomputable def iiG (h : Heap) (it n : Nat) (e : E) : Heap := ((h.update it (fset 3 (rawInt ((n : Int) + 1)))).push (tupObj (kv e))).update it (fset 1 (.bool true))
noncomputable def iiG' (h : Heap) (it n : Nat) (e : E) : Heap := (h.update it (fset 3 (rawInt ((n : Int) + 1)))).push (tupObj (kv e))

section
variable {p : Program} {w : World} {A : Around} {EE : Value → Shared → Prop} {s : Shared} {Q : PySem.Fin → Shared → Prop}

theorem get_upd {h : Heap} {a : Nat} {o o' : Obj} (f : Obj → Obj) (ho : h.get? a = some o) (hf : f o = o') (hn : o'.isFreed = false) : (h.update a f).get? a = some o' := by
  rw [Heap.get?_update_self f ho (by rw [hf]; exact hn), hf]

theorem any_iiPre {it d n ep : Nat} {f0 f1 ok ov cls : Value} {dd : Option Nat} {es : List E} {e : E} (hit : s.heap.get? it = some (iiObj f0 f1 d n (eln es) ep ok ov)) (hd : s.heap.get? d = some (dObj cls dd es ep)) (he : es[n]? = some e)
    (h : wpAny (model p w) A (Builtin.Dict_items.pairFromOwner (.ref it) 6 (.int e.k e.t) (.int e.v e.u)) (fun v s' => Q (Fin.done (.ret v)) s') EE { s with heap := s.heap.update it (fset 3 (rawInt ((n : Int) + 1))) }) :
    wpAny (model p w) A (Builtin.«dict_itemiterator.__next__» ⟨[.ref it], []⟩) Q EE s := by
  have hT : s.TypeIs (.ref it) "dict_itemiterator" := ⟨_, hit, rfl⟩
  refine wpAny_bind (wpAny_pure ?_)
  refine wpAny_bind ?_
  refine wpAny_bind ?_
  first | refine wpAny_bind (wpAny_typeNameOfWhole_itemiter hT (wpAny_pure ?_)) | refine wpAny_bind (wpAny_typeNameOf_itemiter hT (wpAny_pure ?_))
  refine wpAny_bind (wpAny_fieldsOf hit rfl ?_)
  have hown : Builtin.Dict_items.ownsTuple "dict_itemiterator" = true := by decide
  simp only [hown, if_true]
  show wpAny _ _ (if (Value.ref d == Value.none) = true then _ else _) _ _ _
  rw [if_neg (show ¬ ((Value.ref d == Value.none) = true) from Bool.false_ne_true)]
  refine wpAny_bind (wpAny_pure ?_)
  refine wpAny_bind (wpAny_dictEntries hd rfl ?_)
  have hsz : (⟨es.map ent⟩ : Array DictEntry).size = eln es := rfl
  rw [if_neg (by rw [hsz]; simp)]
  refine wpAny_bind (wpAny_pure ?_)
  refine wpAny_bind (wpAny_dictEpoch hd rfl ?_)
  rw [if_neg (by simp)]
  refine wpAny_pure ?_
  have hx : (⟨es.map ent⟩ : Array DictEntry)[n]? = some (ent e) := by simp [he]
  simp only [show ¬ ((n : Int) < 0) from by omega, if_false, Int.toNat_natCast, hx]
  refine wpAny_bind ?_
  first | refine wpAny_bind (wpAny_typeNameOfWhole_itemiter hT (wpAny_pure ?_)) | refine wpAny_bind (wpAny_typeNameOf_itemiter hT (wpAny_pure ?_))
  refine wpAny_bind (wpAny_isOneOf_itemiter hT ?_)
  show wpAny _ _ (setField (.ref it) 3 (rawInt ((n : Int) + 1)) >>= _) _ _ s
  refine wpAny_bind (wpAny_setField hit rfl (by simp) ?_)
  have hT₁ : Shared.TypeIs { s with heap := s.heap.update it (fset 3 (rawInt ((n : Int) + 1))) } (.ref it) "dict_itemiterator" := ⟨_, get_upd _ hit rfl rfl, rfl⟩
  refine wpAny_bind (wpAny_holding ?_)
  refine wpAny_bind (wpAny_isOneOf_itemiter hT₁ ?_)
  refine wpAny_bind (wpAny_isOneOf_itemiter hT₁ ?_)
  exact wpAny_mono h (fun _ _ z => wpAny_pure z) (fun _ _ z => z)

theorem any_iiNext {it d n ep : Nat} {ok ov cls : Value} {dd : Option Nat} {es : List E} {e : E} (hit : s.heap.get? it = some (iiObj .none (.bool false) d n (eln es) ep ok ov)) (hd : s.heap.get? d = some (dObj cls dd es ep)) (he : es[n]? = some e)
    (h : Q (Fin.done (.ret (.ref s.heap.objs.size))) { s with heap := iiH s.heap it n e }) : wpAny (model p w) A (Builtin.«dict_itemiterator.__next__» ⟨[.ref it], []⟩) Q EE s := by
  refine any_iiPre hit hd he ?_
  have h1 : (s.heap.update it (fset 3 (rawInt ((n : Int) + 1)))).get? it = some (iiObj .none (.bool false) d (n + 1) (eln es) ep ok ov) := get_upd _ hit rfl rfl
  have z1 : (s.heap.update it (fset 3 (rawInt ((n : Int) + 1)))).objs.size = s.heap.objs.size := (Heap.SameBut.update (a := it) (h := s.heap) (fset 3 (rawInt ((n : Int) + 1)))).1
  have h2 : ((s.heap.update it (fset 3 (rawInt ((n : Int) + 1)))).push (tupObj (kv e))).get? it = some (iiObj .none (.bool false) d (n + 1) (eln es) ep ok ov) := Heap.get?_push_of_some _ h1
  unfold Builtin.Dict_items.pairFromOwner
  refine wpAny_bind (wpAny_newTuple ?_)
  refine wpAny_bind ?_
  unfold Builtin.Dict_items.ownedTupleIsFree
  refine wpAny_bind (wpAny_field (o := iiObj .none (.bool false) d (n + 1) (eln es) ep ok ov) h2 rfl (x := .none) rfl (wpAny_pure ?_))
  simp only [if_true]
  refine wpAny_bind (wpAny_field (o := iiObj .none (.bool false) d (n + 1) (eln es) ep ok ov) h2 rfl (x := ok) rfl ?_)
  refine wpAny_bind (wpAny_field (o := iiObj .none (.bool false) d (n + 1) (eln es) ep ok ov) h2 rfl (x := ov) rfl ?_)
  refine wpAny_bind (wpAny_setField (o := iiObj .none (.bool false) d (n + 1) (eln es) ep ok ov) h2 rfl (by simp) ?_)
  have h3 := get_upd (fset 6 (.int e.k e.t)) h2 (o' := iiObj .none (.bool false) d (n + 1) (eln es) ep (.int e.k e.t) ov) rfl rfl
  refine wpAny_bind (wpAny_setField h3 rfl (by simp) ?_)
  have h4 := get_upd (fset 7 (.int e.v e.u)) h3 (o' := iiObj .none (.bool false) d (n + 1) (eln es) ep (.int e.k e.t) (.int e.v e.u)) rfl rfl
  refine wpAny_bind (wpAny_setField h4 rfl (by simp) ?_)
  have h5 := get_upd (fset 0 (rawInt s.heap.objs.size)) h4 (o' := iiObj (rawInt s.heap.objs.size) (.bool false) d (n + 1) (eln es) ep (.int e.k e.t) (.int e.v e.u)) rfl rfl
  rw [z1]
  refine wpAny_bind (wpAny_setField h5 rfl (by simp) ?_)
  exact wpAny_bind (wpAny_letGo (wpAny_pure h))
theorem upd_other {h : Heap} {a b : Nat} (f : Obj → Obj) (hb : b ≠ a) : (h.update a f).get? b = h.get? b := (Heap.SameBut.update (a := a) (h := h) f).2 b hb
theorem upd_size (h : Heap) (a : Nat) (f : Obj → Obj) : (h.update a f).objs.size = h.objs.size := (Heap.SameBut.update (a := a) (h := h) f).1
theorem iiH_spec {h : Heap} {it d n N ep : Nat} {ok ov : Value} {e : E} (hit : h.get? it = some (iiObj .none (.bool false) d n N ep ok ov)) :
    (iiH h it n e).objs.size = 1 + h.objs.size ∧ (iiH h it n e).get? it = some (iiObj (rawInt h.objs.size) (.bool false) d (n + 1) N ep (.int e.k e.t) (.int e.v e.u)) ∧ (iiH h it n e).get? h.objs.size = some (tupObj (kv e)) ∧
    ∀ b o, h.get? b = some o → b ≠ it → (iiH h it n e).get? b = some o := by
  have hl := Heap.lt_size hit
  have h1 : (h.update it (fset 3 (rawInt ((n : Int) + 1)))).get? it = some (iiObj .none (.bool false) d (n + 1) N ep ok ov) := get_upd _ hit rfl rfl
  have h2 : ((h.update it (fset 3 (rawInt ((n : Int) + 1)))).push (tupObj (kv e))).get? it = some (iiObj .none (.bool false) d (n + 1) N ep ok ov) := Heap.get?_push_of_some _ h1
  have h3 := get_upd (fset 6 (.int e.k e.t)) h2 (o' := iiObj .none (.bool false) d (n + 1) N ep (.int e.k e.t) ov) rfl rfl
  have h4 := get_upd (fset 7 (.int e.v e.u)) h3 (o' := iiObj .none (.bool false) d (n + 1) N ep (.int e.k e.t) (.int e.v e.u)) rfl rfl
  have h5 := get_upd (fset 0 (rawInt h.objs.size)) h4 (o' := iiObj (rawInt h.objs.size) (.bool false) d (n + 1) N ep (.int e.k e.t) (.int e.v e.u)) rfl rfl
  have h6 := get_upd (fset 1 (.bool false)) h5 (o' := iiObj (rawInt h.objs.size) (.bool false) d (n + 1) N ep (.int e.k e.t) (.int e.v e.u)) rfl rfl
  refine ⟨?_, h6, ?_, fun b o hb hn => ?_⟩
  · unfold iiH
    rw [upd_size, upd_size, upd_size, upd_size, Heap.size_push, upd_size]; omega
  · unfold iiH
    rw [upd_other _ (Nat.ne_of_gt hl), upd_other _ (Nat.ne_of_gt hl), upd_other _ (Nat.ne_of_gt hl), upd_other _ (Nat.ne_of_gt hl)]
    rw [show h.objs.size = (h.update it (fset 3 (rawInt ((n : Int) + 1)))).objs.size from (upd_size ..).symm]
    exact Heap.get?_push_size _ rfl
  · unfold iiH
    rw [upd_other _ hn, upd_other _ hn, upd_other _ hn, upd_other _ hn]
    exact Heap.get?_push_of_some _ ((upd_other _ hn).trans hb)

theorem any_iiEnd {it d n ep : Nat} {f0 f1 ok ov cls : Value} {dd : Option Nat} {es : List E} (hh : A.handled = none) (hit : s.heap.get? it = some (iiObj f0 f1 d n (eln es) ep ok ov)) (hd : s.heap.get? d = some (dObj cls dd es ep)) (he : es[n]? = none)
    {EE : Value → Shared → Prop} (h : EE (.ref (s.heap.objs.size + 1)) { s with heap := ((s.heap.update it (fset 2 .none)).push (tupObj [])).push (stopObj s.heap.objs.size) }) : wpAny (model p w) A (Builtin.«dict_itemiterator.__next__» ⟨[.ref it], []⟩) Q EE s := by
  have hT : s.TypeIs (.ref it) "dict_itemiterator" := ⟨_, hit, rfl⟩
  refine wpAny_bind (wpAny_pure ?_)
  refine wpAny_bind ?_
  refine wpAny_bind ?_
  first | refine wpAny_bind (wpAny_typeNameOfWhole_itemiter hT (wpAny_pure ?_)) | refine wpAny_bind (wpAny_typeNameOf_itemiter hT (wpAny_pure ?_))
  refine wpAny_bind (wpAny_fieldsOf hit rfl ?_)
  have hown : Builtin.Dict_items.ownsTuple "dict_itemiterator" = true := by decide
  simp only [hown, if_true]
  show wpAny _ _ (if (Value.ref d == Value.none) = true then _ else _) _ _ _
  rw [if_neg (show ¬ ((Value.ref d == Value.none) = true) from Bool.false_ne_true)]
  refine wpAny_bind (wpAny_pure ?_)
  refine wpAny_bind (wpAny_dictEntries hd rfl ?_)
  have hsz : (⟨es.map ent⟩ : Array DictEntry).size = eln es := rfl
  rw [if_neg (by rw [hsz]; simp)]
  refine wpAny_bind (wpAny_pure ?_)
  refine wpAny_bind (wpAny_dictEpoch hd rfl ?_)
  rw [if_neg (by simp)]
  refine wpAny_pure ?_
  have hx : (⟨es.map ent⟩ : Array DictEntry)[n]? = none := by simpa using he
  simp only [show ¬ ((n : Int) < 0) from by omega, if_false, Int.toNat_natCast, hx]
  refine wpAny_bind ?_
  first | refine wpAny_bind (wpAny_typeNameOfWhole_itemiter hT (wpAny_pure ?_)) | refine wpAny_bind (wpAny_typeNameOf_itemiter hT (wpAny_pure ?_))
  show wpAny _ _ (setField (.ref it) 2 .none >>= _) _ _ s
  refine wpAny_bind (wpAny_setField hit rfl (by simp) ?_)
  show wpAny _ _ (newExc (.type "StopIteration") [] >>= _) _ _ _
  refine wpAny_bind ?_
  simp only [newExc, newTuple]
  refine wpAny_bind (wpAny_newObj_type ?_ (by size_fits))
  refine wpAny_bind (m := firstArgMember _ _) (wpAny_of_eq (a := Value.none) (by first | rfl | (simp only [firstArgMember]; rfl)) ?_)
  refine wpAny_newObj_type ?_ (by size_fits)
  simp only [raiseNew]
  refine wpAny_bind (wpAny_handled ?_)
  rw [hh]
  refine wpAny_bind (wpAny_pure (wpAny_throw ?_))
  have z1 := upd_size s.heap it (fset 2 .none)
  have z2 : ((s.heap.update it (fset 2 .none)).push (tupObj [])).objs.size = s.heap.objs.size + 1 := by rw [Heap.size_push, z1]
  have := h
  rw [← z2] at this
  rw [← z1] at this
  exact this
end

/-- the next of a dict's items, the owner's tuple being free -/
noncomputable def sIiNext (i j it d n : Nat) (cls : Value) (dd : Option Nat) (es : List E) (ep : Nat) (ok ov : Value) (e : E) (sz : Nat) : Summ :=
  { code := cNext "dict_itemiterator.__next__" it, res := .ok (.ret (.ref sz)), pre := [(i, it, iiObj .none (.bool false) d n (eln es) ep ok ov), (j, d, dObj cls dd es ep)],
    post := [(i, it, iiObj (rawInt sz) (.bool false) d (n + 1) (eln es) ep (.int e.k e.t) (.int e.v e.u))], new := [(0, tupObj (kv e))], dl := 1 }
noncomputable def sIiEnd (i j it d n : Nat) (f0 f1 cls : Value) (dd : Option Nat) (es : List E) (ep : Nat) (ok ov : Value) (sz : Nat) : Summ :=
  { code := cNext "dict_itemiterator.__next__" it, res := .error (.ref (sz + 1)), pre := [(i, it, iiObj f0 f1 d n (eln es) ep ok ov), (j, d, dObj cls dd es ep)],
    post := [(i, it, iiEnd (iiObj f0 f1 d n (eln es) ep ok ov))], new := [(0, tupObj []), (1, stopObj sz)], dl := 2 }
variable {p : Program} {w : World} {K : Nat → Option Obj}
theorem sIiNext_ok {i j it d n : Nat} {cls : Value} {dd : Option Nat} {es : List E} {ep : Nat} {ok ov : Value} {e : E} (he : es[n]? = some e) (sz tok : Nat) : (sIiNext i j it d n cls dd es ep ok ov e sz).Valid (mdl p w) K sz tok := by
  refine Summ.ofAny rfl rfl fun s hpre hs ht => ?_
  have h1 : s.heap.get? it = some (iiObj .none (.bool false) d n (eln es) ep ok ov) := hpre (i, it, _) (List.mem_cons_self)
  have h2 : s.heap.get? d = some (dObj cls dd es ep) := hpre (j, d, _) (List.mem_cons_of_mem _ (List.mem_singleton.mpr rfl))
  obtain ⟨a1, a2, a3, a4⟩ := iiH_spec (e := e) h1
  refine ⟨iiH s.heap it n e, fun A hA => any_builtin F.entry_dict_itemiterator_next (any_iiNext h1 h2 he ⟨_, rfl, by subst hs; rfl, by subst ht; rfl⟩), by rw [a1, hs]; show 1 + sz = 0 + sz + 1; omega, fun q hq => ?_, fun q hq => ?_, fun b o hb hn => a4 b o hb fun z => hn (i, it, _) (List.mem_singleton.mpr rfl) z.symm⟩
  · rw [List.mem_singleton.mp hq, ← hs]; exact a2
  · rw [List.mem_singleton.mp hq, ← hs]; exact a3
theorem sIiEnd_ok {i j it d n : Nat} {f0 f1 cls : Value} {dd : Option Nat} {es : List E} {ep : Nat} {ok ov : Value} (he : es[n]? = none) (sz tok : Nat) : (sIiEnd i j it d n f0 f1 cls dd es ep ok ov sz).Valid (mdl p w) K sz tok := by
  refine Summ.ofAny rfl rfl fun s hpre hs ht => ?_
  have h1 : s.heap.get? it = some (iiObj f0 f1 d n (eln es) ep ok ov) := hpre (i, it, _) (List.mem_cons_self)
  have h2 : s.heap.get? d = some (dObj cls dd es ep) := hpre (j, d, _) (List.mem_cons_of_mem _ (List.mem_singleton.mpr rfl))
  have z1 := upd_size s.heap it (fset 2 .none)
  have z2 : ((s.heap.update it (fset 2 .none)).push (tupObj [])).objs.size = s.heap.objs.size + 1 := by rw [Heap.size_push, z1]
  refine ⟨_, fun A hA => any_builtin F.entry_dict_itemiterator_next (any_iiEnd hA h1 h2 he ⟨by subst hs; rfl, by subst ht; rfl⟩), ?_, fun q hq => ?_, fun q hq => ?_, fun b o hb hn => ?_⟩
  · rw [Heap.size_push, z2, hs]; show _ = 0 + sz + 2; omega
  · rw [List.mem_singleton.mp hq]
    exact Heap.get?_push_of_some _ (Heap.get?_push_of_some _ (get_upd _ h1 rfl rfl))
  · simp only [sIiEnd, List.mem_cons, List.not_mem_nil, or_false] at hq
    rcases hq with rfl | rfl
    · refine Heap.get?_push_of_some _ ?_
      show Heap.get? _ (sz + 0) = _
      rw [Nat.add_zero, ← hs, ← z1]
      exact Heap.get?_push_size _ rfl
    · show Heap.get? _ (sz + 1) = some (stopObj sz)
      rw [← hs, ← z2]
      exact Heap.get?_push_size _ rfl
  · exact Heap.get?_push_of_some _ (Heap.get?_push_of_some _ ((upd_other _ fun z => hn (i, it, _) (List.mem_singleton.mpr rfl) z.symm).trans hb))

section
variable {A : Around} {EE : Value → Shared → Prop} {s : Shared} {Q : PySem.Fin → Shared → Prop}
theorem any_KiNext {it d n ep : Nat} {cls : Value} {dd : Option Nat} {es : List E} {e : E} (hit : s.heap.get? it = some (kiObj d n (eln es) ep)) (hd : s.heap.get? d = some (dObj cls dd es ep)) (he : es[n]? = some e)
    (h : Q (Fin.done (.ret (.int e.k e.t))) { s with heap := s.heap.update it (fset 1 (rawInt ((n : Int) + 1))) }) : wpAny (model p w) A (Builtin.«dict_keyiterator.__next__» ⟨[.ref it], []⟩) Q EE s := by
  have hT : s.TypeIs (.ref it) "dict_keyiterator" := ⟨_, hit, rfl⟩
  refine wpAny_bind (wpAny_pure ?_)
  refine wpAny_bind ?_
  refine wpAny_bind ?_
  first | refine wpAny_bind (wpAny_typeNameOfWhole_keyiter hT (wpAny_pure ?_)) | refine wpAny_bind (wpAny_typeNameOf_keyiter hT (wpAny_pure ?_))
  refine wpAny_bind (wpAny_fieldsOf hit rfl ?_)
  have hown : Builtin.Dict_items.ownsTuple "dict_keyiterator" = false := by decide
  simp only [hown, Bool.false_eq_true, if_false]
  show wpAny _ _ (if (Value.ref d == Value.none) = true then _ else _) _ _ s
  rw [if_neg (show ¬ ((Value.ref d == Value.none) = true) from Bool.false_ne_true)]
  refine wpAny_bind (wpAny_pure ?_)
  refine wpAny_bind (wpAny_dictEntries hd rfl ?_)
  have hsz : (⟨es.map ent⟩ : Array DictEntry).size = eln es := rfl
  rw [if_neg (by rw [hsz]; simp)]
  refine wpAny_bind (wpAny_pure ?_)
  refine wpAny_bind (wpAny_dictEpoch hd rfl ?_)
  rw [if_neg (by simp)]
  refine wpAny_pure ?_
  have hx : (⟨es.map ent⟩ : Array DictEntry)[n]? = some (ent e) := by simp [he]
  simp only [show ¬ ((n : Int) < 0) from by omega, if_false, Int.toNat_natCast, hx]
  refine wpAny_bind ?_
  first | refine wpAny_bind (wpAny_typeNameOfWhole_keyiter hT (wpAny_pure ?_)) | refine wpAny_bind (wpAny_typeNameOf_keyiter hT (wpAny_pure ?_))
  refine wpAny_bind (wpAny_isOneOf_keyiter hT ?_)
  show wpAny _ _ (setField (.ref it) 1 (rawInt ((n : Int) + 1)) >>= _) _ _ s
  refine wpAny_bind (wpAny_setField hit rfl (by simp) ?_)
  have hT₁ : Shared.TypeIs { s with heap := s.heap.update it (fset 1 (rawInt ((n : Int) + 1))) } (.ref it) "dict_keyiterator" := ⟨_, get_upd _ hit rfl rfl, rfl⟩
  refine wpAny_bind (wpAny_holding ?_)
  refine wpAny_bind (wpAny_isOneOf_keyiter hT₁ ?_)
  show wpAny _ _ (pure (ent e).key) _ _ _
  exact wpAny_pure (wpAny_pure h)

theorem any_KiEnd {it d n ep : Nat} {cls : Value} {dd : Option Nat} {es : List E} (hh : A.handled = none) (hit : s.heap.get? it = some (kiObj d n (eln es) ep)) (hd : s.heap.get? d = some (dObj cls dd es ep)) (he : es[n]? = none)
    (h : EE (.ref (s.heap.objs.size + 1)) { s with heap := ((s.heap.update it (fset 0 .none)).push (tupObj [])).push (stopObj s.heap.objs.size) }) : wpAny (model p w) A (Builtin.«dict_keyiterator.__next__» ⟨[.ref it], []⟩) Q EE s := by
  have hT : s.TypeIs (.ref it) "dict_keyiterator" := ⟨_, hit, rfl⟩
  refine wpAny_bind (wpAny_pure ?_)
  refine wpAny_bind ?_
  refine wpAny_bind ?_
  first | refine wpAny_bind (wpAny_typeNameOfWhole_keyiter hT (wpAny_pure ?_)) | refine wpAny_bind (wpAny_typeNameOf_keyiter hT (wpAny_pure ?_))
  refine wpAny_bind (wpAny_fieldsOf hit rfl ?_)
  have hown : Builtin.Dict_items.ownsTuple "dict_keyiterator" = false := by decide
  simp only [hown, Bool.false_eq_true, if_false]
  show wpAny _ _ (if (Value.ref d == Value.none) = true then _ else _) _ _ s
  rw [if_neg (show ¬ ((Value.ref d == Value.none) = true) from Bool.false_ne_true)]
  refine wpAny_bind (wpAny_pure ?_)
  refine wpAny_bind (wpAny_dictEntries hd rfl ?_)
  have hsz : (⟨es.map ent⟩ : Array DictEntry).size = eln es := rfl
  rw [if_neg (by rw [hsz]; simp)]
  refine wpAny_bind (wpAny_pure ?_)
  refine wpAny_bind (wpAny_dictEpoch hd rfl ?_)
  rw [if_neg (by simp)]
  refine wpAny_pure ?_
  have hx : (⟨es.map ent⟩ : Array DictEntry)[n]? = none := by simpa using he
  simp only [show ¬ ((n : Int) < 0) from by omega, if_false, Int.toNat_natCast, hx]
  refine wpAny_bind ?_
  first | refine wpAny_bind (wpAny_typeNameOfWhole_keyiter hT (wpAny_pure ?_)) | refine wpAny_bind (wpAny_typeNameOf_keyiter hT (wpAny_pure ?_))
  show wpAny _ _ (setField (.ref it) 0 .none >>= _) _ _ s
  refine wpAny_bind (wpAny_setField hit rfl (by simp) ?_)
  show wpAny _ _ (newExc (.type "StopIteration") [] >>= _) _ _ _
  refine wpAny_bind ?_
  simp only [newExc, newTuple]
  refine wpAny_bind (wpAny_newObj_type ?_ (by size_fits))
  refine wpAny_bind (m := firstArgMember _ _) (wpAny_of_eq (a := Value.none) (by first | rfl | (simp only [firstArgMember]; rfl)) ?_)
  refine wpAny_newObj_type ?_ (by size_fits)
  simp only [raiseNew]
  refine wpAny_bind (wpAny_handled ?_)
  rw [hh]
  refine wpAny_bind (wpAny_pure (wpAny_throw ?_))
  have z1 := upd_size s.heap it (fset 0 .none)
  have z2 : ((s.heap.update it (fset 0 .none)).push (tupObj [])).objs.size = s.heap.objs.size + 1 := by rw [Heap.size_push, z1]
  have := h
  rw [← z2] at this
  rw [← z1] at this
  exact this
end
noncomputable def KiEnd : Obj → Obj
  | ⟨c, d, .fields ⟨_ :: r⟩, s⟩ => ⟨c, d, .fields ⟨.none :: r⟩, s⟩
  | o => o
noncomputable def sKiNext (i j it d n : Nat) (cls : Value) (dd : Option Nat) (es : List E) (ep : Nat) (e : E) : Summ :=
  { code := cNext "dict_keyiterator.__next__" it, res := .ok (.ret (.int e.k e.t)), pre := [(i, it, kiObj d n (eln es) ep), (j, d, dObj cls dd es ep)], post := [(i, it, kiObj d (n + 1) (eln es) ep)] }
noncomputable def sKiEnd (i j it d n : Nat) (cls : Value) (dd : Option Nat) (es : List E) (ep sz : Nat) : Summ :=
  { code := cNext "dict_keyiterator.__next__" it, res := .error (.ref (sz + 1)), pre := [(i, it, kiObj d n (eln es) ep), (j, d, dObj cls dd es ep)],
    post := [(i, it, KiEnd (kiObj d n (eln es) ep))], new := [(0, tupObj []), (1, stopObj sz)], dl := 2 }
theorem sKiNext_ok {i j it d n : Nat} {cls : Value} {dd : Option Nat} {es : List E} {ep : Nat} {e : E} (he : es[n]? = some e) (sz tok : Nat) : (sKiNext i j it d n cls dd es ep e).Valid (mdl p w) K sz tok := by
  refine Summ.ofAny rfl rfl fun s hpre hs ht => ?_
  have h1 : s.heap.get? it = some (kiObj d n (eln es) ep) := hpre (i, it, _) (List.mem_cons_self)
  have h2 : s.heap.get? d = some (dObj cls dd es ep) := hpre (j, d, _) (List.mem_cons_of_mem _ (List.mem_singleton.mpr rfl))
  refine ⟨_, fun A hA => any_builtin F.entry_dict_keyiterator_next (any_KiNext h1 h2 he ⟨_, rfl, rfl, by subst ht; rfl⟩), by rw [upd_size, hs]; exact (Nat.zero_add _).symm, fun q hq => ?_, (fun q hq => nomatch hq), fun b o hb hn => (upd_other _ fun z => hn (i, it, _) (List.mem_singleton.mpr rfl) z.symm).trans hb⟩
  rw [List.mem_singleton.mp hq]
  exact get_upd _ h1 rfl rfl
theorem sKiEnd_ok {i j it d n : Nat} {cls : Value} {dd : Option Nat} {es : List E} {ep : Nat} (he : es[n]? = none) (sz tok : Nat) : (sKiEnd i j it d n cls dd es ep sz).Valid (mdl p w) K sz tok := by
  refine Summ.ofAny rfl rfl fun s hpre hs ht => ?_
  have h1 : s.heap.get? it = some (kiObj d n (eln es) ep) := hpre (i, it, _) (List.mem_cons_self)
  have h2 : s.heap.get? d = some (dObj cls dd es ep) := hpre (j, d, _) (List.mem_cons_of_mem _ (List.mem_singleton.mpr rfl))
  have z1 := upd_size s.heap it (fset 0 .none)
  have z2 : ((s.heap.update it (fset 0 .none)).push (tupObj [])).objs.size = s.heap.objs.size + 1 := by rw [Heap.size_push, z1]
  refine ⟨_, fun A hA => any_builtin F.entry_dict_keyiterator_next (any_KiEnd hA h1 h2 he ⟨by subst hs; rfl, by subst ht; rfl⟩), ?_, fun q hq => ?_, fun q hq => ?_, fun b o hb hn => ?_⟩
  · rw [Heap.size_push, z2, hs]; show _ = 0 + sz + 2; omega
  · rw [List.mem_singleton.mp hq]
    exact Heap.get?_push_of_some _ (Heap.get?_push_of_some _ (get_upd _ h1 rfl rfl))
  · simp only [sKiEnd, List.mem_cons, List.not_mem_nil, or_false] at hq
    rcases hq with rfl | rfl
    · refine Heap.get?_push_of_some _ ?_
      show Heap.get? _ (sz + 0) = _
      rw [Nat.add_zero, ← hs, ← z1]
      exact Heap.get?_push_size _ rfl
    · show Heap.get? _ (sz + 1) = some (stopObj sz)
      rw [← hs, ← z2]
      exact Heap.get?_push_size _ rfl
  · exact Heap.get?_push_of_some _ (Heap.get?_push_of_some _ ((upd_other _ fun z => hn (i, it, _) (List.mem_singleton.mpr rfl) z.symm).trans hb))

section
variable {A : Around} {EE : Value → Shared → Prop} {s : Shared} {Q : PySem.Fin → Shared → Prop}
theorem any_ViNext {it d n ep : Nat} {cls : Value} {dd : Option Nat} {es : List E} {e : E} (hit : s.heap.get? it = some (viObj d n (eln es) ep)) (hd : s.heap.get? d = some (dObj cls dd es ep)) (he : es[n]? = some e)
    (h : Q (Fin.done (.ret (.int e.v e.u))) { s with heap := s.heap.update it (fset 1 (rawInt ((n : Int) + 1))) }) : wpAny (model p w) A (Builtin.«dict_valueiterator.__next__» ⟨[.ref it], []⟩) Q EE s := by
  have hT : s.TypeIs (.ref it) "dict_valueiterator" := ⟨_, hit, rfl⟩
  refine wpAny_bind (wpAny_pure ?_)
  refine wpAny_bind ?_
  refine wpAny_bind ?_
  first | refine wpAny_bind (wpAny_typeNameOfWhole_valiter hT (wpAny_pure ?_)) | refine wpAny_bind (wpAny_typeNameOf_valiter hT (wpAny_pure ?_))
  refine wpAny_bind (wpAny_fieldsOf hit rfl ?_)
  have hown : Builtin.Dict_items.ownsTuple "dict_valueiterator" = false := by decide
  simp only [hown, Bool.false_eq_true, if_false]
  show wpAny _ _ (if (Value.ref d == Value.none) = true then _ else _) _ _ s
  rw [if_neg (show ¬ ((Value.ref d == Value.none) = true) from Bool.false_ne_true)]
  refine wpAny_bind (wpAny_pure ?_)
  refine wpAny_bind (wpAny_dictEntries hd rfl ?_)
  have hsz : (⟨es.map ent⟩ : Array DictEntry).size = eln es := rfl
  rw [if_neg (by rw [hsz]; simp)]
  refine wpAny_bind (wpAny_pure ?_)
  refine wpAny_bind (wpAny_dictEpoch hd rfl ?_)
  rw [if_neg (by simp)]
  refine wpAny_pure ?_
  have hx : (⟨es.map ent⟩ : Array DictEntry)[n]? = some (ent e) := by simp [he]
  simp only [show ¬ ((n : Int) < 0) from by omega, if_false, Int.toNat_natCast, hx]
  refine wpAny_bind ?_
  first | refine wpAny_bind (wpAny_typeNameOfWhole_valiter hT (wpAny_pure ?_)) | refine wpAny_bind (wpAny_typeNameOf_valiter hT (wpAny_pure ?_))
  refine wpAny_bind (wpAny_isOneOf_valiter hT ?_)
  show wpAny _ _ (setField (.ref it) 1 (rawInt ((n : Int) + 1)) >>= _) _ _ s
  refine wpAny_bind (wpAny_setField hit rfl (by simp) ?_)
  have hT₁ : Shared.TypeIs { s with heap := s.heap.update it (fset 1 (rawInt ((n : Int) + 1))) } (.ref it) "dict_valueiterator" := ⟨_, get_upd _ hit rfl rfl, rfl⟩
  refine wpAny_bind (wpAny_holding ?_)
  refine wpAny_bind (wpAny_isOneOf_valiter hT₁ ?_)
  refine wpAny_bind (wpAny_isOneOf_valiter hT₁ ?_)
  show wpAny _ _ (pure (ent e).val) _ _ _
  exact wpAny_pure (wpAny_pure h)

theorem any_ViEnd {it d n ep : Nat} {cls : Value} {dd : Option Nat} {es : List E} (hh : A.handled = none) (hit : s.heap.get? it = some (viObj d n (eln es) ep)) (hd : s.heap.get? d = some (dObj cls dd es ep)) (he : es[n]? = none)
    (h : EE (.ref (s.heap.objs.size + 1)) { s with heap := ((s.heap.update it (fset 0 .none)).push (tupObj [])).push (stopObj s.heap.objs.size) }) : wpAny (model p w) A (Builtin.«dict_valueiterator.__next__» ⟨[.ref it], []⟩) Q EE s := by
  have hT : s.TypeIs (.ref it) "dict_valueiterator" := ⟨_, hit, rfl⟩
  refine wpAny_bind (wpAny_pure ?_)
  refine wpAny_bind ?_
  refine wpAny_bind ?_
  first | refine wpAny_bind (wpAny_typeNameOfWhole_valiter hT (wpAny_pure ?_)) | refine wpAny_bind (wpAny_typeNameOf_valiter hT (wpAny_pure ?_))
  refine wpAny_bind (wpAny_fieldsOf hit rfl ?_)
  have hown : Builtin.Dict_items.ownsTuple "dict_valueiterator" = false := by decide
  simp only [hown, Bool.false_eq_true, if_false]
  show wpAny _ _ (if (Value.ref d == Value.none) = true then _ else _) _ _ s
  rw [if_neg (show ¬ ((Value.ref d == Value.none) = true) from Bool.false_ne_true)]
  refine wpAny_bind (wpAny_pure ?_)
  refine wpAny_bind (wpAny_dictEntries hd rfl ?_)
  have hsz : (⟨es.map ent⟩ : Array DictEntry).size = eln es := rfl
  rw [if_neg (by rw [hsz]; simp)]
  refine wpAny_bind (wpAny_pure ?_)
  refine wpAny_bind (wpAny_dictEpoch hd rfl ?_)
  rw [if_neg (by simp)]
  refine wpAny_pure ?_
  have hx : (⟨es.map ent⟩ : Array DictEntry)[n]? = none := by simpa using he
  simp only [show ¬ ((n : Int) < 0) from by omega, if_false, Int.toNat_natCast, hx]
  refine wpAny_bind ?_
  first | refine wpAny_bind (wpAny_typeNameOfWhole_valiter hT (wpAny_pure ?_)) | refine wpAny_bind (wpAny_typeNameOf_valiter hT (wpAny_pure ?_))
  show wpAny _ _ (setField (.ref it) 0 .none >>= _) _ _ s
  refine wpAny_bind (wpAny_setField hit rfl (by simp) ?_)
  show wpAny _ _ (newExc (.type "StopIteration") [] >>= _) _ _ _
  refine wpAny_bind ?_
  simp only [newExc, newTuple]
  refine wpAny_bind (wpAny_newObj_type ?_ (by size_fits))
  refine wpAny_bind (m := firstArgMember _ _) (wpAny_of_eq (a := Value.none) (by first | rfl | (simp only [firstArgMember]; rfl)) ?_)
  refine wpAny_newObj_type ?_ (by size_fits)
  simp only [raiseNew]
  refine wpAny_bind (wpAny_handled ?_)
  rw [hh]
  refine wpAny_bind (wpAny_pure (wpAny_throw ?_))
  have z1 := upd_size s.heap it (fset 0 .none)
  have z2 : ((s.heap.update it (fset 0 .none)).push (tupObj [])).objs.size = s.heap.objs.size + 1 := by rw [Heap.size_push, z1]
  have := h
  rw [← z2] at this
  rw [← z1] at this
  exact this
end
noncomputable def ViEnd : Obj → Obj
  | ⟨c, d, .fields ⟨_ :: r⟩, s⟩ => ⟨c, d, .fields ⟨.none :: r⟩, s⟩
  | o => o
noncomputable def sViNext (i j it d n : Nat) (cls : Value) (dd : Option Nat) (es : List E) (ep : Nat) (e : E) : Summ :=
  { code := cNext "dict_valueiterator.__next__" it, res := .ok (.ret (.int e.v e.u)), pre := [(i, it, viObj d n (eln es) ep), (j, d, dObj cls dd es ep)], post := [(i, it, viObj d (n + 1) (eln es) ep)] }
noncomputable def sViEnd (i j it d n : Nat) (cls : Value) (dd : Option Nat) (es : List E) (ep sz : Nat) : Summ :=
  { code := cNext "dict_valueiterator.__next__" it, res := .error (.ref (sz + 1)), pre := [(i, it, viObj d n (eln es) ep), (j, d, dObj cls dd es ep)],
    post := [(i, it, ViEnd (viObj d n (eln es) ep))], new := [(0, tupObj []), (1, stopObj sz)], dl := 2 }
theorem sViNext_ok {i j it d n : Nat} {cls : Value} {dd : Option Nat} {es : List E} {ep : Nat} {e : E} (he : es[n]? = some e) (sz tok : Nat) : (sViNext i j it d n cls dd es ep e).Valid (mdl p w) K sz tok := by
  refine Summ.ofAny rfl rfl fun s hpre hs ht => ?_
  have h1 : s.heap.get? it = some (viObj d n (eln es) ep) := hpre (i, it, _) (List.mem_cons_self)
  have h2 : s.heap.get? d = some (dObj cls dd es ep) := hpre (j, d, _) (List.mem_cons_of_mem _ (List.mem_singleton.mpr rfl))
  refine ⟨_, fun A hA => any_builtin F.entry_dict_valueiterator_next (any_ViNext h1 h2 he ⟨_, rfl, rfl, by subst ht; rfl⟩), by rw [upd_size, hs]; exact (Nat.zero_add _).symm, fun q hq => ?_, (fun q hq => nomatch hq), fun b o hb hn => (upd_other _ fun z => hn (i, it, _) (List.mem_singleton.mpr rfl) z.symm).trans hb⟩
  rw [List.mem_singleton.mp hq]
  exact get_upd _ h1 rfl rfl
theorem sViEnd_ok {i j it d n : Nat} {cls : Value} {dd : Option Nat} {es : List E} {ep : Nat} (he : es[n]? = none) (sz tok : Nat) : (sViEnd i j it d n cls dd es ep sz).Valid (mdl p w) K sz tok := by
  refine Summ.ofAny rfl rfl fun s hpre hs ht => ?_
  have h1 : s.heap.get? it = some (viObj d n (eln es) ep) := hpre (i, it, _) (List.mem_cons_self)
  have h2 : s.heap.get? d = some (dObj cls dd es ep) := hpre (j, d, _) (List.mem_cons_of_mem _ (List.mem_singleton.mpr rfl))
  have z1 := upd_size s.heap it (fset 0 .none)
  have z2 : ((s.heap.update it (fset 0 .none)).push (tupObj [])).objs.size = s.heap.objs.size + 1 := by rw [Heap.size_push, z1]
  refine ⟨_, fun A hA => any_builtin F.entry_dict_valueiterator_next (any_ViEnd hA h1 h2 he ⟨by subst hs; rfl, by subst ht; rfl⟩), ?_, fun q hq => ?_, fun q hq => ?_, fun b o hb hn => ?_⟩
  · rw [Heap.size_push, z2, hs]; show _ = 0 + sz + 2; omega
  · rw [List.mem_singleton.mp hq]
    exact Heap.get?_push_of_some _ (Heap.get?_push_of_some _ (get_upd _ h1 rfl rfl))
  · simp only [sViEnd, List.mem_cons, List.not_mem_nil, or_false] at hq
    rcases hq with rfl | rfl
    · refine Heap.get?_push_of_some _ ?_
      show Heap.get? _ (sz + 0) = _
      rw [Nat.add_zero, ← hs, ← z1]
      exact Heap.get?_push_size _ rfl
    · show Heap.get? _ (sz + 1) = some (stopObj sz)
      rw [← hs, ← z2]
      exact Heap.get?_push_size _ rfl
  · exact Heap.get?_push_of_some _ (Heap.get?_push_of_some _ ((upd_other _ fun z => hn (i, it, _) (List.mem_singleton.mpr rfl) z.symm).trans hb))
end Mine
namespace Mine
open PySem PySem.W

/-- a turn of a for loop, the element drawn -/
noncomputable def forRest (target : Expr) (it : Value) (body orelse : List Stmt) (env : Env) (v : Value) : Sem PySem.Fin := (do
    assign target env v
    match ← execs body env with
    | .next | .cont => again (.forLoop target it body orelse env)
    | .brk => pure (.done .next)
    | .ret v => pure (.done (.ret v))).onRaise (fun x => do noteFrame x env; theTreesLotGoes x)
noncomputable def forMid (target : Expr) (it : Value) (body orelse : List Stmt) (env : Env) (v : Value) : Sem PySem.Fin := (do
    letOwnedTupleGo target it v
    assign target env v
    match ← execs body env with
    | .next | .cont => again (.forLoop target it body orelse env)
    | .brk => pure (.done .next)
    | .ret v => pure (.done (.ret v))).onRaise (fun x => do noteFrame x env; theTreesLotGoes x)
end Mine
lay_quick Mine.forRest
lay_quick Mine.forMid
namespace Mine
open PySem PySem.W
noncomputable abbrev tMid := PySem.W.Fast.tw12322185367471508804
noncomputable abbrev tRest := PySem.W.Fast.tw9001001244066886538
theorem tMid_eq : tMid = forMid := PySem.W.Fast.te12322185367471508804.symm
theorem tRest_eq : tRest = forRest := PySem.W.Fast.te9001001244066886538.symm

theorem let_comes {p : Program} {w : World} {s : Shared} {it d a n N ep : Nat} {f1 ok ov : Value} {elts : List Expr} {x1} {ps : Pos} (f : Unit → Sem PySem.Fin) (H : Value → Sem Unit) (code : Code) (pos : Pos) (st : List Frame)
    (ho : s.heap.get? it = some (iiObj (rawInt a) f1 d n N ep ok ov)) :
    Comes (mdl p w) s ⟨((letOwnedTupleGo (.Tuple elts x1 ps) (.ref it) (.ref a)).bind f).onRaise H, code, pos, st⟩ { s with heap := s.heap.update it (fset 0 .none) } ⟨(f ()).onRaise H, code, pos, st⟩ := by
  have h1 : (["enumerate", "zip", "dict_itemiterator", "dict_reverseitemiterator", "odict_iterator", "itertools.zip_longest", "itertools.pairwise"].contains "dict_itemiterator" &&
      (#[rawInt a, f1, .ref d, .int n 0, .int N 0, .int ep 0, ok, ov] : Array Value)[0]? == some (rawInt a)) = true := by simp
  refine Comes.step (step_load (M := mdl p w) _ _ _ _ none _ ho) ?_
  show Comes (mdl p w) s ⟨((if (["enumerate", "zip", "dict_itemiterator", "dict_reverseitemiterator", "odict_iterator", "itertools.zip_longest", "itertools.pairwise"].contains "dict_itemiterator" &&
      (#[rawInt a, f1, .ref d, .int n 0, .int N 0, .int ep 0, ok, ov] : Array Value)[0]? == some (rawInt a)) = true then (do rule "for.unpacks-the-owned-tuple"; updateField it 0 .none) else pure ()).bind f).onRaise H, code, pos, st⟩ _ _
  rw [if_pos h1]
  refine Comes.step (step_rule (M := mdl p w) ..) ?_
  refine Comes.step (step_load (M := mdl p w) _ _ _ _ none _ ho) ?_
  show Comes (mdl p w) s ⟨((if 0 < (#[rawInt a, f1, .ref d, .int n 0, .int N 0, .int ep 0, ok, ov] : Array Value).size then update it (Obj.mapFields (·.setIfInBounds 0 .none)) else unsupported "internal:no-such-field").bind f).onRaise H, code, pos, st⟩ _ _
  rw [if_pos (by simp)]
  exact Comes.step (step_update (M := mdl p w) _ _ _ _ none _ _ (by rw [ho]; rfl)) (.refl _ _)

noncomputable def tupE : Expr → List Expr
  | .Tuple e _ _ => e
  | _ => []
noncomputable def tupX : Expr → Expr
  | .Tuple e x p => .Tuple e x p
  | e => e
/-- the owner lets its tuple go -/
noncomputable def mFor (i it d n N ep a : Nat) (f1 ok ov : Value) (target : Expr) (body orelse : List Stmt) (env : Env) : Mid :=
  { X := tMid target (.ref it) body orelse env (.ref a), Y := tRest target (.ref it) body orelse env (.ref a), pre := [(i, it, iiObj (rawInt a) f1 d n N ep ok ov)], post := [(i, it, iiObj .none f1 d n N ep ok ov)] }
theorem mFor_ok {p : Program} {w : World} {K : Nat → Option Obj} {i it d n N ep a : Nat} {f1 ok ov : Value} {target : Expr} {body orelse : List Stmt} {env : Env} (hT : ∃ e x p, target = .Tuple e x p) (sz tok : Nat) :
    (mFor i it d n N ep a f1 ok ov target body orelse env).Valid (mdl p w) K sz tok := by
  obtain ⟨e, x, q, rfl⟩ := hT
  intro s code pos st hK hpre hpo hs ht hb
  have h1 : s.heap.get? it = some (iiObj (rawInt a) f1 d n N ep ok ov) := hpre (i, it, _) (List.mem_singleton.mpr rfl)
  refine ⟨s.heap.update it (fset 0 .none), ?_, (upd_size ..).trans hs, fun r hr => ?_, fun b o hb' hn => (upd_other _ fun z => hn (i, it, _) (List.mem_singleton.mpr rfl) z.symm).trans hb'⟩
  · have hX : (mFor i it d n N ep a f1 ok ov (.Tuple e x q) body orelse env).X = forMid (.Tuple e x q) (.ref it) body orelse env (.ref a) := by unfold mFor; rw [← tMid_eq]
    have hY : (mFor i it d n N ep a f1 ok ov (.Tuple e x q) body orelse env).Y = forRest (.Tuple e x q) (.ref it) body orelse env (.ref a) := by unfold mFor; rw [← tRest_eq]
    rw [hX, hY]
    exact let_comes _ _ code pos st h1
  · rw [List.mem_singleton.mp hr]
    exact get_upd _ h1 rfl rfl
end Mine
namespace Mine
open PySem PySem.W

noncomputable def importT (tb : String → Option Builtin) (p : Program) (w : World) : Nat → SharedT → Thread → Option SharedT
  | 0, _, _ => none
  | n + 1, s, t => match t.atExitBegin with
    | some [] => some s
    | some (_ :: _) => none
    | none => match stepT (denote tb) p w s t with
      | some (s', t') => importT tb p w n s' t'
      | none => none
theorem importT_spec {tb : String → Option Builtin} {p : Program} {w : World} : ∀ {n : Nat} {s s' : SharedT} {t : Thread}, importT tb p w n s t = some s' → importEnds tb p w n s.abs t = some s'.abs
  | 0, _, _, _, h => by cases h
  | n + 1, s, s', t, h => by
    unfold importT at h
    unfold importEnds
    cases he : t.atExitBegin with
    | some x =>
      rw [he] at h
      cases x with
      | nil => cases h; rfl
      | cons => cases h
    | none =>
      rw [he] at h
      cases hs : stepT (denote tb) p w s t with
      | none => rw [hs] at h; cases h
      | some r => obtain ⟨s₂, t₂⟩ := r; rw [hs] at h; dsimp only; rw [stepT_spec hs]; exact importT_spec h
noncomputable def topT (tb : String → Option Builtin) (p : Program) (w : World) (n₀ : Nat) (ann : Option Value) : Nat → SharedT → Thread → Option SharedT
  | 0, _, _ => none
  | n + 1, s, t => match through t with
    | true => some s
    | false => match stepOk n₀ ann t with
      | false => none
      | true => match stepT (denote tb) p w s t with
        | some (s', t') => topT tb p w n₀ ann n s' t'
        | none => none
theorem topT_spec {tb : String → Option Builtin} {p : Program} {w : World} {n₀ : Nat} {ann : Option Value} : ∀ {n : Nat} {s s' : SharedT} {t : Thread}, topT tb p w n₀ ann n s t = some s' → topRun tb p w n₀ ann n s.abs t = some s'.abs
  | 0, _, _, _, h => by cases h
  | n + 1, s, s', t, h => by
    unfold topT at h
    unfold topRun
    cases he : through t with
    | true => rw [he] at h; cases h; rfl
    | false =>
      rw [he] at h
      cases hk : stepOk n₀ ann t with
      | false => rw [hk] at h; cases h
      | true =>
        rw [hk] at h
        cases hs : stepT (denote tb) p w s t with
        | none => rw [hs] at h; cases h
        | some r => obtain ⟨s₂, t₂⟩ := r; rw [hs] at h; dsimp only; rw [stepT_spec hs]; exact topT_spec h

noncomputable def fenceT (m : Str) (s : SharedT) : Option SharedT :=
  match boundIn s.abs.heap sysModules m, tameNamesOf? m with
  | some (.ref a), some row => (match s.abs.heap.get? a with
    | some o => (match o.dict with
      | some D => (match Nat.blt D s.n with
        | true => (match s.tree.get D with
          | some od => (match alive od with
            | some od => (fenceDict? m row od).map fun od' => { s with tree := s.tree.set D fun _ => od' }
            | none => none)
          | none => none)
        | false => none)
      | none => none)
    | none => none)
  | _, _ => none
theorem fenceT_spec {m : Str} {s s' : SharedT} (h : fenceT m s = some s') : fenceModule? m s.abs = some s'.abs := by
  unfold fenceT at h
  unfold fenceModule?
  split at h
  · rename_i a row h1 h2
    rw [h1, h2]
    dsimp only
    split at h
    · rename_i o h3
      rw [h3]
      dsimp only
      split at h
      · rename_i D h4
        rw [h4]
        dsimp only
        split at h
        · rename_i lt
          have lt : D < s.n := Nat.le_of_ble_eq_true lt
          split at h
          · rename_i od h5
            split at h
            · rename_i od2 h6
              have g : s.abs.heap.get? D = some od2 := by
                show (absHeap s.tree s.n s.life).get? D = _
                rw [abs_get lt h5, h6]
              rw [g]
              dsimp only
              obtain ⟨od', e, rfl⟩ := Option.map_eq_some_iff.mp h
              rw [e]
              show some _ = some _
              congr 1
              show Shared.mk _ _ _ _ _ = Shared.mk _ _ _ _ _
              congr 1
              exact (absHeap_set h5).symm
            · cases h
          · cases h
        · cases h
      · cases h
    · cases h
  · cases h
noncomputable def fenceAllT : List Str → SharedT → Option SharedT
  | [], s => some s
  | m :: r, s => match fenceT m s with
    | some s' => fenceAllT r s'
    | none => none
theorem fenceAllT_spec : ∀ {l : List Str} {s s' : SharedT}, fenceAllT l s = some s' → fenceAll? l s.abs = some s'.abs
  | [], _, _, h => by cases h; rfl
  | m :: r, s, s', h => by
    unfold fenceAllT at h
    unfold fenceAll?
    cases e : fenceT m s with
    | none => rw [e] at h; cases h
    | some s₂ => rw [e] at h; rw [fenceT_spec e]; exact fenceAllT_spec h

/-- the opening, the fence and the top, over a tree -/
noncomputable def startT (p : Program) : SharedT := ⟨.nil, 0, {}, #[], {}, 1, (start p).1.os⟩
theorem startT_abs (p : Program) : (startT p).abs = (start p).1 := rfl
noncomputable def whole (p : Program) (w : World) (A B : Nat) : Option (SharedT × SharedT) :=
  match importT treeTable (opening p) w A (startT (opening p)) (start (opening p)).2 with
  | some s => match p.main.body.any namesNumpy with
    | true => none
    | false => match fenceAllT (importedModules p.main.body) s with
      | some s₀ => match topT treeTable p w s₀.n (s₀.abs.heap.nsMap mainGlobals "__annotations__") B s₀ (topStub p) with
        | some s₁ => some (s₀, s₁)
        | none => none
      | none => none
  | none => none
theorem whole_spec {p : Program} {w : World} {A B : Nat} {s₀ s₁ : SharedT} (h : whole p w A B = some (s₀, s₁)) :
    fencedOpening treeTable p w A = some s₀.abs ∧ topRun treeTable p w s₀.abs.heap.objs.size (s₀.abs.heap.nsMap mainGlobals "__annotations__") B s₀.abs (topStub p) = some s₁.abs := by
  unfold whole at h
  split at h
  · rename_i s e
    split at h
    · cases h
    · rename_i hn
      split at h
      · rename_i s₀' e2
        split at h
        · rename_i s₁' e3
          cases h
          refine ⟨?_, ?_⟩
          · unfold fencedOpening
            have := importT_spec e
            rw [startT_abs] at this
            rw [this]
            show fenceModules? p s.abs = _
            unfold fenceModules?
            rw [fenceAllT_spec e2]
            show (if p.main.body.any namesNumpy = true then _ else _) = _
            rw [hn]; rfl
          · have := topT_spec e3
            have hz : s₀.abs.heap.objs.size = s₀.n := absHeap_size ..
            rw [hz]; exact this
        · cases h
      · cases h
  · cases h
end Mine
namespace Mine
open PySem PySem.W
noncomputable abbrev pw : Program := PySem.Challenge.pw_io0001_02
noncomputable def stm (b : List Stmt) (i : Nat) : Stmt := b.getD i (.Pass default)
noncomputable def sBody : Stmt → List Stmt
  | .FunctionDef _ _ b .. => b
  | .ClassDef _ _ _ b .. => b
  | _ => []
noncomputable def sArgs : Stmt → Arguments
  | .FunctionDef _ a .. => a
  | _ => default
noncomputable def sScope : Stmt → Scope
  | .FunctionDef _ _ _ _ _ _ s .. => s
  | _ => default
noncomputable def de (P : Params) (s : Str) (t : Nat) (v : Value) : DictEntry := ⟨PyData.keyHash P s, .str s t, v⟩
noncomputable def z0 : Str := ⟨⟨[95, 95, 110, 97, 109, 101, 95, 95]⟩⟩
noncomputable def z1 : Str := ⟨⟨[98, 117, 105, 108, 116, 105, 110, 115]⟩⟩
noncomputable def z2 : Str := ⟨⟨[95, 95, 100, 111, 99, 95, 95]⟩⟩
noncomputable def z3 : Str := ⟨⟨[95, 95, 112, 97, 99, 107, 97, 103, 101, 95, 95]⟩⟩
noncomputable def z4 : Str := ⟨⟨[95, 95, 108, 111, 97, 100, 101, 114, 95, 95]⟩⟩
noncomputable def z5 : Str := ⟨⟨[95, 95, 115, 112, 101, 99, 95, 95]⟩⟩
noncomputable def z6 : Str := ⟨⟨[95, 95, 98, 117, 105, 108, 100, 95, 99, 108, 97, 115, 115, 95, 95]⟩⟩
noncomputable def z7 : Str := ⟨⟨[95, 95, 105, 109, 112, 111, 114, 116, 95, 95]⟩⟩
noncomputable def z8 : Str := ⟨⟨[97, 98, 115]⟩⟩
noncomputable def z9 : Str := ⟨⟨[97, 108, 108]⟩⟩
noncomputable def z10 : Str := ⟨⟨[97, 110, 121]⟩⟩
noncomputable def z11 : Str := ⟨⟨[97, 115, 99, 105, 105]⟩⟩
noncomputable def z12 : Str := ⟨⟨[98, 105, 110]⟩⟩
noncomputable def z13 : Str := ⟨⟨[98, 114, 101, 97, 107, 112, 111, 105, 110, 116]⟩⟩
noncomputable def z14 : Str := ⟨⟨[99, 97, 108, 108, 97, 98, 108, 101]⟩⟩
noncomputable def z15 : Str := ⟨⟨[99, 104, 114]⟩⟩
noncomputable def z16 : Str := ⟨⟨[99, 111, 109, 112, 105, 108, 101]⟩⟩
noncomputable def z17 : Str := ⟨⟨[100, 101, 108, 97, 116, 116, 114]⟩⟩
noncomputable def z18 : Str := ⟨⟨[100, 105, 114]⟩⟩
noncomputable def z19 : Str := ⟨⟨[100, 105, 118, 109, 111, 100]⟩⟩
noncomputable def z20 : Str := ⟨⟨[101, 118, 97, 108]⟩⟩
noncomputable def z21 : Str := ⟨⟨[101, 120, 101, 99]⟩⟩
noncomputable def z22 : Str := ⟨⟨[102, 111, 114, 109, 97, 116]⟩⟩
noncomputable def z23 : Str := ⟨⟨[103, 101, 116, 97, 116, 116, 114]⟩⟩
noncomputable def z24 : Str := ⟨⟨[103, 108, 111, 98, 97, 108, 115]⟩⟩
noncomputable def z25 : Str := ⟨⟨[104, 97, 115, 97, 116, 116, 114]⟩⟩
noncomputable def z26 : Str := ⟨⟨[104, 97, 115, 104]⟩⟩
noncomputable def z27 : Str := ⟨⟨[104, 101, 120]⟩⟩
noncomputable def z28 : Str := ⟨⟨[105, 100]⟩⟩
noncomputable def z29 : Str := ⟨⟨[105, 110, 112, 117, 116]⟩⟩
noncomputable def z30 : Str := ⟨⟨[105, 115, 105, 110, 115, 116, 97, 110, 99, 101]⟩⟩
noncomputable def z31 : Str := ⟨⟨[105, 115, 115, 117, 98, 99, 108, 97, 115, 115]⟩⟩
noncomputable def z32 : Str := ⟨⟨[105, 116, 101, 114]⟩⟩
noncomputable def z33 : Str := ⟨⟨[97, 105, 116, 101, 114]⟩⟩
noncomputable def z34 : Str := ⟨⟨[108, 101, 110]⟩⟩
noncomputable def z35 : Str := ⟨⟨[108, 111, 99, 97, 108, 115]⟩⟩
noncomputable def z36 : Str := ⟨⟨[109, 97, 120]⟩⟩
noncomputable def z37 : Str := ⟨⟨[109, 105, 110]⟩⟩
noncomputable def z38 : Str := ⟨⟨[110, 101, 120, 116]⟩⟩
noncomputable def z39 : Str := ⟨⟨[97, 110, 101, 120, 116]⟩⟩
noncomputable def z40 : Str := ⟨⟨[111, 99, 116]⟩⟩
noncomputable def z41 : Str := ⟨⟨[111, 114, 100]⟩⟩
noncomputable def z42 : Str := ⟨⟨[112, 111, 119]⟩⟩
noncomputable def z43 : Str := ⟨⟨[112, 114, 105, 110, 116]⟩⟩
noncomputable def z44 : Str := ⟨⟨[114, 101, 112, 114]⟩⟩
noncomputable def z45 : Str := ⟨⟨[114, 111, 117, 110, 100]⟩⟩
noncomputable def z46 : Str := ⟨⟨[115, 101, 116, 97, 116, 116, 114]⟩⟩
noncomputable def z47 : Str := ⟨⟨[115, 111, 114, 116, 101, 100]⟩⟩
noncomputable def z48 : Str := ⟨⟨[115, 117, 109]⟩⟩
noncomputable def z49 : Str := ⟨⟨[118, 97, 114, 115]⟩⟩
noncomputable def z50 : Str := ⟨⟨[78, 111, 110, 101]⟩⟩
noncomputable def z51 : Str := ⟨⟨[69, 108, 108, 105, 112, 115, 105, 115]⟩⟩
noncomputable def z52 : Str := ⟨⟨[78, 111, 116, 73, 109, 112, 108, 101, 109, 101, 110, 116, 101, 100]⟩⟩
noncomputable def z53 : Str := ⟨⟨[70, 97, 108, 115, 101]⟩⟩
noncomputable def z54 : Str := ⟨⟨[84, 114, 117, 101]⟩⟩
noncomputable def z55 : Str := ⟨⟨[98, 111, 111, 108]⟩⟩
noncomputable def z56 : Str := ⟨⟨[109, 101, 109, 111, 114, 121, 118, 105, 101, 119]⟩⟩
noncomputable def z57 : Str := ⟨⟨[98, 121, 116, 101, 97, 114, 114, 97, 121]⟩⟩
noncomputable def z58 : Str := ⟨⟨[98, 121, 116, 101, 115]⟩⟩
noncomputable def z59 : Str := ⟨⟨[99, 108, 97, 115, 115, 109, 101, 116, 104, 111, 100]⟩⟩
noncomputable def z60 : Str := ⟨⟨[99, 111, 109, 112, 108, 101, 120]⟩⟩
noncomputable def z61 : Str := ⟨⟨[100, 105, 99, 116]⟩⟩
noncomputable def z62 : Str := ⟨⟨[101, 110, 117, 109, 101, 114, 97, 116, 101]⟩⟩
noncomputable def z63 : Str := ⟨⟨[102, 105, 108, 116, 101, 114]⟩⟩
noncomputable def z64 : Str := ⟨⟨[102, 108, 111, 97, 116]⟩⟩
noncomputable def z65 : Str := ⟨⟨[102, 114, 111, 122, 101, 110, 115, 101, 116]⟩⟩
noncomputable def z66 : Str := ⟨⟨[112, 114, 111, 112, 101, 114, 116, 121]⟩⟩
noncomputable def z67 : Str := ⟨⟨[105, 110, 116]⟩⟩
noncomputable def z68 : Str := ⟨⟨[108, 105, 115, 116]⟩⟩
noncomputable def z69 : Str := ⟨⟨[109, 97, 112]⟩⟩
noncomputable def z70 : Str := ⟨⟨[111, 98, 106, 101, 99, 116]⟩⟩
noncomputable def z71 : Str := ⟨⟨[114, 97, 110, 103, 101]⟩⟩
noncomputable def z72 : Str := ⟨⟨[114, 101, 118, 101, 114, 115, 101, 100]⟩⟩
noncomputable def z73 : Str := ⟨⟨[115, 101, 116]⟩⟩
noncomputable def z74 : Str := ⟨⟨[115, 108, 105, 99, 101]⟩⟩
noncomputable def z75 : Str := ⟨⟨[115, 116, 97, 116, 105, 99, 109, 101, 116, 104, 111, 100]⟩⟩
noncomputable def z76 : Str := ⟨⟨[115, 116, 114]⟩⟩
noncomputable def z77 : Str := ⟨⟨[115, 117, 112, 101, 114]⟩⟩
noncomputable def z78 : Str := ⟨⟨[116, 117, 112, 108, 101]⟩⟩
noncomputable def z79 : Str := ⟨⟨[116, 121, 112, 101]⟩⟩
noncomputable def z80 : Str := ⟨⟨[122, 105, 112]⟩⟩
noncomputable def z81 : Str := ⟨⟨[95, 95, 100, 101, 98, 117, 103, 95, 95]⟩⟩
noncomputable def z82 : Str := ⟨⟨[66, 97, 115, 101, 69, 120, 99, 101, 112, 116, 105, 111, 110]⟩⟩
noncomputable def z83 : Str := ⟨⟨[66, 97, 115, 101, 69, 120, 99, 101, 112, 116, 105, 111, 110, 71, 114, 111, 117, 112]⟩⟩
noncomputable def z84 : Str := ⟨⟨[69, 120, 99, 101, 112, 116, 105, 111, 110]⟩⟩
noncomputable def z85 : Str := ⟨⟨[71, 101, 110, 101, 114, 97, 116, 111, 114, 69, 120, 105, 116]⟩⟩
noncomputable def z86 : Str := ⟨⟨[75, 101, 121, 98, 111, 97, 114, 100, 73, 110, 116, 101, 114, 114, 117, 112, 116]⟩⟩
noncomputable def z87 : Str := ⟨⟨[83, 121, 115, 116, 101, 109, 69, 120, 105, 116]⟩⟩
noncomputable def z88 : Str := ⟨⟨[65, 114, 105, 116, 104, 109, 101, 116, 105, 99, 69, 114, 114, 111, 114]⟩⟩
noncomputable def z89 : Str := ⟨⟨[65, 115, 115, 101, 114, 116, 105, 111, 110, 69, 114, 114, 111, 114]⟩⟩
noncomputable def z90 : Str := ⟨⟨[65, 116, 116, 114, 105, 98, 117, 116, 101, 69, 114, 114, 111, 114]⟩⟩
noncomputable def z91 : Str := ⟨⟨[66, 117, 102, 102, 101, 114, 69, 114, 114, 111, 114]⟩⟩
noncomputable def z92 : Str := ⟨⟨[69, 79, 70, 69, 114, 114, 111, 114]⟩⟩
noncomputable def z93 : Str := ⟨⟨[73, 109, 112, 111, 114, 116, 69, 114, 114, 111, 114]⟩⟩
noncomputable def z94 : Str := ⟨⟨[76, 111, 111, 107, 117, 112, 69, 114, 114, 111, 114]⟩⟩
noncomputable def z95 : Str := ⟨⟨[77, 101, 109, 111, 114, 121, 69, 114, 114, 111, 114]⟩⟩
noncomputable def z96 : Str := ⟨⟨[78, 97, 109, 101, 69, 114, 114, 111, 114]⟩⟩
noncomputable def z97 : Str := ⟨⟨[79, 83, 69, 114, 114, 111, 114]⟩⟩
noncomputable def z98 : Str := ⟨⟨[82, 101, 102, 101, 114, 101, 110, 99, 101, 69, 114, 114, 111, 114]⟩⟩
noncomputable def z99 : Str := ⟨⟨[82, 117, 110, 116, 105, 109, 101, 69, 114, 114, 111, 114]⟩⟩
noncomputable def z100 : Str := ⟨⟨[83, 116, 111, 112, 65, 115, 121, 110, 99, 73, 116, 101, 114, 97, 116, 105, 111, 110]⟩⟩
noncomputable def z101 : Str := ⟨⟨[83, 116, 111, 112, 73, 116, 101, 114, 97, 116, 105, 111, 110]⟩⟩
noncomputable def z102 : Str := ⟨⟨[83, 121, 110, 116, 97, 120, 69, 114, 114, 111, 114]⟩⟩
noncomputable def z103 : Str := ⟨⟨[83, 121, 115, 116, 101, 109, 69, 114, 114, 111, 114]⟩⟩
noncomputable def z104 : Str := ⟨⟨[84, 121, 112, 101, 69, 114, 114, 111, 114]⟩⟩
noncomputable def z105 : Str := ⟨⟨[86, 97, 108, 117, 101, 69, 114, 114, 111, 114]⟩⟩
noncomputable def z106 : Str := ⟨⟨[87, 97, 114, 110, 105, 110, 103]⟩⟩
noncomputable def z107 : Str := ⟨⟨[70, 108, 111, 97, 116, 105, 110, 103, 80, 111, 105, 110, 116, 69, 114, 114, 111, 114]⟩⟩
noncomputable def z108 : Str := ⟨⟨[79, 118, 101, 114, 102, 108, 111, 119, 69, 114, 114, 111, 114]⟩⟩
noncomputable def z109 : Str := ⟨⟨[90, 101, 114, 111, 68, 105, 118, 105, 115, 105, 111, 110, 69, 114, 114, 111, 114]⟩⟩
noncomputable def z110 : Str := ⟨⟨[66, 121, 116, 101, 115, 87, 97, 114, 110, 105, 110, 103]⟩⟩
noncomputable def z111 : Str := ⟨⟨[68, 101, 112, 114, 101, 99, 97, 116, 105, 111, 110, 87, 97, 114, 110, 105, 110, 103]⟩⟩
noncomputable def z112 : Str := ⟨⟨[69, 110, 99, 111, 100, 105, 110, 103, 87, 97, 114, 110, 105, 110, 103]⟩⟩
noncomputable def z113 : Str := ⟨⟨[70, 117, 116, 117, 114, 101, 87, 97, 114, 110, 105, 110, 103]⟩⟩
noncomputable def z114 : Str := ⟨⟨[73, 109, 112, 111, 114, 116, 87, 97, 114, 110, 105, 110, 103]⟩⟩
noncomputable def z115 : Str := ⟨⟨[80, 101, 110, 100, 105, 110, 103, 68, 101, 112, 114, 101, 99, 97, 116, 105, 111, 110, 87, 97, 114, 110, 105, 110, 103]⟩⟩
noncomputable def z116 : Str := ⟨⟨[82, 101, 115, 111, 117, 114, 99, 101, 87, 97, 114, 110, 105, 110, 103]⟩⟩
noncomputable def z117 : Str := ⟨⟨[82, 117, 110, 116, 105, 109, 101, 87, 97, 114, 110, 105, 110, 103]⟩⟩
noncomputable def z118 : Str := ⟨⟨[83, 121, 110, 116, 97, 120, 87, 97, 114, 110, 105, 110, 103]⟩⟩
noncomputable def z119 : Str := ⟨⟨[85, 110, 105, 99, 111, 100, 101, 87, 97, 114, 110, 105, 110, 103]⟩⟩
noncomputable def z120 : Str := ⟨⟨[85, 115, 101, 114, 87, 97, 114, 110, 105, 110, 103]⟩⟩
noncomputable def z121 : Str := ⟨⟨[66, 108, 111, 99, 107, 105, 110, 103, 73, 79, 69, 114, 114, 111, 114]⟩⟩
noncomputable def z122 : Str := ⟨⟨[67, 104, 105, 108, 100, 80, 114, 111, 99, 101, 115, 115, 69, 114, 114, 111, 114]⟩⟩
noncomputable def z123 : Str := ⟨⟨[67, 111, 110, 110, 101, 99, 116, 105, 111, 110, 69, 114, 114, 111, 114]⟩⟩
noncomputable def z124 : Str := ⟨⟨[70, 105, 108, 101, 69, 120, 105, 115, 116, 115, 69, 114, 114, 111, 114]⟩⟩
noncomputable def z125 : Str := ⟨⟨[70, 105, 108, 101, 78, 111, 116, 70, 111, 117, 110, 100, 69, 114, 114, 111, 114]⟩⟩
noncomputable def z126 : Str := ⟨⟨[73, 110, 116, 101, 114, 114, 117, 112, 116, 101, 100, 69, 114, 114, 111, 114]⟩⟩
noncomputable def z127 : Str := ⟨⟨[73, 115, 65, 68, 105, 114, 101, 99, 116, 111, 114, 121, 69, 114, 114, 111, 114]⟩⟩
noncomputable def z128 : Str := ⟨⟨[78, 111, 116, 65, 68, 105, 114, 101, 99, 116, 111, 114, 121, 69, 114, 114, 111, 114]⟩⟩
noncomputable def z129 : Str := ⟨⟨[80, 101, 114, 109, 105, 115, 115, 105, 111, 110, 69, 114, 114, 111, 114]⟩⟩
noncomputable def z130 : Str := ⟨⟨[80, 114, 111, 99, 101, 115, 115, 76, 111, 111, 107, 117, 112, 69, 114, 114, 111, 114]⟩⟩
noncomputable def z131 : Str := ⟨⟨[84, 105, 109, 101, 111, 117, 116, 69, 114, 114, 111, 114]⟩⟩
noncomputable def z132 : Str := ⟨⟨[73, 110, 100, 101, 110, 116, 97, 116, 105, 111, 110, 69, 114, 114, 111, 114]⟩⟩
noncomputable def z133 : Str := ⟨⟨[95, 73, 110, 99, 111, 109, 112, 108, 101, 116, 101, 73, 110, 112, 117, 116, 69, 114, 114, 111, 114]⟩⟩
noncomputable def z134 : Str := ⟨⟨[73, 110, 100, 101, 120, 69, 114, 114, 111, 114]⟩⟩
noncomputable def z135 : Str := ⟨⟨[75, 101, 121, 69, 114, 114, 111, 114]⟩⟩
noncomputable def z136 : Str := ⟨⟨[77, 111, 100, 117, 108, 101, 78, 111, 116, 70, 111, 117, 110, 100, 69, 114, 114, 111, 114]⟩⟩
noncomputable def z137 : Str := ⟨⟨[78, 111, 116, 73, 109, 112, 108, 101, 109, 101, 110, 116, 101, 100, 69, 114, 114, 111, 114]⟩⟩
noncomputable def z138 : Str := ⟨⟨[80, 121, 116, 104, 111, 110, 70, 105, 110, 97, 108, 105, 122, 97, 116, 105, 111, 110, 69, 114, 114, 111, 114]⟩⟩
noncomputable def z139 : Str := ⟨⟨[82, 101, 99, 117, 114, 115, 105, 111, 110, 69, 114, 114, 111, 114]⟩⟩
noncomputable def z140 : Str := ⟨⟨[85, 110, 98, 111, 117, 110, 100, 76, 111, 99, 97, 108, 69, 114, 114, 111, 114]⟩⟩
noncomputable def z141 : Str := ⟨⟨[85, 110, 105, 99, 111, 100, 101, 69, 114, 114, 111, 114]⟩⟩
noncomputable def z142 : Str := ⟨⟨[66, 114, 111, 107, 101, 110, 80, 105, 112, 101, 69, 114, 114, 111, 114]⟩⟩
noncomputable def z143 : Str := ⟨⟨[67, 111, 110, 110, 101, 99, 116, 105, 111, 110, 65, 98, 111, 114, 116, 101, 100, 69, 114, 114, 111, 114]⟩⟩
noncomputable def z144 : Str := ⟨⟨[67, 111, 110, 110, 101, 99, 116, 105, 111, 110, 82, 101, 102, 117, 115, 101, 100, 69, 114, 114, 111, 114]⟩⟩
noncomputable def z145 : Str := ⟨⟨[67, 111, 110, 110, 101, 99, 116, 105, 111, 110, 82, 101, 115, 101, 116, 69, 114, 114, 111, 114]⟩⟩
noncomputable def z146 : Str := ⟨⟨[84, 97, 98, 69, 114, 114, 111, 114]⟩⟩
noncomputable def z147 : Str := ⟨⟨[85, 110, 105, 99, 111, 100, 101, 68, 101, 99, 111, 100, 101, 69, 114, 114, 111, 114]⟩⟩
noncomputable def z148 : Str := ⟨⟨[85, 110, 105, 99, 111, 100, 101, 69, 110, 99, 111, 100, 101, 69, 114, 114, 111, 114]⟩⟩
noncomputable def z149 : Str := ⟨⟨[85, 110, 105, 99, 111, 100, 101, 84, 114, 97, 110, 115, 108, 97, 116, 101, 69, 114, 114, 111, 114]⟩⟩
noncomputable def z150 : Str := ⟨⟨[69, 120, 99, 101, 112, 116, 105, 111, 110, 71, 114, 111, 117, 112]⟩⟩
noncomputable def z151 : Str := ⟨⟨[69, 110, 118, 105, 114, 111, 110, 109, 101, 110, 116, 69, 114, 114, 111, 114]⟩⟩
noncomputable def z152 : Str := ⟨⟨[73, 79, 69, 114, 114, 111, 114]⟩⟩
noncomputable def z153 : Str := ⟨⟨[111, 112, 101, 110]⟩⟩
noncomputable def z154 : Str := ⟨⟨[113, 117, 105, 116]⟩⟩
noncomputable def z155 : Str := ⟨⟨[101, 120, 105, 116]⟩⟩
noncomputable def z156 : Str := ⟨⟨[99, 111, 112, 121, 114, 105, 103, 104, 116]⟩⟩
noncomputable def z157 : Str := ⟨⟨[99, 114, 101, 100, 105, 116, 115]⟩⟩
noncomputable def z158 : Str := ⟨⟨[108, 105, 99, 101, 110, 115, 101]⟩⟩
noncomputable def z159 : Str := ⟨⟨[104, 101, 108, 112]⟩⟩
noncomputable def z160 : Str := ⟨⟨[105, 109, 112, 111, 114, 116, 46, 108, 111, 97, 100, 101, 100, 46, 95, 99, 111, 108, 108, 101, 99, 116, 105, 111, 110, 115]⟩⟩
noncomputable def z161 : Str := ⟨⟨[99, 108, 97, 115, 115, 46, 95, 102, 114, 111, 122, 101, 110, 95, 105, 109, 112, 111, 114, 116, 108, 105, 98, 46, 66, 117, 105, 108, 116, 105, 110, 73, 109, 112, 111, 114, 116, 101, 114]⟩⟩
noncomputable def z162 : Str := ⟨⟨[119, 97, 116, 99, 104, 101, 100, 46, 105, 109, 112, 111, 114, 116]⟩⟩
noncomputable def z163 : Str := ⟨⟨[99, 108, 97, 115, 115, 46, 95, 102, 114, 111, 122, 101, 110, 95, 105, 109, 112, 111, 114, 116, 108, 105, 98, 46, 77, 111, 100, 117, 108, 101, 83, 112, 101, 99]⟩⟩
noncomputable def z164 : Str := ⟨⟨[115, 121, 115, 46, 109, 111, 100, 117, 108, 101, 115, 46, 98, 111, 111, 107, 101, 100, 45, 101, 112, 111, 99, 104]⟩⟩
noncomputable def z165 : Str := ⟨⟨[115, 121, 115, 46, 109, 111, 100, 117, 108, 101, 115, 46, 108, 97, 110, 100, 101, 100, 46, 95, 99, 111, 108, 108, 101, 99, 116, 105, 111, 110, 115]⟩⟩
noncomputable def z166 : Str := ⟨⟨[105, 109, 112, 111, 114, 116, 46, 108, 97, 116, 101, 114, 45, 108, 97, 105, 100, 46, 95, 99, 111, 108, 108, 101, 99, 116, 105, 111, 110, 115]⟩⟩
noncomputable def z167 : Str := ⟨⟨[119, 97, 116, 99, 104, 101, 100, 46, 108, 105, 98, 114, 97, 114, 121]⟩⟩
noncomputable def z168 : Str := ⟨⟨[119, 97, 116, 99, 104, 101, 100, 46, 108, 105, 98, 114, 97, 114, 121, 45, 111, 98, 106, 101, 99, 116, 115]⟩⟩
noncomputable def z169 : Str := ⟨⟨[13, 31]⟩⟩
noncomputable def z170 : Str := ⟨⟨[119, 97, 116, 99, 104, 101, 100, 46, 108, 105, 98, 114, 97, 114, 121, 45, 100, 101, 101, 112, 46, 95, 99, 111, 108, 108, 101, 99, 116, 105, 111, 110, 115]⟩⟩
noncomputable def z171 : Str := ⟨⟨[4, 0, 0, 12, 4, 0, 0, 12, 4, 0, 0, 3, 4, 0, 0, 12, 8, 4, 100, 105, 99, 116, 2]⟩⟩
noncomputable def z172 : Str := ⟨⟨[105, 109, 112, 111, 114, 116, 46, 108, 111, 97, 100, 101, 100, 46, 95, 104, 101, 97, 112, 113]⟩⟩
noncomputable def z173 : Str := ⟨⟨[99, 108, 97, 115, 115, 46, 95, 102, 114, 111, 122, 101, 110, 95, 105, 109, 112, 111, 114, 116, 108, 105, 98, 95, 101, 120, 116, 101, 114, 110, 97, 108, 46, 95, 76, 111, 97, 100, 101, 114, 66, 97, 115, 105, 99, 115]⟩⟩
noncomputable def z174 : Str := ⟨⟨[99, 108, 97, 115, 115, 46, 95, 102, 114, 111, 122, 101, 110, 95, 105, 109, 112, 111, 114, 116, 108, 105, 98, 95, 101, 120, 116, 101, 114, 110, 97, 108, 46, 70, 105, 108, 101, 76, 111, 97, 100, 101, 114]⟩⟩
noncomputable def z175 : Str := ⟨⟨[99, 108, 97, 115, 115, 46, 95, 102, 114, 111, 122, 101, 110, 95, 105, 109, 112, 111, 114, 116, 108, 105, 98, 95, 101, 120, 116, 101, 114, 110, 97, 108, 46, 69, 120, 116, 101, 110, 115, 105, 111, 110, 70, 105, 108, 101, 76, 111, 97, 100, 101, 114]⟩⟩
noncomputable def z176 : Str := ⟨⟨[105, 109, 112, 111, 114, 116, 46, 108, 97, 116, 101, 114, 45, 108, 97, 105, 100, 46, 95, 104, 101, 97, 112, 113]⟩⟩
noncomputable def z177 : Str := ⟨⟨[108, 97, 119, 95, 105, 111, 48, 48, 48, 49, 95, 48, 50]⟩⟩
noncomputable def z178 : Str := ⟨⟨[95, 95, 97, 110, 110, 111, 116, 97, 116, 105, 111, 110, 115, 95, 95]⟩⟩
noncomputable def z179 : Str := ⟨⟨[95, 95, 98, 117, 105, 108, 116, 105, 110, 115, 95, 95]⟩⟩
noncomputable def z180 : Str := ⟨⟨[95, 95, 102, 105, 108, 101, 95, 95]⟩⟩
noncomputable def z181 : Str := ⟨⟨[47, 99, 108, 97, 105, 109, 47, 99, 117, 116, 46, 112, 121]⟩⟩
noncomputable def z182 : Str := ⟨⟨[95, 95, 99, 97, 99, 104, 101, 100, 95, 95]⟩⟩
noncomputable def z183 : Str := ⟨⟨[100, 101, 113, 117, 101]⟩⟩
noncomputable def z184 : Str := ⟨⟨[104, 101, 97, 112, 105, 102, 121]⟩⟩
noncomputable def z185 : Str := ⟨⟨[104, 101, 97, 112, 114, 101, 112, 108, 97, 99, 101]⟩⟩
noncomputable def z186 : Str := ⟨⟨[95, 119, 97, 108, 108]⟩⟩
noncomputable def z187 : Str := ⟨⟨[95, 99, 111, 117, 110, 116, 95, 101, 108, 101, 109, 101, 110, 116, 115]⟩⟩
noncomputable def z188 : Str := ⟨⟨[65, 66, 67, 77, 101, 116, 97]⟩⟩
noncomputable def z189 : Str := ⟨⟨[95, 65, 66, 67, 76, 105, 107, 101]⟩⟩
noncomputable def z190 : Str := ⟨⟨[95, 97, 98, 99, 95, 112, 108, 97, 105, 110, 95, 109, 101, 116, 97]⟩⟩
noncomputable def z191 : Str := ⟨⟨[95, 97, 98, 99, 95, 104, 97, 115, 95, 105, 116, 101, 114]⟩⟩
noncomputable def z192 : Str := ⟨⟨[95, 97, 98, 99, 95, 104, 97, 115, 95, 108, 101, 110]⟩⟩
noncomputable def z193 : Str := ⟨⟨[95, 97, 98, 99, 95, 104, 97, 115, 95, 99, 111, 110, 116, 97, 105, 110, 115]⟩⟩
noncomputable def z194 : Str := ⟨⟨[95, 97, 98, 99, 95, 105, 115, 95, 109, 97, 112, 112, 105, 110, 103, 112, 114, 111, 120, 121]⟩⟩
noncomputable def z195 : Str := ⟨⟨[95, 97, 98, 99, 95, 105, 115, 95, 98, 117, 105, 108, 116, 105, 110, 95, 99, 111, 108, 108, 101, 99, 116, 105, 111, 110]⟩⟩
noncomputable def z196 : Str := ⟨⟨[73, 116, 101, 114, 97, 98, 108, 101]⟩⟩
noncomputable def z197 : Str := ⟨⟨[83, 105, 122, 101, 100]⟩⟩
noncomputable def z198 : Str := ⟨⟨[67, 111, 110, 116, 97, 105, 110, 101, 114]⟩⟩
noncomputable def z199 : Str := ⟨⟨[67, 111, 108, 108, 101, 99, 116, 105, 111, 110]⟩⟩
noncomputable def z200 : Str := ⟨⟨[83, 101, 116]⟩⟩
noncomputable def z201 : Str := ⟨⟨[77, 97, 112, 112, 105, 110, 103]⟩⟩
noncomputable def z202 : Str := ⟨⟨[77, 97, 112, 112, 105, 110, 103, 86, 105, 101, 119]⟩⟩
noncomputable def z203 : Str := ⟨⟨[75, 101, 121, 115, 86, 105, 101, 119]⟩⟩
noncomputable def z204 : Str := ⟨⟨[73, 116, 101, 109, 115, 86, 105, 101, 119]⟩⟩
noncomputable def z205 : Str := ⟨⟨[86, 97, 108, 117, 101, 115, 86, 105, 101, 119]⟩⟩
noncomputable def z206 : Str := ⟨⟨[110, 108, 97, 114, 103, 101, 115, 116]⟩⟩
noncomputable def z207 : Str := ⟨⟨[95, 105, 115, 95, 105, 110, 116]⟩⟩
noncomputable def z208 : Str := ⟨⟨[95, 119, 104, 111, 108, 101]⟩⟩
noncomputable def z209 : Str := ⟨⟨[95, 112, 117, 108, 108]⟩⟩
noncomputable def z210 : Str := ⟨⟨[95, 78, 111, 116, 71, 105, 118, 101, 110]⟩⟩
noncomputable def z211 : Str := ⟨⟨[99, 104, 97, 105, 110]⟩⟩
noncomputable def z212 : Str := ⟨⟨[114, 101, 112, 101, 97, 116]⟩⟩
noncomputable def z213 : Str := ⟨⟨[115, 116, 97, 114, 109, 97, 112]⟩⟩
noncomputable def z214 : Str := ⟨⟨[105, 116, 101, 109, 103, 101, 116, 116, 101, 114]⟩⟩
noncomputable def z215 : Str := ⟨⟨[67, 111, 117, 110, 116, 101, 114]⟩⟩
noncomputable def z216 : Str := ⟨⟨[108, 97, 119]⟩⟩
noncomputable def z217 : Str := ⟨⟨[95, 95, 109, 111, 100, 117, 108, 101, 95, 95]⟩⟩
noncomputable def z218 : Str := ⟨⟨[97, 98, 99]⟩⟩
noncomputable def z219 : Str := ⟨⟨[95, 95, 102, 105, 114, 115, 116, 108, 105, 110, 101, 110, 111, 95, 95]⟩⟩
noncomputable def z220 : Str := ⟨⟨[114, 101, 103, 105, 115, 116, 101, 114]⟩⟩
noncomputable def z221 : Str := ⟨⟨[95, 95, 115, 116, 97, 116, 105, 99, 95, 97, 116, 116, 114, 105, 98, 117, 116, 101, 115, 95, 95]⟩⟩
noncomputable def z222 : Str := ⟨⟨[95, 95, 105, 110, 115, 116, 97, 110, 99, 101, 99, 104, 101, 99, 107, 95, 95]⟩⟩
noncomputable def z223 : Str := ⟨⟨[95, 65, 66, 67, 76, 105, 107, 101, 46, 95, 95, 105, 110, 115, 116, 97, 110, 99, 101, 99, 104, 101, 99, 107, 95, 95]⟩⟩
noncomputable def z224 : Str := ⟨⟨[99, 111, 108, 108, 101, 99, 116, 105, 111, 110, 115, 46, 97, 98, 99]⟩⟩
noncomputable def z225 : Str := ⟨⟨[95, 95, 115, 117, 98, 99, 108, 97, 115, 115, 99, 104, 101, 99, 107, 95, 95]⟩⟩
noncomputable def z226 : Str := ⟨⟨[95, 97, 98, 99, 95, 107, 105, 110, 100]⟩⟩
noncomputable def z227 : Str := ⟨⟨[77, 97, 112, 112, 105, 110, 103, 46, 95, 97, 98, 99, 95, 107, 105, 110, 100]⟩⟩
noncomputable def z228 : Str := ⟨⟨[95, 95, 115, 108, 111, 116, 115, 95, 95]⟩⟩
noncomputable def z229 : Str := ⟨⟨[95, 95, 103, 101, 116, 105, 116, 101, 109, 95, 95]⟩⟩
noncomputable def z230 : Str := ⟨⟨[103, 101, 116]⟩⟩
noncomputable def z231 : Str := ⟨⟨[95, 95, 99, 111, 110, 116, 97, 105, 110, 115, 95, 95]⟩⟩
noncomputable def z232 : Str := ⟨⟨[107, 101, 121, 115]⟩⟩
noncomputable def z233 : Str := ⟨⟨[105, 116, 101, 109, 115]⟩⟩
noncomputable def z234 : Str := ⟨⟨[118, 97, 108, 117, 101, 115]⟩⟩
noncomputable def z235 : Str := ⟨⟨[95, 95, 101, 113, 95, 95]⟩⟩
noncomputable def z236 : Str := ⟨⟨[95, 95, 114, 101, 118, 101, 114, 115, 101, 100, 95, 95]⟩⟩
noncomputable def z237 : Str := ⟨⟨[95, 95, 104, 97, 115, 104, 95, 95]⟩⟩
noncomputable def z238 : Str := ⟨⟨[95, 95, 97, 98, 115, 116, 114, 97, 99, 116, 109, 101, 116, 104, 111, 100, 115, 95, 95]⟩⟩
noncomputable def z239 : Str := ⟨⟨[95, 95, 105, 110, 105, 116, 95, 95]⟩⟩
noncomputable def z240 : Str := ⟨⟨[67, 111, 117, 110, 116, 101, 114, 46, 95, 95, 105, 110, 105, 116, 95, 95]⟩⟩
noncomputable def z241 : Str := ⟨⟨[95, 95, 99, 108, 97, 115, 115, 95, 95]⟩⟩
noncomputable def z242 : Str := ⟨⟨[99, 112, 121, 51, 49, 51, 46, 99, 111, 108, 108, 101, 99, 116, 105, 111, 110, 115]⟩⟩
noncomputable def z243 : Str := ⟨⟨[95, 95, 109, 105, 115, 115, 105, 110, 103, 95, 95]⟩⟩
noncomputable def z244 : Str := ⟨⟨[67, 111, 117, 110, 116, 101, 114, 46, 95, 95, 109, 105, 115, 115, 105, 110, 103, 95, 95]⟩⟩
noncomputable def z245 : Str := ⟨⟨[116, 111, 116, 97, 108]⟩⟩
noncomputable def z246 : Str := ⟨⟨[67, 111, 117, 110, 116, 101, 114, 46, 116, 111, 116, 97, 108]⟩⟩
noncomputable def z247 : Str := ⟨⟨[117, 112, 100, 97, 116, 101]⟩⟩
noncomputable def z248 : Str := ⟨⟨[67, 111, 117, 110, 116, 101, 114, 46, 117, 112, 100, 97, 116, 101]⟩⟩
noncomputable def z249 : Str := ⟨⟨[95, 95, 97, 100, 100, 95, 95]⟩⟩
noncomputable def z250 : Str := ⟨⟨[67, 111, 117, 110, 116, 101, 114, 46, 95, 95, 97, 100, 100, 95, 95]⟩⟩
noncomputable def z251 : Str := ⟨⟨[95, 95, 115, 117, 98, 95, 95]⟩⟩
noncomputable def z252 : Str := ⟨⟨[67, 111, 117, 110, 116, 101, 114, 46, 95, 95, 115, 117, 98, 95, 95]⟩⟩
noncomputable def z253 : Str := ⟨⟨[95, 95, 112, 111, 115, 95, 95]⟩⟩
noncomputable def z254 : Str := ⟨⟨[67, 111, 117, 110, 116, 101, 114, 46, 95, 95, 112, 111, 115, 95, 95]⟩⟩
noncomputable def z255 : Str := ⟨⟨[95, 95, 110, 101, 103, 95, 95]⟩⟩
noncomputable def z256 : Str := ⟨⟨[67, 111, 117, 110, 116, 101, 114, 46, 95, 95, 110, 101, 103, 95, 95]⟩⟩
noncomputable def z257 : Str := ⟨⟨[109, 111, 115, 116, 95, 99, 111, 109, 109, 111, 110]⟩⟩
noncomputable def z258 : Str := ⟨⟨[101, 108, 101, 109, 101, 110, 116, 115]⟩⟩
noncomputable def z259 : Str := ⟨⟨[102, 114, 111, 109, 107, 101, 121, 115]⟩⟩
noncomputable def z260 : Str := ⟨⟨[115, 117, 98, 116, 114, 97, 99, 116]⟩⟩
noncomputable def z261 : Str := ⟨⟨[99, 111, 112, 121]⟩⟩
noncomputable def z262 : Str := ⟨⟨[95, 95, 114, 101, 100, 117, 99, 101, 95, 95]⟩⟩
noncomputable def z263 : Str := ⟨⟨[95, 95, 100, 101, 108, 105, 116, 101, 109, 95, 95]⟩⟩
noncomputable def z264 : Str := ⟨⟨[95, 95, 114, 101, 112, 114, 95, 95]⟩⟩
noncomputable def z265 : Str := ⟨⟨[95, 95, 110, 101, 95, 95]⟩⟩
noncomputable def z266 : Str := ⟨⟨[95, 95, 108, 101, 95, 95]⟩⟩
noncomputable def z267 : Str := ⟨⟨[95, 95, 108, 116, 95, 95]⟩⟩
noncomputable def z268 : Str := ⟨⟨[95, 95, 103, 101, 95, 95]⟩⟩
noncomputable def z269 : Str := ⟨⟨[95, 95, 103, 116, 95, 95]⟩⟩
noncomputable def z270 : Str := ⟨⟨[95, 95, 111, 114, 95, 95]⟩⟩
noncomputable def z271 : Str := ⟨⟨[95, 95, 97, 110, 100, 95, 95]⟩⟩
noncomputable def z272 : Str := ⟨⟨[95, 107, 101, 101, 112, 95, 112, 111, 115, 105, 116, 105, 118, 101]⟩⟩
noncomputable def z273 : Str := ⟨⟨[95, 95, 105, 97, 100, 100, 95, 95]⟩⟩
noncomputable def z274 : Str := ⟨⟨[95, 95, 105, 115, 117, 98, 95, 95]⟩⟩
noncomputable def z275 : Str := ⟨⟨[95, 95, 105, 111, 114, 95, 95]⟩⟩
noncomputable def z276 : Str := ⟨⟨[95, 95, 105, 97, 110, 100, 95, 95]⟩⟩
noncomputable def z277 : Str := ⟨⟨[95, 95, 100, 105, 99, 116, 95, 95]⟩⟩
noncomputable def z278 : Str := ⟨⟨[95, 95, 119, 101, 97, 107, 114, 101, 102, 95, 95]⟩⟩
noncomputable def y0 : String := "dict"
noncomputable def y1 : String := "builtins.__doc__:str#opaque"
noncomputable def y2 : String := "builtins.__package__:str#opaque"
noncomputable def y3 : String := "builtins.__loader__:shared#opaque"
noncomputable def y4 : String := "builtins.__spec__#opaque"
noncomputable def y5 : String := "__build_class__"
noncomputable def y6 : String := "__import__"
noncomputable def y7 : String := "abs"
noncomputable def y8 : String := "all"
noncomputable def y9 : String := "any"
noncomputable def y10 : String := "ascii"
noncomputable def y11 : String := "bin"
noncomputable def y12 : String := "breakpoint"
noncomputable def y13 : String := "callable"
noncomputable def y14 : String := "chr"
noncomputable def y15 : String := "compile"
noncomputable def y16 : String := "delattr"
noncomputable def y17 : String := "dir"
noncomputable def y18 : String := "divmod"
noncomputable def y19 : String := "eval"
noncomputable def y20 : String := "exec"
noncomputable def y21 : String := "format"
noncomputable def y22 : String := "getattr"
noncomputable def y23 : String := "globals"
noncomputable def y24 : String := "hasattr"
noncomputable def y25 : String := "hash"
noncomputable def y26 : String := "hex"
noncomputable def y27 : String := "id"
noncomputable def y28 : String := "input"
noncomputable def y29 : String := "isinstance"
noncomputable def y30 : String := "issubclass"
noncomputable def y31 : String := "iter"
noncomputable def y32 : String := "aiter"
noncomputable def y33 : String := "len"
noncomputable def y34 : String := "locals"
noncomputable def y35 : String := "max"
noncomputable def y36 : String := "min"
noncomputable def y37 : String := "next"
noncomputable def y38 : String := "anext"
noncomputable def y39 : String := "oct"
noncomputable def y40 : String := "ord"
noncomputable def y41 : String := "pow"
noncomputable def y42 : String := "print"
noncomputable def y43 : String := "repr"
noncomputable def y44 : String := "round"
noncomputable def y45 : String := "setattr"
noncomputable def y46 : String := "sorted"
noncomputable def y47 : String := "sum"
noncomputable def y48 : String := "vars"
noncomputable def y49 : String := "bool"
noncomputable def y50 : String := "memoryview"
noncomputable def y51 : String := "bytearray"
noncomputable def y52 : String := "bytes"
noncomputable def y53 : String := "classmethod"
noncomputable def y54 : String := "complex"
noncomputable def y55 : String := "enumerate"
noncomputable def y56 : String := "filter"
noncomputable def y57 : String := "float"
noncomputable def y58 : String := "frozenset"
noncomputable def y59 : String := "property"
noncomputable def y60 : String := "int"
noncomputable def y61 : String := "list"
noncomputable def y62 : String := "map"
noncomputable def y63 : String := "object"
noncomputable def y64 : String := "range"
noncomputable def y65 : String := "reversed"
noncomputable def y66 : String := "set"
noncomputable def y67 : String := "slice"
noncomputable def y68 : String := "staticmethod"
noncomputable def y69 : String := "str"
noncomputable def y70 : String := "super"
noncomputable def y71 : String := "tuple"
noncomputable def y72 : String := "type"
noncomputable def y73 : String := "zip"
noncomputable def y74 : String := "BaseException"
noncomputable def y75 : String := "BaseExceptionGroup"
noncomputable def y76 : String := "Exception"
noncomputable def y77 : String := "GeneratorExit"
noncomputable def y78 : String := "KeyboardInterrupt"
noncomputable def y79 : String := "SystemExit"
noncomputable def y80 : String := "ArithmeticError"
noncomputable def y81 : String := "AssertionError"
noncomputable def y82 : String := "AttributeError"
noncomputable def y83 : String := "BufferError"
noncomputable def y84 : String := "EOFError"
noncomputable def y85 : String := "ImportError"
noncomputable def y86 : String := "LookupError"
noncomputable def y87 : String := "MemoryError"
noncomputable def y88 : String := "NameError"
noncomputable def y89 : String := "OSError"
noncomputable def y90 : String := "ReferenceError"
noncomputable def y91 : String := "RuntimeError"
noncomputable def y92 : String := "StopAsyncIteration"
noncomputable def y93 : String := "StopIteration"
noncomputable def y94 : String := "SyntaxError"
noncomputable def y95 : String := "SystemError"
noncomputable def y96 : String := "TypeError"
noncomputable def y97 : String := "ValueError"
noncomputable def y98 : String := "Warning"
noncomputable def y99 : String := "FloatingPointError"
noncomputable def y100 : String := "OverflowError"
noncomputable def y101 : String := "ZeroDivisionError"
noncomputable def y102 : String := "BytesWarning"
noncomputable def y103 : String := "DeprecationWarning"
noncomputable def y104 : String := "EncodingWarning"
noncomputable def y105 : String := "FutureWarning"
noncomputable def y106 : String := "ImportWarning"
noncomputable def y107 : String := "PendingDeprecationWarning"
noncomputable def y108 : String := "ResourceWarning"
noncomputable def y109 : String := "RuntimeWarning"
noncomputable def y110 : String := "SyntaxWarning"
noncomputable def y111 : String := "UnicodeWarning"
noncomputable def y112 : String := "UserWarning"
noncomputable def y113 : String := "BlockingIOError"
noncomputable def y114 : String := "ChildProcessError"
noncomputable def y115 : String := "ConnectionError"
noncomputable def y116 : String := "FileExistsError"
noncomputable def y117 : String := "FileNotFoundError"
noncomputable def y118 : String := "InterruptedError"
noncomputable def y119 : String := "IsADirectoryError"
noncomputable def y120 : String := "NotADirectoryError"
noncomputable def y121 : String := "PermissionError"
noncomputable def y122 : String := "ProcessLookupError"
noncomputable def y123 : String := "TimeoutError"
noncomputable def y124 : String := "IndentationError"
noncomputable def y125 : String := "_IncompleteInputError"
noncomputable def y126 : String := "IndexError"
noncomputable def y127 : String := "KeyError"
noncomputable def y128 : String := "ModuleNotFoundError"
noncomputable def y129 : String := "NotImplementedError"
noncomputable def y130 : String := "PythonFinalizationError"
noncomputable def y131 : String := "RecursionError"
noncomputable def y132 : String := "UnboundLocalError"
noncomputable def y133 : String := "UnicodeError"
noncomputable def y134 : String := "BrokenPipeError"
noncomputable def y135 : String := "ConnectionAbortedError"
noncomputable def y136 : String := "ConnectionRefusedError"
noncomputable def y137 : String := "ConnectionResetError"
noncomputable def y138 : String := "TabError"
noncomputable def y139 : String := "UnicodeDecodeError"
noncomputable def y140 : String := "UnicodeEncodeError"
noncomputable def y141 : String := "UnicodeTranslateError"
noncomputable def y142 : String := "ExceptionGroup"
noncomputable def y143 : String := "open"
noncomputable def y144 : String := "builtins.quit#opaque"
noncomputable def y145 : String := "builtins.exit#opaque"
noncomputable def y146 : String := "builtins.copyright#opaque"
noncomputable def y147 : String := "builtins.credits#opaque"
noncomputable def y148 : String := "builtins.license#opaque"
noncomputable def y149 : String := "builtins.help#opaque"
noncomputable def y150 : String := "__main__.__loader__#opaque"
noncomputable def y151 : String := "collections.deque"
noncomputable def y152 : String := "_heapq.heapify"
noncomputable def y153 : String := "_heapq.heapreplace"
noncomputable def y154 : String := "type.__new__"
noncomputable def y155 : String := "code"
noncomputable def y156 : String := "function"
noncomputable def y157 : String := "object.__new__"
noncomputable def y158 : String := "cell"
noncomputable def y159 : String := "dict.__new__"
noncomputable def k0c22 (P : Params) : List DictEntry := de P z155 155 (.builtin y145) :: de P z156 156 (.builtin y146) :: de P z157 157 (.builtin y147) :: de P z158 158 (.builtin y148) :: de P z159 159 (.builtin y149) :: []
noncomputable def k0c21 (P : Params) : List DictEntry := de P z148 148 (.type y140) :: de P z149 149 (.type y141) :: de P z150 150 (.type y142) :: de P z151 151 (.type y89) :: de P z152 152 (.type y89) :: de P z153 153 (.builtin y143) :: de P z154 154 (.builtin y144) :: k0c22 P
noncomputable def k0c20 (P : Params) : List DictEntry := de P z141 141 (.type y133) :: de P z142 142 (.type y134) :: de P z143 143 (.type y135) :: de P z144 144 (.type y136) :: de P z145 145 (.type y137) :: de P z146 146 (.type y138) :: de P z147 147 (.type y139) :: k0c21 P
noncomputable def k0c19 (P : Params) : List DictEntry := de P z134 134 (.type y126) :: de P z135 135 (.type y127) :: de P z136 136 (.type y128) :: de P z137 137 (.type y129) :: de P z138 138 (.type y130) :: de P z139 139 (.type y131) :: de P z140 140 (.type y132) :: k0c20 P
noncomputable def k0c18 (P : Params) : List DictEntry := de P z127 127 (.type y119) :: de P z128 128 (.type y120) :: de P z129 129 (.type y121) :: de P z130 130 (.type y122) :: de P z131 131 (.type y123) :: de P z132 132 (.type y124) :: de P z133 133 (.type y125) :: k0c19 P
noncomputable def k0c17 (P : Params) : List DictEntry := de P z120 120 (.type y112) :: de P z121 121 (.type y113) :: de P z122 122 (.type y114) :: de P z123 123 (.type y115) :: de P z124 124 (.type y116) :: de P z125 125 (.type y117) :: de P z126 126 (.type y118) :: k0c18 P
noncomputable def k0c16 (P : Params) : List DictEntry := de P z113 113 (.type y105) :: de P z114 114 (.type y106) :: de P z115 115 (.type y107) :: de P z116 116 (.type y108) :: de P z117 117 (.type y109) :: de P z118 118 (.type y110) :: de P z119 119 (.type y111) :: k0c17 P
noncomputable def k0c15 (P : Params) : List DictEntry := de P z106 106 (.type y98) :: de P z107 107 (.type y99) :: de P z108 108 (.type y100) :: de P z109 109 (.type y101) :: de P z110 110 (.type y102) :: de P z111 111 (.type y103) :: de P z112 112 (.type y104) :: k0c16 P
noncomputable def k0c14 (P : Params) : List DictEntry := de P z99 99 (.type y91) :: de P z100 100 (.type y92) :: de P z101 101 (.type y93) :: de P z102 102 (.type y94) :: de P z103 103 (.type y95) :: de P z104 104 (.type y96) :: de P z105 105 (.type y97) :: k0c15 P
noncomputable def k0c13 (P : Params) : List DictEntry := de P z92 92 (.type y84) :: de P z93 93 (.type y85) :: de P z94 94 (.type y86) :: de P z95 95 (.type y87) :: de P z96 96 (.type y88) :: de P z97 97 (.type y89) :: de P z98 98 (.type y90) :: k0c14 P
noncomputable def k0c12 (P : Params) : List DictEntry := de P z85 85 (.type y77) :: de P z86 86 (.type y78) :: de P z87 87 (.type y79) :: de P z88 88 (.type y80) :: de P z89 89 (.type y81) :: de P z90 90 (.type y82) :: de P z91 91 (.type y83) :: k0c13 P
noncomputable def k0c11 (P : Params) : List DictEntry := de P z78 78 (.type y71) :: de P z79 79 (.type y72) :: de P z80 80 (.type y73) :: de P z81 81 (.bool true) :: de P z82 82 (.type y74) :: de P z83 83 (.type y75) :: de P z84 84 (.type y76) :: k0c12 P
noncomputable def k0c10 (P : Params) : List DictEntry := de P z71 71 (.type y64) :: de P z72 72 (.type y65) :: de P z73 73 (.type y66) :: de P z74 74 (.type y67) :: de P z75 75 (.type y68) :: de P z76 76 (.type y69) :: de P z77 77 (.type y70) :: k0c11 P
noncomputable def k0c9 (P : Params) : List DictEntry := de P z64 64 (.type y57) :: de P z65 65 (.type y58) :: de P z66 66 (.type y59) :: de P z67 67 (.type y60) :: de P z68 68 (.type y61) :: de P z69 69 (.type y62) :: de P z70 70 (.type y63) :: k0c10 P
noncomputable def k0c8 (P : Params) : List DictEntry := de P z57 57 (.type y51) :: de P z58 58 (.type y52) :: de P z59 59 (.type y53) :: de P z60 60 (.type y54) :: de P z61 61 (.type y0) :: de P z62 62 (.type y55) :: de P z63 63 (.type y56) :: k0c9 P
noncomputable def k0c7 (P : Params) : List DictEntry := de P z50 50 Value.none :: de P z51 51 Value.ellipsis :: de P z52 52 Value.notImplemented :: de P z53 53 (.bool false) :: de P z54 54 (.bool true) :: de P z55 55 (.type y49) :: de P z56 56 (.type y50) :: k0c8 P
noncomputable def k0c6 (P : Params) : List DictEntry := de P z43 43 (.builtin y42) :: de P z44 44 (.builtin y43) :: de P z45 45 (.builtin y44) :: de P z46 46 (.builtin y45) :: de P z47 47 (.builtin y46) :: de P z48 48 (.builtin y47) :: de P z49 49 (.builtin y48) :: k0c7 P
noncomputable def k0c5 (P : Params) : List DictEntry := de P z36 36 (.builtin y35) :: de P z37 37 (.builtin y36) :: de P z38 38 (.builtin y37) :: de P z39 39 (.builtin y38) :: de P z40 40 (.builtin y39) :: de P z41 41 (.builtin y40) :: de P z42 42 (.builtin y41) :: k0c6 P
noncomputable def k0c4 (P : Params) : List DictEntry := de P z29 29 (.builtin y28) :: de P z30 30 (.builtin y29) :: de P z31 31 (.builtin y30) :: de P z32 32 (.builtin y31) :: de P z33 33 (.builtin y32) :: de P z34 34 (.builtin y33) :: de P z35 35 (.builtin y34) :: k0c5 P
noncomputable def k0c3 (P : Params) : List DictEntry := de P z22 22 (.builtin y21) :: de P z23 23 (.builtin y22) :: de P z24 24 (.builtin y23) :: de P z25 25 (.builtin y24) :: de P z26 26 (.builtin y25) :: de P z27 27 (.builtin y26) :: de P z28 28 (.builtin y27) :: k0c4 P
noncomputable def k0c2 (P : Params) : List DictEntry := de P z15 15 (.builtin y14) :: de P z16 16 (.builtin y15) :: de P z17 17 (.builtin y16) :: de P z18 18 (.builtin y17) :: de P z19 19 (.builtin y18) :: de P z20 20 (.builtin y19) :: de P z21 21 (.builtin y20) :: k0c3 P
noncomputable def k0c1 (P : Params) : List DictEntry := de P z8 8 (.builtin y7) :: de P z9 9 (.builtin y8) :: de P z10 10 (.builtin y9) :: de P z11 11 (.builtin y10) :: de P z12 12 (.builtin y11) :: de P z13 13 (.builtin y12) :: de P z14 14 (.builtin y13) :: k0c2 P
noncomputable def k0 (p : Program) (P : Params) : Obj := ⟨(.type y0), none, .dict ⟨(de P z0 1 (.str z1 160) :: de P z2 2 (.builtin y1) :: de P z3 3 (.builtin y2) :: de P z4 4 (.builtin y3) :: de P z5 5 (.builtin y4) :: de P z6 6 (.builtin y5) :: de P z7 7 (.builtin y6) :: k0c1 P)⟩ 159, ⟨[]⟩⟩
noncomputable def k2c2 (P : Params) : List DictEntry := de P z176 368 (.bool true) :: []
noncomputable def k2c1 (P : Params) : List DictEntry := de P z167 265 (.ref 28) :: de P z168 0 (.str z169 0) :: de P z170 266 (.str z171 0) :: de P z172 278 (.bool true) :: de P z173 283 (.ref 34) :: de P z174 299 (.ref 39) :: de P z175 320 (.ref 44) :: k2c2 P
noncomputable def k2 (p : Program) (P : Params) : Obj := ⟨Value.none, none, .dict ⟨(de P z160 185 (.bool true) :: de P z161 187 (.ref 15) :: de P z162 208 (.ref 19) :: de P z163 218 (.ref 23) :: de P z164 247 (.int (Int.ofNat 4) 0) :: de P z165 248 (.bool true) :: de P z166 263 (.bool true) :: k2c1 P)⟩ 15, ⟨[]⟩⟩
noncomputable def k3c6 (P : Params) : List DictEntry := de P z216 1770 (.ref 1102) :: []
noncomputable def k3c5 (P : Params) : List DictEntry := de P z209 1183 (.ref 677) :: de P z210 1203 (.ref 687) :: de P z211 1278 (.ref 734) :: de P z212 1342 (.ref 786) :: de P z213 1391 (.ref 823) :: de P z214 1449 (.ref 867) :: de P z215 1762 (.ref 1093) :: k3c6 P
noncomputable def k3c4 (P : Params) : List DictEntry := de P z202 982 (.ref 521) :: de P z203 1042 (.ref 568) :: de P z204 1106 (.ref 613) :: de P z205 1149 (.ref 648) :: de P z206 1157 (.ref 656) :: de P z207 1167 (.ref 663) :: de P z208 1176 (.ref 670) :: k3c5 P
noncomputable def k3c3 (P : Params) : List DictEntry := de P z195 514 (.ref 161) :: de P z196 555 (.ref 194) :: de P z197 592 (.ref 224) :: de P z198 639 (.ref 260) :: de P z199 669 (.ref 283) :: de P z200 826 (.ref 399) :: de P z201 914 (.ref 471) :: k3c4 P
noncomputable def k3c2 (P : Params) : List DictEntry := de P z188 429 (.ref 84) :: de P z189 472 (.ref 117) :: de P z190 479 (.ref 126) :: de P z191 486 (.ref 133) :: de P z192 493 (.ref 140) :: de P z193 500 (.ref 147) :: de P z194 507 (.ref 154) :: k3c3 P
noncomputable def k3c1 (P : Params) : List DictEntry := de P z180 173 (.str z181 172) :: de P z182 174 Value.none :: de P z183 272 (.type y151) :: de P z184 375 (.builtin y152) :: de P z185 378 (.builtin y153) :: de P z186 391 (.ref 60) :: de P z187 403 (.ref 67) :: k3c2 P
noncomputable def k3 (p : Program) (P : Params) : Obj := ⟨(.type y0), none, .dict ⟨(de P z0 165 (.str z177 1763) :: de P z2 166 Value.none :: de P z3 167 Value.none :: de P z4 168 (.builtin y150) :: de P z5 169 Value.none :: de P z178 170 (.ref 6) :: de P z179 171 (.ref 4) :: k3c1 P)⟩ 43, ⟨[]⟩⟩
noncomputable def k83 (p : Program) (P : Params) : Obj := ⟨(.type y0), none, .dict ⟨[de P z217 413 (.str z218 404), de P z219 417 (.int (Int.ofNat 12) 416), de P z220 425 (.ref 81), de P z221 426 (.ref 82), de P z2 427 Value.none]⟩ 2, ⟨[]⟩⟩
noncomputable def k84 (p : Program) (P : Params) : Obj := ⟨(.type y72), none, .cls ⟨z188, [(.type y72)], [(.ref 84), (.type y72), (.type y63)], 83, z188, true, [], [(.ref 117)], false, none, false⟩, ⟨[(some (.ref 68)), none, (some (.str z188 406)), (some (.str z188 414)), (some (.builtin y154)), (some (.bool true))]⟩⟩
noncomputable def k99 (p : Program) (P : Params) : Obj := ⟨(.type y155), none, .fields ⟨[(.str z222 444), (.str z223 445), (.str z181 446), (.int (Int.ofNat 19) 0), (.int (Int.ofNat 2) 0), (.int (Int.ofNat 0) 0), (.int (Int.ofNat 0) 0), (.int (Int.ofNat 3) 0), (.ref 94), (.bool true), (.int (Int.ofNat 379) 0), (.ref 95), Value.none, (.ref 96), (.ref 97), (.ref 98), (.int (Int.ofNat 450) 0), (.int (Int.ofNat 19) 0), (.str z181 451)]⟩, ⟨[]⟩⟩
noncomputable def k100 (p : Program) (P : Params) : Obj := ⟨(.type y156), none, .func ⟨z222, z223, sArgs (stm (sBody (stm (p.main.body) 8)) 0), .stmts (sBody (stm (sBody (stm (p.main.body) 8)) 0)), sScope (stm (sBody (stm (p.main.body) 8)) 0), 3, [], Value.none, Value.none, Value.none, (.str z224 430), none, (.ref 99), Value.none, 0⟩, ⟨[]⟩⟩
noncomputable def k116 (p : Program) (P : Params) : Obj := ⟨(.type y0), none, .dict ⟨[de P z217 439 (.str z224 430), de P z219 443 (.int (Int.ofNat 17) 442), de P z222 452 (.ref 100), de P z225 460 (.ref 107), de P z220 468 (.ref 114), de P z221 469 (.ref 115), de P z2 470 Value.none]⟩ 2, ⟨[]⟩⟩
noncomputable def k117 (p : Program) (P : Params) : Obj := ⟨(.type y72), none, .cls ⟨z189, [(.ref 84)], [(.ref 117), (.ref 84), (.type y72), (.type y63)], 116, z189, true, [], [], false, none, false⟩, ⟨[(some (.ref 87)), none, (some (.str z189 432)), (some (.str z189 440)), (some (.builtin y154)), (some (.bool true))]⟩⟩
noncomputable def k466 (p : Program) (P : Params) : Obj := ⟨(.type y155), none, .fields ⟨[(.str z226 902), (.str z227 903), (.str z181 904), (.int (Int.ofNat 226) 0), (.int (Int.ofNat 2) 0), (.int (Int.ofNat 0) 0), (.int (Int.ofNat 0) 0), (.int (Int.ofNat 3) 0), (.ref 461), (.bool true), (.int (Int.ofNat 379) 0), (.ref 462), Value.none, (.ref 463), (.ref 464), (.ref 465), (.int (Int.ofNat 907) 0), (.int (Int.ofNat 226) 0), (.str z181 908)]⟩, ⟨[]⟩⟩
noncomputable def k467 (p : Program) (P : Params) : Obj := ⟨(.type y156), none, .func ⟨z226, z227, sArgs (stm (sBody (stm (p.main.body) 25)) 9), .stmts (sBody (stm (sBody (stm (p.main.body) 25)) 9)), sScope (stm (sBody (stm (p.main.body) 25)) 9), 3, [], Value.none, Value.none, Value.none, (.str z224 430), none, (.ref 466), Value.none, 0⟩, ⟨[]⟩⟩
noncomputable def k470c2 (P : Params) : List DictEntry := de P z237 912 Value.none :: de P z238 921 (.ref 474) :: []
noncomputable def k470c1 (P : Params) : List DictEntry := de P z233 885 (.ref 446) :: de P z234 892 (.ref 453) :: de P z235 900 (.ref 460) :: de P z236 901 Value.none :: de P z226 909 (.ref 467) :: de P z221 910 (.ref 468) :: de P z2 911 Value.none :: k470c2 P
noncomputable def k470 (p : Program) (P : Params) : Obj := ⟨(.type y0), none, .dict ⟨(de P z217 841 (.str z224 430) :: de P z219 845 (.int (Int.ofNat 191) 844) :: de P z228 846 (.ref 410) :: de P z229 854 (.ref 417) :: de P z230 863 (.ref 425) :: de P z231 871 (.ref 432) :: de P z232 878 (.ref 439) :: k470c1 P)⟩ 4, ⟨[]⟩⟩
noncomputable def k471 (p : Program) (P : Params) : Obj := ⟨(.ref 117), none, .cls ⟨z201, [(.ref 283)], [(.ref 471), (.ref 283), (.ref 224), (.ref 194), (.ref 260), (.type y63)], 470, z201, false, [], [], true, none, false⟩, ⟨[(some (.ref 403)), none, (some (.str z201 834)), (some (.str z201 842)), (some (.builtin y157)), (some (.bool false))]⟩⟩
noncomputable def k874 (p : Program) (P : Params) : Obj := ⟨(.type y158), none, .cell (some (.ref 1093)), ⟨[]⟩⟩
noncomputable def k879 (p : Program) (P : Params) : Obj := ⟨(.type y71), none, .seq ⟨[Value.none]⟩ 0, ⟨[]⟩⟩
noncomputable def k886 (p : Program) (P : Params) : Obj := ⟨(.type y155), none, .fields ⟨[(.str z239 1464), (.str z240 1465), (.str z181 1466), (.int (Int.ofNat 507) 0), (.int (Int.ofNat 2) 0), (.int (Int.ofNat 2) 0), (.int (Int.ofNat 0) 0), (.int (Int.ofNat 11) 0), (.ref 881), (.bool true), (.int (Int.ofNat 379) 0), (.ref 882), Value.none, (.ref 883), (.ref 884), (.ref 885), (.int (Int.ofNat 1471) 0), (.int (Int.ofNat 507) 0), (.str z181 1472)]⟩, ⟨[]⟩⟩
noncomputable def k887 (p : Program) (P : Params) : Obj := ⟨(.type y156), none, .func ⟨z239, z240, sArgs (stm (sBody (stm (p.main.body) 44)) 0), .stmts (sBody (stm (sBody (stm (p.main.body) 44)) 0)), sScope (stm (sBody (stm (p.main.body) 44)) 0), 3, [(z241, 874)], (.ref 879), Value.none, Value.none, (.str z242 1450), none, (.ref 886), (.ref 880), 0⟩, ⟨[]⟩⟩
noncomputable def k893 (p : Program) (P : Params) : Obj := ⟨(.type y155), none, .fields ⟨[(.str z243 1474), (.str z244 1475), (.str z181 1476), (.int (Int.ofNat 511) 0), (.int (Int.ofNat 2) 0), (.int (Int.ofNat 0) 0), (.int (Int.ofNat 0) 0), (.int (Int.ofNat 3) 0), (.ref 888), (.bool true), (.int (Int.ofNat 379) 0), (.ref 889), Value.none, (.ref 890), (.ref 891), (.ref 892), (.int (Int.ofNat 1479) 0), (.int (Int.ofNat 511) 0), (.str z181 1480)]⟩, ⟨[]⟩⟩
noncomputable def k894 (p : Program) (P : Params) : Obj := ⟨(.type y156), none, .func ⟨z243, z244, sArgs (stm (sBody (stm (p.main.body) 44)) 1), .stmts (sBody (stm (sBody (stm (p.main.body) 44)) 1)), sScope (stm (sBody (stm (p.main.body) 44)) 1), 3, [], Value.none, Value.none, Value.none, (.str z242 1450), none, (.ref 893), Value.none, 0⟩, ⟨[]⟩⟩
noncomputable def k900 (p : Program) (P : Params) : Obj := ⟨(.type y155), none, .fields ⟨[(.str z245 1482), (.str z246 1483), (.str z181 1484), (.int (Int.ofNat 514) 0), (.int (Int.ofNat 1) 0), (.int (Int.ofNat 0) 0), (.int (Int.ofNat 0) 0), (.int (Int.ofNat 3) 0), (.ref 895), (.bool true), (.int (Int.ofNat 379) 0), (.ref 896), Value.none, (.ref 897), (.ref 898), (.ref 899), (.int (Int.ofNat 1486) 0), (.int (Int.ofNat 514) 0), (.str z181 1487)]⟩, ⟨[]⟩⟩
noncomputable def k901 (p : Program) (P : Params) : Obj := ⟨(.type y156), none, .func ⟨z245, z246, sArgs (stm (sBody (stm (p.main.body) 44)) 2), .stmts (sBody (stm (sBody (stm (p.main.body) 44)) 2)), sScope (stm (sBody (stm (p.main.body) 44)) 2), 3, [], Value.none, Value.none, Value.none, (.str z242 1450), none, (.ref 900), Value.none, 0⟩, ⟨[]⟩⟩
noncomputable def k928 (p : Program) (P : Params) : Obj := ⟨(.type y71), none, .seq ⟨[Value.none]⟩ 0, ⟨[]⟩⟩
noncomputable def k935 (p : Program) (P : Params) : Obj := ⟨(.type y155), none, .fields ⟨[(.str z247 1525), (.str z248 1526), (.str z181 1527), (.int (Int.ofNat 530) 0), (.int (Int.ofNat 2) 0), (.int (Int.ofNat 2) 0), (.int (Int.ofNat 0) 0), (.int (Int.ofNat 11) 0), (.ref 930), (.bool true), (.int (Int.ofNat 379) 0), (.ref 931), Value.none, (.ref 932), (.ref 933), (.ref 934), (.int (Int.ofNat 1535) 0), (.int (Int.ofNat 530) 0), (.str z181 1536)]⟩, ⟨[]⟩⟩
noncomputable def k936 (p : Program) (P : Params) : Obj := ⟨(.type y156), none, .func ⟨z247, z248, sArgs (stm (sBody (stm (p.main.body) 44)) 6), .stmts (sBody (stm (sBody (stm (p.main.body) 44)) 6)), sScope (stm (sBody (stm (p.main.body) 44)) 6), 3, [(z241, 874)], (.ref 928), Value.none, Value.none, (.str z242 1450), none, (.ref 935), (.ref 929), 0⟩, ⟨[]⟩⟩
noncomputable def k1021 (p : Program) (P : Params) : Obj := ⟨(.type y155), none, .fields ⟨[(.str z249 1635), (.str z250 1636), (.str z181 1637), (.int (Int.ofNat 605) 0), (.int (Int.ofNat 2) 0), (.int (Int.ofNat 0) 0), (.int (Int.ofNat 0) 0), (.int (Int.ofNat 3) 0), (.ref 1016), (.bool true), (.int (Int.ofNat 379) 0), (.ref 1017), Value.none, (.ref 1018), (.ref 1019), (.ref 1020), (.int (Int.ofNat 1644) 0), (.int (Int.ofNat 605) 0), (.str z181 1645)]⟩, ⟨[]⟩⟩
noncomputable def k1022 (p : Program) (P : Params) : Obj := ⟨(.type y156), none, .func ⟨z249, z250, sArgs (stm (sBody (stm (p.main.body) 44)) 18), .stmts (sBody (stm (sBody (stm (p.main.body) 44)) 18)), sScope (stm (sBody (stm (p.main.body) 44)) 18), 3, [], Value.none, Value.none, Value.none, (.str z242 1450), none, (.ref 1021), Value.none, 0⟩, ⟨[]⟩⟩
noncomputable def k1028 (p : Program) (P : Params) : Obj := ⟨(.type y155), none, .fields ⟨[(.str z251 1647), (.str z252 1648), (.str z181 1649), (.int (Int.ofNat 618) 0), (.int (Int.ofNat 2) 0), (.int (Int.ofNat 0) 0), (.int (Int.ofNat 0) 0), (.int (Int.ofNat 3) 0), (.ref 1023), (.bool true), (.int (Int.ofNat 379) 0), (.ref 1024), Value.none, (.ref 1025), (.ref 1026), (.ref 1027), (.int (Int.ofNat 1656) 0), (.int (Int.ofNat 618) 0), (.str z181 1657)]⟩, ⟨[]⟩⟩
noncomputable def k1029 (p : Program) (P : Params) : Obj := ⟨(.type y156), none, .func ⟨z251, z252, sArgs (stm (sBody (stm (p.main.body) 44)) 19), .stmts (sBody (stm (sBody (stm (p.main.body) 44)) 19)), sScope (stm (sBody (stm (p.main.body) 44)) 19), 3, [], Value.none, Value.none, Value.none, (.str z242 1450), none, (.ref 1028), Value.none, 0⟩, ⟨[]⟩⟩
noncomputable def k1049 (p : Program) (P : Params) : Obj := ⟨(.type y155), none, .fields ⟨[(.str z253 1685), (.str z254 1686), (.str z181 1687), (.int (Int.ofNat 656) 0), (.int (Int.ofNat 1) 0), (.int (Int.ofNat 0) 0), (.int (Int.ofNat 0) 0), (.int (Int.ofNat 3) 0), (.ref 1044), (.bool true), (.int (Int.ofNat 379) 0), (.ref 1045), Value.none, (.ref 1046), (.ref 1047), (.ref 1048), (.int (Int.ofNat 1692) 0), (.int (Int.ofNat 656) 0), (.str z181 1693)]⟩, ⟨[]⟩⟩
noncomputable def k1050 (p : Program) (P : Params) : Obj := ⟨(.type y156), none, .func ⟨z253, z254, sArgs (stm (sBody (stm (p.main.body) 44)) 22), .stmts (sBody (stm (sBody (stm (p.main.body) 44)) 22)), sScope (stm (sBody (stm (p.main.body) 44)) 22), 3, [], Value.none, Value.none, Value.none, (.str z242 1450), none, (.ref 1049), Value.none, 0⟩, ⟨[]⟩⟩
noncomputable def k1056 (p : Program) (P : Params) : Obj := ⟨(.type y155), none, .fields ⟨[(.str z255 1695), (.str z256 1696), (.str z181 1697), (.int (Int.ofNat 663) 0), (.int (Int.ofNat 1) 0), (.int (Int.ofNat 0) 0), (.int (Int.ofNat 0) 0), (.int (Int.ofNat 3) 0), (.ref 1051), (.bool true), (.int (Int.ofNat 379) 0), (.ref 1052), Value.none, (.ref 1053), (.ref 1054), (.ref 1055), (.int (Int.ofNat 1702) 0), (.int (Int.ofNat 663) 0), (.str z181 1703)]⟩, ⟨[]⟩⟩
noncomputable def k1057 (p : Program) (P : Params) : Obj := ⟨(.type y156), none, .func ⟨z255, z256, sArgs (stm (sBody (stm (p.main.body) 44)) 23), .stmts (sBody (stm (sBody (stm (p.main.body) 44)) 23)), sScope (stm (sBody (stm (p.main.body) 44)) 23), 3, [], Value.none, Value.none, Value.none, (.str z242 1450), none, (.ref 1056), Value.none, 0⟩, ⟨[]⟩⟩
noncomputable def k1092c5 (P : Params) : List DictEntry := de P z237 1760 Value.none :: []
noncomputable def k1092c4 (P : Params) : List DictEntry := de P z274 1730 (.ref 1076) :: de P z275 1741 (.ref 1083) :: de P z276 1752 (.ref 1090) :: de P z221 1753 (.ref 1091) :: de P z277 1756 (.ref 1094) :: de P z278 1758 (.ref 1095) :: de P z2 1759 Value.none :: k1092c5 P
noncomputable def k1092c3 (P : Params) : List DictEntry := de P z251 1658 (.ref 1029) :: de P z270 1671 (.ref 1036) :: de P z271 1684 (.ref 1043) :: de P z253 1694 (.ref 1050) :: de P z255 1704 (.ref 1057) :: de P z272 1710 (.ref 1062) :: de P z273 1720 (.ref 1069) :: k1092c4 P
noncomputable def k1092c2 (P : Params) : List DictEntry := de P z235 1590 (.ref 980) :: de P z265 1598 (.ref 987) :: de P z266 1608 (.ref 994) :: de P z267 1616 (.ref 1001) :: de P z268 1626 (.ref 1008) :: de P z269 1634 (.ref 1015) :: de P z249 1646 (.ref 1022) :: k1092c3 P
noncomputable def k1092c1 (P : Params) : List DictEntry := de P z259 1524 (.ref 926) :: de P z247 1537 (.ref 936) :: de P z260 1549 (.ref 944) :: de P z261 1556 (.ref 951) :: de P z262 1563 (.ref 958) :: de P z263 1572 (.ref 966) :: de P z264 1580 (.ref 973) :: k1092c2 P
noncomputable def k1092 (p : Program) (P : Params) : Obj := ⟨(.type y0), none, .dict ⟨(de P z217 1459 (.str z242 1450) :: de P z219 1463 (.int (Int.ofNat 505) 1462) :: de P z239 1473 (.ref 887) :: de P z243 1481 (.ref 894) :: de P z245 1488 (.ref 901) :: de P z257 1496 (.ref 909) :: de P z258 1503 (.ref 916) :: k1092c1 P)⟩ 6, ⟨[]⟩⟩
noncomputable def k1093 (p : Program) (P : Params) : Obj := ⟨(.type y72), none, .cls ⟨z215, [(.type y0)], [(.ref 1093), (.type y0), (.type y63)], 1092, z215, true, [], [], false, none, false⟩, ⟨[(some (.ref 871)), none, (some (.str z215 1452)), (some (.str z215 1460)), (some (.builtin y159)), (some (.bool true))]⟩⟩
noncomputable def k1101 (p : Program) (P : Params) : Obj := ⟨(.type y155), none, .fields ⟨[(.str z216 1765), (.str z216 1766), (.str z181 1767), (.int (Int.ofNat 700) 0), (.int (Int.ofNat 1) 0), (.int (Int.ofNat 0) 0), (.int (Int.ofNat 0) 0), (.int (Int.ofNat 3) 0), (.ref 1098), (.bool true), (.int (Int.ofNat 379) 0), (.ref 1099), Value.none, Value.none, Value.none, (.ref 1100), (.int (Int.ofNat 1768) 0), (.int (Int.ofNat 700) 0), (.str z181 1769)]⟩, ⟨[]⟩⟩
noncomputable def k1102 (p : Program) (P : Params) : Obj := ⟨(.type y156), none, .func ⟨z216, z216, sArgs (stm (p.main.body) 46), .stmts (sBody (stm (p.main.body) 46)), sScope (stm (p.main.body) 46), 3, [], Value.none, Value.none, Value.none, (.str z177 1763), none, (.ref 1101), Value.none, 0⟩, ⟨[]⟩⟩
noncomputable def kas : List Nat := [0, 2, 3, 83, 84, 99, 100, 116, 117, 466, 467, 470, 471, 874, 879, 886, 887, 893, 894, 900, 901, 928, 935, 936, 1021, 1022, 1028, 1029, 1049, 1050, 1056, 1057, 1092, 1093, 1101, 1102]
noncomputable def klPc5 (p : Program) (P : Params) : List (Nat × Obj) := (1102, k1102 p P) :: []
noncomputable def klPc4 (p : Program) (P : Params) : List (Nat × Obj) := (1049, k1049 p P) :: (1050, k1050 p P) :: (1056, k1056 p P) :: (1057, k1057 p P) :: (1092, k1092 p P) :: (1093, k1093 p P) :: (1101, k1101 p P) :: klPc5 p P
noncomputable def klPc3 (p : Program) (P : Params) : List (Nat × Obj) := (928, k928 p P) :: (935, k935 p P) :: (936, k936 p P) :: (1021, k1021 p P) :: (1022, k1022 p P) :: (1028, k1028 p P) :: (1029, k1029 p P) :: klPc4 p P
noncomputable def klPc2 (p : Program) (P : Params) : List (Nat × Obj) := (879, k879 p P) :: (886, k886 p P) :: (887, k887 p P) :: (893, k893 p P) :: (894, k894 p P) :: (900, k900 p P) :: (901, k901 p P) :: klPc3 p P
noncomputable def klPc1 (p : Program) (P : Params) : List (Nat × Obj) := (116, k116 p P) :: (117, k117 p P) :: (466, k466 p P) :: (467, k467 p P) :: (470, k470 p P) :: (471, k471 p P) :: (874, k874 p P) :: klPc2 p P
noncomputable def klP (p : Program) (P : Params) : List (Nat × Obj) := (0, k0 p P) :: (2, k2 p P) :: (3, k3 p P) :: (83, k83 p P) :: (84, k84 p P) :: (99, k99 p P) :: (100, k100 p P) :: klPc1 p P
noncomputable def qv : Program := view pw [46]
noncomputable def loosec4 : List Str := ("chain" : Str) :: ("repeat" : Str) :: ("starmap" : Str) :: ("itemgetter" : Str) :: ("Counter" : Str) :: []
noncomputable def loosec3 : List Str := ("ItemsView" : Str) :: ("ValuesView" : Str) :: ("nlargest" : Str) :: ("_is_int" : Str) :: ("_whole" : Str) :: ("_pull" : Str) :: ("_NotGiven" : Str) :: loosec4
noncomputable def loosec2 : List Str := ("Sized" : Str) :: ("Container" : Str) :: ("Collection" : Str) :: ("Set" : Str) :: ("Mapping" : Str) :: ("MappingView" : Str) :: ("KeysView" : Str) :: loosec3
noncomputable def loosec1 : List Str := ("_abc_plain_meta" : Str) :: ("_abc_has_iter" : Str) :: ("_abc_has_len" : Str) :: ("_abc_has_contains" : Str) :: ("_abc_is_mappingproxy" : Str) :: ("_abc_is_builtin_collection" : Str) :: ("Iterable" : Str) :: loosec2
noncomputable def loose : List Str := ("deque" : Str) :: ("heapify" : Str) :: ("heapreplace" : Str) :: ("_wall" : Str) :: ("_count_elements" : Str) :: ("ABCMeta" : Str) :: ("_ABCLike" : Str) :: loosec1
noncomputable def lv (p : Program) (w : World) : List (Option Obj) × Nat × Nat := ((klP p w.params).map fun x => some x.2, 1103, 1771)
noncomputable def lhsP (p : Program) (w : World) := (whole p w 100000 100000).map fun x => (x.1.abs.heap.isNs mainGlobals && x.1.abs.gens.size == 0,
  staticsOk (importedModules p.main.body) x.1.abs.heap x.2.abs.heap && namesBound p x.2.abs.heap && gensDone x.2.abs && laidKept x.1.abs.heap x.2.abs.heap,
  openSeen (view p [46]) loose (importedModules p.main.body) (fun _ => true) true x.2.abs, (kas.map fun a => x.2.abs.heap.get? a, x.2.n, x.2.toks))
noncomputable def rhsP (p : Program) (w : World) := some (true, true, openGood (view p [46]) loose, lv p w)
noncomputable abbrev kl (P : Params) : List (Nat × Obj) := klP pw P
end Mine
lay_quick Mine.lhsP
lay_quick Mine.rhsP
namespace Mine
open PySem PySem.W

noncomputable abbrev tP : Program := pw
noncomputable abbrev tK : Params → List (Nat × Obj) := PySem.W.Fast.tw1676244692322491841 pw
theorem tP_eq : tP = pw := rfl
theorem tK_eq : tK = kl := congrFun PySem.W.Fast.te1676244692322491841.symm pw
noncomputable def kget : List (Nat × Obj) → Nat → Option Obj
  | [], _ => none
  | (n, o) :: r, a => match Nat.beq n a with
    | true => some o
    | false => kget r a
noncomputable def KK (w : World) (a : Nat) : Option Obj := kget (tK w.params) a
theorem kget_none {l : List (Nat × Obj)} {a : Nat} (h : ∀ x ∈ l, x.1 ≠ a) : kget l a = none := by
  induction l with
  | nil => rfl
  | cons x r ih =>
    obtain ⟨n, o⟩ := x
    unfold kget
    rw [show Nat.beq n a = false from by
      cases q : Nat.beq n a with
      | false => rfl
      | true => exact absurd (Nat.eq_of_beq_eq_true q) (h (n, o) List.mem_cons_self)]
    exact ih fun x hx => h x (List.mem_cons_of_mem _ hx)
theorem kget_some {l : List (Nat × Obj)} {a : Nat} {o : Obj} (h : kget l a = some o) : (a, o) ∈ l := by
  induction l with
  | nil => cases h
  | cons x r ih =>
    obtain ⟨n, o'⟩ := x
    unfold kget at h
    cases q : Nat.beq n a with
    | true =>
      rw [q] at h
      cases h
      rw [Nat.eq_of_beq_eq_true q]
      exact List.mem_cons_self
    | false =>
      rw [q] at h
      exact List.mem_cons_of_mem _ (ih h)
theorem KK_none {w : World} {a : Nat} (h : 1103 ≤ a) : KK w a = none := by
  refine kget_none fun x hx => ?_
  have : ∀ x ∈ tK w.params, x.1 < 1103 := by
    rw [tK_eq]
    have : (kl w.params).map (·.1) = kas := rfl
    intro x hx
    have hm : x.1 ∈ kas := this ▸ List.mem_map.mpr ⟨x, hx, rfl⟩
    exact of_decide_eq_true (List.all_eq_true.mp (show kas.all (fun a => decide (a < 1103)) = true by decide) _ hm)
  have := this x hx
  omega

noncomputable abbrev clsC : Value := .ref 1093
noncomputable abbrev clsD : Value := .type "dict"
noncomputable def sSet (cls : Value) (dd : Option Nat) (i d : Nat) (es : List E) (ep : Nat) (x : Int) (t : Nat) (y : Int) (u : Nat) : Summ :=
  { code := .builtin "dict.__setitem__" ⟨[.ref d, .int x t, .int y u], []⟩, res := .ok (.ret .none), pre := [(i, d, dObj cls dd es ep)],
    post := [(i, d, dObj cls dd (esSet es x t y u) (match esFind es x with | some _ => ep | none => ep + 1))], dtok := 1 }
noncomputable def xSet (d : Nat) (x : Int) (t : Nat) (y : Int) (u : Nat) : Sem PySem.Fin := PySem.W.R.bindR (PySem.W.Fast.tw11925912800584824493 d (.int x t) (.int y u)) fun _ => PySem.W.Fast.tw6905046200447255374 .none
variable {b c : Bool} {w : World}
theorem xSet_any {A : Around} {EE : Value → Shared → Prop} {s : Shared} {d : Nat} {cls : Value} {dd : Option Nat} {es : List E} {ep : Nat} {x : Int} {t : Nat} {y : Int} {u : Nat} {Q : PySem.Fin → Shared → Prop} (ho : s.heap.get? d = some (dObj cls dd es ep)) (hz : es.length ≤ sizeLine)
    (h : Q (Fin.done (.ret .none)) { s with heap := s.heap.update d (setF es x t y u), toks := s.toks + 1 }) :
    wpAny (model tP w) A (xSet d x t y u) Q EE s := by
  unfold xSet
  rw [← PySem.W.Fast.te11925912800584824493, ← PySem.W.Fast.te6905046200447255374, ← PySem.W.R.bindR_eq]
  exact wpAny_bind (m := dictSet d (.int x t) (.int y u)) (f := fun _ => pure (Fin.done (.ret .none))) (any_dictSet ho hz (wpAny_pure h))
theorem sSetD_run (i d : Nat) (es : List E) (ep : Nat) (x : Int) (t : Nat) (y : Int) (u : Nat) (sz tok : Nat) (k : Result → Sem PySem.Fin) (g : Bool) (l : List Value) (code : Code) (pos pos' : Pos) (kp : List Value) (W : List (Code × Pos)) (gens : List GenState) :
    chk (tR tP (tW b c w) (KK (tW b c w)) W 1 [.s 0] (mkT [(d, dObj clsD none es ep)]) 1 sz gens tok [] (tD (sSet clsD none i d es ep x t y u).code) (sSet clsD none i d es ep x t y u).code pos' [.ret k none g l code pos kp] [] []) (mids 1) =
    chk' (tR tP (tW b c w) (KK (tW b c w)) W 1 [.s 0] (mkT [(d, dObj clsD none es ep)]) 1 sz gens tok [] (tD (sSet clsD none i d es ep x t y u).code) (sSet clsD none i d es ep x t y u).code pos' [.ret k none g l code pos kp] [] [])
      (xSet d x t y u, (sSet clsD none i d es ep x t y u).code, [.ret k none g l code pos kp], sz, tok, gens, [(d, dObj clsD none es ep)].map some) := by kernel_rfl
theorem sSetC_run (i d dd : Nat) (es : List E) (ep : Nat) (x : Int) (t : Nat) (y : Int) (u : Nat) (sz tok : Nat) (k : Result → Sem PySem.Fin) (g : Bool) (l : List Value) (code : Code) (pos pos' : Pos) (kp : List Value) (W : List (Code × Pos)) (gens : List GenState) :
    chk (tR tP (tW b c w) (KK (tW b c w)) W 3 [.s 0, .s 0, .k 0] (mkT [(d, dObj clsC (some dd) es ep)]) 1 sz gens tok [] (tD (sSet clsC (some dd) i d es ep x t y u).code) (sSet clsC (some dd) i d es ep x t y u).code pos' [.ret k none g l code pos kp] [] []) (mids 1) =
    chk' (tR tP (tW b c w) (KK (tW b c w)) W 3 [.s 0, .s 0, .k 0] (mkT [(d, dObj clsC (some dd) es ep)]) 1 sz gens tok [] (tD (sSet clsC (some dd) i d es ep x t y u).code) (sSet clsC (some dd) i d es ep x t y u).code pos' [.ret k none g l code pos kp] [] [])
      (xSet d x t y u, (sSet clsC (some dd) i d es ep x t y u).code, [.ret k none g l code pos kp], sz, tok, gens, [(d, dObj clsC (some dd) es ep)].map some) := by kernel_rfl
theorem set_H {cls : Value} {dd : Option Nat} {i d : Nat} {es : List E} {ep : Nat} {x : Int} {t : Nat} {y : Int} {u : Nat} (hz : es.length ≤ sizeLine) {sz tok : Nat} (s : Shared) (hpre : ∀ q ∈ (sSet cls dd i d es ep x t y u).pre, s.heap.get? q.2.1 = some q.2.2) (hs : s.heap.objs.size = sz) (ht : s.toks = tok) : ∃ h' : Heap,
      (∀ A : Around, A.handled = none → wpAny (model tP w) A (xSet d x t y u) (fun fin s' => ∃ f, fin = .done f ∧ (sSet cls dd i d es ep x t y u).res = .ok f ∧ s' = { s with heap := h', toks := tok + (sSet cls dd i d es ep x t y u).dtok }) (fun e s' => (sSet cls dd i d es ep x t y u).res = .error e ∧ s' = { s with heap := h', toks := tok + (sSet cls dd i d es ep x t y u).dtok }) s) ∧
      h'.objs.size = (sSet cls dd i d es ep x t y u).dsz.getD 0 + sz + (sSet cls dd i d es ep x t y u).dl ∧ (∀ q ∈ (sSet cls dd i d es ep x t y u).post, h'.get? q.2.1 = some q.2.2) ∧ (∀ q ∈ (sSet cls dd i d es ep x t y u).new, h'.get? (sz + q.1) = some q.2) ∧
      ∀ b o, s.heap.get? b = some o → (∀ q ∈ (sSet cls dd i d es ep x t y u).post, q.2.1 ≠ b) → h'.get? b = some o := by
  have h1 : s.heap.get? d = some (dObj cls dd es ep) := hpre (i, d, dObj cls dd es ep) (by simp [sSet])
  have hsb : Heap.SameBut d s.heap (s.heap.update d (setF es x t y u)) := Heap.SameBut.update ..
  refine ⟨s.heap.update d (setF es x t y u), fun A hA => xSet_any h1 hz ⟨_, rfl, rfl, by subst ht; rfl⟩, by rw [hsb.1, hs]; exact (Nat.zero_add _).symm, fun q hq => ?_, (fun q hq => nomatch hq), fun b o hb hn => ?_⟩
  · simp only [sSet, List.mem_singleton] at hq
    subst hq
    have := Heap.get?_update_self (setF es x t y u) h1 (by rw [setF_eq]; rfl)
    rw [setF_eq] at this
    exact this
  · exact (hsb.2 b fun z => hn (i, d, _) (List.mem_singleton.mpr rfl) z.symm).trans hb
theorem sSetD_ok {i d : Nat} {es : List E} {ep : Nat} {x : Int} {t : Nat} {y : Int} {u : Nat} (hz : es.length ≤ sizeLine) (hd : 1103 ≤ d) (sz tok : Nat) : (sSet clsD none i d es ep x t y u).Valid (mdl tP (tW b c w)) (KK (tW b c w)) sz tok :=
  Summ.ofPre [(d, dObj clsD none es ep)] (xSet d x t y u) 1 [.s 0] 1 rfl rfl rfl rfl rfl (by simp) (fun q hq => by rw [List.mem_singleton.mp hq]; exact KK_none hd) rfl trivial
    (fun k g l code pos pos' kp W gens _ => sSetD_run i d es ep x t y u sz tok k g l code pos pos' kp W gens) (fun s => set_H hz s)
theorem sSetC_ok {i d dd : Nat} {es : List E} {ep : Nat} {x : Int} {t : Nat} {y : Int} {u : Nat} (hz : es.length ≤ sizeLine) (hd : 1103 ≤ d) (sz tok : Nat) : (sSet clsC (some dd) i d es ep x t y u).Valid (mdl tP (tW b c w)) (KK (tW b c w)) sz tok :=
  Summ.ofPre [(d, dObj clsC (some dd) es ep)] (xSet d x t y u) 3 [.s 0, .s 0, .k 0] 1 rfl rfl rfl rfl rfl (by simp) (fun q hq => by rw [List.mem_singleton.mp hq]; exact KK_none hd) rfl trivial
    (fun k g l code pos pos' kp W gens _ => sSetC_run i d dd es ep x t y u sz tok k g l code pos pos' kp W gens) (fun s => set_H hz s)

/-- the copy of a plain dict into an empty Counter -/
noncomputable def sUpd (dd : Nat) (i j d o : Nat) (es : List E) (ep : Nat) : Summ :=
  { code := .builtin "dict.update" ⟨[.ref d, .ref o], []⟩, res := .ok (.ret .none), pre := [(i, d, dObj clsC (some dd) [] 0), (j, o, dObj clsD none es ep)], post := [(i, d, dObj clsC (some dd) es es.length)] }
noncomputable def xUpd (d o : Nat) : Sem PySem.Fin := PySem.W.R.bindR (PySem.W.Fast.tw3262940954092997956 PySem.W.SL.s17922960074652564335x11 d o) fun _ => PySem.W.R.bindR (PySem.W.Fast.tw7919365801931557858 d []) fun _ => PySem.W.Fast.tw6905046200447255374 .none
theorem sUpd_run (dd i j d o : Nat) (es : List E) (ep : Nat) (sz tok : Nat) (k : Result → Sem PySem.Fin) (g : Bool) (l : List Value) (code : Code) (pos pos' : Pos) (kp : List Value) (W : List (Code × Pos)) (gens : List GenState) :
    chk (tR tP (tW b c w) (KK (tW b c w)) W 6 [.s 0, .s 0, .k 0, .s 1, .s 1, .s 1] (mkT [(d, dObj clsC (some dd) [] 0), (o, dObj clsD none es ep)]) 2 sz gens tok [] (tD (sUpd dd i j d o es ep).code) (sUpd dd i j d o es ep).code pos' [.ret k none g l code pos kp] [] []) (mids 2) =
    chk' (tR tP (tW b c w) (KK (tW b c w)) W 6 [.s 0, .s 0, .k 0, .s 1, .s 1, .s 1] (mkT [(d, dObj clsC (some dd) [] 0), (o, dObj clsD none es ep)]) 2 sz gens tok [] (tD (sUpd dd i j d o es ep).code) (sUpd dd i j d o es ep).code pos' [.ret k none g l code pos kp] [] [])
      (xUpd d o, (sUpd dd i j d o es ep).code, [.ret k none g l code pos kp], sz, tok, gens, [(d, dObj clsC (some dd) [] 0), (o, dObj clsD none es ep)].map some) := by kernel_rfl
theorem xUpd_any {A : Around} {EE : Value → Shared → Prop} {s : Shared} {dd d o : Nat} {es : List E} {ep : Nat} {Q : PySem.Fin → Shared → Prop} (hne : d ≠ o) (hoS : (o == sysModules) = false) (hd : s.heap.get? d = some (dObj clsC (some dd) [] 0))
    (ho : s.heap.get? o = some (dObj clsD none es ep)) (hz : es.length ≤ 8) (h8 : 8 ≤ sizeLine) (nd : (es.map (·.k)).Nodup)
    (h : Q (Fin.done (.ret .none)) { s with heap := cpH d s.heap [] es }) : wpAny (model tP w) A (xUpd d o) Q EE s := by
  unfold xUpd
  rw [← PySem.W.Fast.te3262940954092997956, ← PySem.W.Fast.te7919365801931557858, ← PySem.W.Fast.te6905046200447255374, ← PySem.W.R.bindR_eq]
  exact wpAny_bind (m := Builtin.Dict.mergeDict _ d o) (f := fun _ => (Builtin.Dict.addKeywords d [] >>= fun _ => pure (Fin.done (.ret .none)))) (any_mergeDict hne hoS hd ho hz h8 nd (wpAny_bind (m := Builtin.Dict.addKeywords d []) (wpAny_pure (wpAny_pure h))))
theorem sUpd_ok {dd i j d o : Nat} {es : List E} {ep : Nat} (hne : d ≠ o) (hz : es.length ≤ 8) (nd : (es.map (·.k)).Nodup) (hd : 1103 ≤ d) (ho : 1103 ≤ o) (sz tok : Nat) : (sUpd dd i j d o es ep).Valid (mdl tP (tW b c w)) (KK (tW b c w)) sz tok := by
  refine Summ.ofPre [(d, dObj clsC (some dd) [] 0), (o, dObj clsD none es ep)] (xUpd d o) 6 [.s 0, .s 0, .k 0, .s 1, .s 1, .s 1] 2 rfl rfl rfl rfl rfl (by simpa using hne) (fun q hq => ?_) rfl trivial
    (fun k g l code pos pos' kp W gens _ => sUpd_run dd i j d o es ep sz tok k g l code pos pos' kp W gens) (fun s hpre hs ht => ?_)
  · simp only [List.mem_cons, List.not_mem_nil, or_false] at hq
    rcases hq with rfl | rfl
    · exact KK_none hd
    · exact KK_none ho
  · have h1 : s.heap.get? d = some (dObj clsC (some dd) [] 0) := hpre (i, d, dObj clsC (some dd) [] 0) (by simp [sUpd])
    have h2 : s.heap.get? o = some (dObj clsD none es ep) := hpre (j, o, dObj clsD none es ep) (by simp [sUpd])
    obtain ⟨g1, g2⟩ := cpH_get (d := d) es [] s.heap 0 h1 (by simpa using nd)
    refine ⟨cpH d s.heap [] es, fun A hA => xUpd_any hne ?_ h1 h2 hz (by size_fits) nd ⟨_, rfl, rfl, by subst ht; rfl⟩, by rw [g2.1, hs]; exact (Nat.zero_add _).symm, fun q hq => ?_, (fun q hq => nomatch hq), fun b o' hb hn => ?_⟩
    · have : o ≠ sysModules := fun z => by rw [z] at ho; exact absurd ho (by decide)
      simpa using this
    · simp only [sUpd, List.mem_singleton] at hq
      subst hq
      rw [g1]; simp
    · exact (g2.2 b fun z => hn (i, d, _) (List.mem_singleton.mpr rfl) z.symm).trans hb

/-- the token of a number among a call's arguments -/
noncomputable def argTok : Code → Nat → Nat
  | .builtin _ ⟨l, _⟩, i => (match l[i]? with | some (.int _ t) => t | _ => 0)
  | _, _ => 0
noncomputable def sCmp (id : String) (x y : Int) (b : Bool) (c : Code) : Summ := { code := .builtin id ⟨[.int x (argTok c 0), .int y (argTok c 1)], []⟩, res := .ok (.ret (.bool b)) }
theorem sGt_ok {x y : Int} {r : Bool} (h : (decide (x > y)) = r) (cc : Code) (sz tok : Nat) : (sCmp "int.__gt__" x y r cc).Valid (mdl tP (tW b c w)) (KK (tW b c w)) sz tok := by
  subst h
  refine Summ.ofRun [] [] [] 1 [] 0 [] rfl rfl rfl rfl (fun _ z => nomatch z) (fun _ z => nomatch z) (by simp) (fun _ z => nomatch z) rfl (fun _ z => nomatch z) (fun _ z => nomatch z) trivial fun k g l code pos pos' kp W gens _ => ?_
  generalize argTok cc 0 = t0, argTok cc 1 = t1
  unfold sCmp
  kernel_rfl
theorem sLt_ok {x y : Int} {r : Bool} (h : (decide (x < y)) = r) (cc : Code) (sz tok : Nat) : (sCmp "int.__lt__" x y r cc).Valid (mdl tP (tW b c w)) (KK (tW b c w)) sz tok := by
  subst h
  refine Summ.ofRun [] [] [] 1 [] 0 [] rfl rfl rfl rfl (fun _ z => nomatch z) (fun _ z => nomatch z) (by simp) (fun _ z => nomatch z) rfl (fun _ z => nomatch z) (fun _ z => nomatch z) trivial fun k g l code pos pos' kp W gens _ => ?_
  generalize argTok cc 0 = t0, argTok cc 1 = t1
  unfold sCmp
  kernel_rfl
theorem sEq_ok {x y : Int} {r : Bool} (h : (x == y) = r) (cc : Code) (sz tok : Nat) : (sCmp "int.__eq__" x y r cc).Valid (mdl tP (tW b c w)) (KK (tW b c w)) sz tok := by
  subst h
  refine Summ.ofRun [] [] [] 1 [] 0 [] rfl rfl rfl rfl (fun _ z => nomatch z) (fun _ z => nomatch z) (by simp) (fun _ z => nomatch z) rfl (fun _ z => nomatch z) (fun _ z => nomatch z) trivial fun k g l code pos pos' kp W gens _ => ?_
  generalize argTok cc 0 = t0, argTok cc 1 = t1
  unfold sCmp
  kernel_rfl
theorem sNe_ok {x y : Int} {r : Bool} (h : (x != y) = r) (cc : Code) (sz tok : Nat) : (sCmp "int.__ne__" x y r cc).Valid (mdl tP (tW b c w)) (KK (tW b c w)) sz tok := by
  subst h
  refine Summ.ofRun [] [] [] 1 [] 0 [] rfl rfl rfl rfl (fun _ z => nomatch z) (fun _ z => nomatch z) (by simp) (fun _ z => nomatch z) rfl (fun _ z => nomatch z) (fun _ z => nomatch z) trivial fun k g l code pos pos' kp W gens _ => ?_
  generalize argTok cc 0 = t0, argTok cc 1 = t1
  unfold sCmp
  kernel_rfl
theorem sLe_ok {x y : Int} {r : Bool} (h : (decide (x ≤ y)) = r) (cc : Code) (sz tok : Nat) : (sCmp "int.__le__" x y r cc).Valid (mdl tP (tW b c w)) (KK (tW b c w)) sz tok := by
  subst h
  refine Summ.ofRun [] [] [] 1 [] 0 [] rfl rfl rfl rfl (fun _ z => nomatch z) (fun _ z => nomatch z) (by simp) (fun _ z => nomatch z) rfl (fun _ z => nomatch z) (fun _ z => nomatch z) trivial fun k g l code pos pos' kp W gens _ => ?_
  generalize argTok cc 0 = t0, argTok cc 1 = t1
  unfold sCmp
  kernel_rfl
theorem sGe_ok {x y : Int} {r : Bool} (h : (decide (x ≥ y)) = r) (cc : Code) (sz tok : Nat) : (sCmp "int.__ge__" x y r cc).Valid (mdl tP (tW b c w)) (KK (tW b c w)) sz tok := by
  subst h
  refine Summ.ofRun [] [] [] 1 [] 0 [] rfl rfl rfl rfl (fun _ z => nomatch z) (fun _ z => nomatch z) (by simp) (fun _ z => nomatch z) rfl (fun _ z => nomatch z) (fun _ z => nomatch z) trivial fun k g l code pos pos' kp W gens _ => ?_
  generalize argTok cc 0 = t0, argTok cc 1 = t1
  unfold sCmp
  kernel_rfl
end Mine
namespace Mine
open PySem PySem.W

noncomputable abbrev tstm := PySem.W.Fast.tw3068626590216125067
noncomputable def lawS : Stmt := tstm tP.main.body 46
noncomputable def sFor : Stmt → Value → Env → Code
  | .For t _ b o _ => fun it env => .forLoop t it b o env
  | _ => fun _ _ => .call .none ⟨[], []⟩
noncomputable def str (s : String) : Str := s
noncomputable def envL : Env := ⟨sScope lawS, 1104, 3, [(str "part", 1106), (str "counts", 1105)], str "law.<locals>.", some 1102, .ref 1101, some 1104, 0⟩
noncomputable def cA : Code := sFor (tstm (sBody lawS) 1) (.ref 1108) envL
noncomputable def frObj (P : Params) (l : List (Str × Nat × Value)) (ep : Nat) : Obj := ⟨.type "frame", none, .dict ⟨l.map fun x => de P x.1 x.2.1 x.2.2⟩ ep, #[]⟩
noncomputable def ceObj (v : Option Value) : Obj := ⟨.type "cell", none, .cell v, #[]⟩
noncomputable abbrev Loc := Option (Nat × Value)
noncomputable def frA (P : Params) (t0 : Nat) : Loc → Obj
  | none => frObj P [(str "script", t0, .ref 1103)] 1
  | some (t1, v) => frObj P [(str "script", t0, .ref 1103), (str "x", t1, v)] 2
noncomputable def epSet (es : List E) (x : Int) (ep : Nat) : Nat := match esFind es x with | some _ => ep | none => ep + 1
noncomputable def locSet (t : Nat) (v : Value) : Loc → Loc
  | none => some (t, v)
  | some (t1, _) => some (t1, v)
noncomputable def goA : List (Int × Nat) → List E → Nat → Nat → Loc → List E × Nat × Loc
  | [], es, ep, _, o => (es, ep, o)
  | (x, u) :: r, es, ep, t, o => goA r (esSet es (x.fmod 5) (t + 4) (x.fdiv 5) (t + 2)) (epSet es (x.fmod 5) ep) (t + 6) (locSet t (.int x u) o)
noncomputable def iv (x : Int × Nat) : Value := .int x.1 x.2
/-- the law's first loop -/
noncomputable def sA (P : Params) (t0 : Nat) (xs : List Value) (n : Nat) (o : Loc) (es : List E) (ep : Nat) (es' : List E) (ep' : Nat) (o' : Loc) (m : Nat) : Summ :=
  { code := cA, res := .ok .next, pre := [(5, 1108, liObj 1103 n), (0, 1103, lsObj xs 0), (1, 1104, frA P t0 o), (2, 1105, ceObj (some (.ref 1107))), (4, 1107, dObj clsD none es ep)],
    post := [(5, 1108, liEnd (liObj 1103 xs.length)), (1, 1104, frA P t0 o'), (4, 1107, dObj clsD none es' ep')], dl := 2, dtok := 6 * m }
noncomputable def Good (N : Nat) (es : List E) : Prop := (es.map (·.k)).Nodup ∧ ∀ e ∈ es, 0 ≤ e.k ∧ e.k < N
variable {b c : Bool} {w : World}

theorem turnA (t0 : Nat) (xs : List Value) (n : Nat) (x : Int) (u : Nat) (o : Loc) (es : List E) (ep t : Nat) (k : Result → Sem PySem.Fin) (g : Bool) (l : List Value) (code : Code) (pos pos' : Pos) (kp : List Value) (W : List (Code × Pos)) (gens : List GenState) :
    chk (tR tP (tW b c w) (KK (tW b c w)) W 38 [.s 0, .k 0, .s 0, .a fun _ _ _ => sLiNext 0 1 1108 1103 n xs 0 (.int x u), .s 2, .s 2, .s 2, .k 0, .s 3, .s 2, .k 0, .s 4, .s 4, .k 0, .s 4, .a fun _ _ _ => sSet clsD none 4 1107 es ep (x.fmod 5) (t + 4) (x.fdiv 5) (t + 2)]
        (mkT [(1108, liObj 1103 n), (1103, lsObj xs 0), (1104, frA (tW b c w).params t0 o), (1105, ceObj (some (.ref 1107))), (1107, dObj clsD none es ep)]) 5 1109 gens t [] (tD cA) cA pos' [.ret k none g l code pos kp] [] []) (turns 5) =
    chk' (tR tP (tW b c w) (KK (tW b c w)) W 38 [.s 0, .k 0, .s 0, .a fun _ _ _ => sLiNext 0 1 1108 1103 n xs 0 (.int x u), .s 2, .s 2, .s 2, .k 0, .s 3, .s 2, .k 0, .s 4, .s 4, .k 0, .s 4, .a fun _ _ _ => sSet clsD none 4 1107 es ep (x.fmod 5) (t + 4) (x.fdiv 5) (t + 2)]
        (mkT [(1108, liObj 1103 n), (1103, lsObj xs 0), (1104, frA (tW b c w).params t0 o), (1105, ceObj (some (.ref 1107))), (1107, dObj clsD none es ep)]) 5 1109 gens t [] (tD cA) cA pos' [.ret k none g l code pos kp] [] [])
      (tD cA, cA, [.ret k none g l code pos kp], 1109, t + 6, appG gens [], [(1108, liObj 1103 (n + 1)), (1103, lsObj xs 0), (1104, frA (tW b c w).params t0 (locSet t (.int x u) o)), (1105, ceObj (some (.ref 1107))), (1107, dObj clsD none (esSet es (x.fmod 5) (t + 4) (x.fdiv 5) (t + 2)) (epSet es (x.fmod 5) ep))].map some) := by
  cases o <;> cases b <;> kernel_rfl

theorem endA (t0 : Nat) (xs : List Value) (n : Nat) (o : Loc) (es : List E) (ep t : Nat) (k : Result → Sem PySem.Fin) (g : Bool) (l : List Value) (code : Code) (pos pos' : Pos) (kp : List Value) (W : List (Code × Pos)) (gens : List GenState) :
    chk (tR tP (tW b c w) (KK (tW b c w)) W 8 [.s 0, .k 0, .s 0, .a fun _ sz _ => sLiEnd 0 1 1108 1103 n xs 0 sz, .s 6]
        (mkT [(1108, liObj 1103 n), (1103, lsObj xs 0), (1104, frA (tW b c w).params t0 o), (1105, ceObj (some (.ref 1107))), (1107, dObj clsD none es ep)]) 5 1109 gens t [] (tD cA) cA pos' [.ret k none g l code pos kp] [] []) (ends 5 []) =
    chk' (tR tP (tW b c w) (KK (tW b c w)) W 8 [.s 0, .k 0, .s 0, .a fun _ sz _ => sLiEnd 0 1 1108 1103 n xs 0 sz, .s 6]
        (mkT [(1108, liObj 1103 n), (1103, lsObj xs 0), (1104, frA (tW b c w).params t0 o), (1105, ceObj (some (.ref 1107))), (1107, dObj clsD none es ep)]) 5 1109 gens t [] (tD cA) cA pos' [.ret k none g l code pos kp] [] [])
      (k (.ok .next), code, pos, [], 1111, t, gens, [], [(1108, liEnd (liObj 1103 n)), (1103, lsObj xs 0), (1104, frA (tW b c w).params t0 o), (1105, ceObj (some (.ref 1107))), (1107, dObj clsD none es ep)].map some, []) := by
  cases o <;> cases b <;> kernel_rfl

theorem sA_ok (t0 : Nat) (xs : List Value) : ∀ (rem : List (Int × Nat)) (n : Nat) (o : Loc) (es : List E) (ep tok : Nat), xs.drop n = rem.map iv → n + rem.length = xs.length → (∀ es x t y u, Good 5 es → 0 ≤ x → x < 5 → Good 5 (esSet es x t y u)) → (∀ es, Good 5 es → es.length ≤ sizeLine) → Good 5 es →
    (sA (tW b c w).params t0 xs n o es ep (goA rem es ep tok o).1 (goA rem es ep tok o).2.1 (goA rem es ep tok o).2.2 rem.length).Valid (mdl tP (tW b c w)) (KK (tW b c w)) 1109 tok
  | [], n, o, es, ep, tok, hx, hn, hG, hL, hes => by
    have hn' : n = xs.length := by simpa using hn
    subst hn'
    refine Summ.ofRun [(1108, liObj 1103 xs.length), (1103, lsObj xs 0), (1104, frA (tW b c w).params t0 o), (1105, ceObj (some (.ref 1107))), (1107, dObj clsD none es ep)]
      [(1108, liEnd (liObj 1103 xs.length)), (1103, lsObj xs 0), (1104, frA (tW b c w).params t0 o), (1105, ceObj (some (.ref 1107))), (1107, dObj clsD none es ep)] [] 8 [.s 0, .k 0, .s 0, .a fun _ sz _ => sLiEnd 0 1 1108 1103 xs.length xs 0 sz, .s 6] 5 []
      rfl rfl rfl rfl (by simp [sA, goA]) (by simp [sA, goA]) (by simp) (fun q hq => KK_none ?_) rfl (fun l hl => nomatch hl) (fun l hl => nomatch hl) ⟨fun c sz tok _ _ => ⟨sLiEnd_ok (by simp) sz tok, by simp [sLiEnd]⟩, trivial⟩
      (fun k g l code pos pos' kp W gens _ => endA t0 xs xs.length o es ep tok k g l code pos pos' kp W gens)
    simp only [List.mem_cons, List.not_mem_nil, or_false] at hq
    rcases hq with rfl | rfl | rfl | rfl | rfl <;> exact Nat.le_of_ble_eq_true rfl
  | (x, u) :: r, n, o, es, ep, tok, hx, hn, hG, hL, hes => by
    have hv : xs[n]? = some (.int x u) := by
      have := congrArg (·[0]?) hx
      simpa [iv] using this
    have hx' : xs.drop (n + 1) = r.map iv := by
      have := congrArg List.tail hx
      simpa using this
    have hn' : n + 1 + r.length = xs.length := by simpa [Nat.add_assoc, Nat.add_comm 1] using hn
    have h0 : 0 ≤ x.fmod 5 := Int.fmod_nonneg_of_pos x (by decide)
    have h5 : x.fmod 5 < 5 := Int.fmod_lt_of_pos x (by decide)
    have next := sA_ok t0 xs r (n + 1) (locSet tok (.int x u) o) (esSet es (x.fmod 5) (tok + 4) (x.fdiv 5) (tok + 2)) (epSet es (x.fmod 5) ep) (tok + 6) hx' hn' hG hL (hG _ _ _ _ _ hes h0 h5)
    refine Summ.ofTurn [(5, 1108, liObj 1103 (n + 1)), (0, 1103, lsObj xs 0), (1, 1104, frA (tW b c w).params t0 (locSet tok (.int x u) o)), (2, 1105, ceObj (some (.ref 1107))), (4, 1107, dObj clsD none (esSet es (x.fmod 5) (tok + 4) (x.fdiv 5) (tok + 2)) (epSet es (x.fmod 5) ep))] none 2 (6 * r.length) [] [] 1109 (tok + 6)
      [(1108, liObj 1103 n), (1103, lsObj xs 0), (1104, frA (tW b c w).params t0 o), (1105, ceObj (some (.ref 1107))), (1107, dObj clsD none es ep)] 38
      [.s 0, .k 0, .s 0, .a fun _ _ _ => sLiNext 0 1 1108 1103 n xs 0 (.int x u), .s 2, .s 2, .s 2, .k 0, .s 3, .s 2, .k 0, .s 4, .s 4, .k 0, .s 4, .a fun _ _ _ => sSet clsD none 4 1107 es ep (x.fmod 5) (tok + 4) (x.fdiv 5) (tok + 2)] 5
      rfl rfl rfl rfl rfl rfl (by simp [sA]) (by simp) (fun q hq => KK_none ?_) rfl rfl rfl (by show tok + 6 * (r.length + 1) = tok + 6 + 6 * r.length; omega)
      ⟨fun c sz tok _ _ => ⟨sLiNext_ok hv sz tok, by simp [sLiNext]⟩, ⟨fun c sz tok _ _ => ⟨sSetD_ok (hL es hes) (by decide) sz tok, by simp [sSet]⟩, trivial⟩⟩
      (fun k g l code pos pos' kp W gens _ => turnA t0 xs n x u o es ep tok k g l code pos pos' kp W gens) next
    simp only [List.mem_cons, List.not_mem_nil, or_false] at hq
    rcases hq with rfl | rfl | rfl | rfl | rfl <;> exact Nat.le_of_ble_eq_true rfl
end Mine
namespace Mine
open PySem PySem.W

noncomputable def mth (i : Nat) : Stmt := tstm (sBody (tstm tP.main.body 44)) i
noncomputable def envM (i : Nat) (L f cd : Nat) (q : String) : Env := ⟨sScope (mth i), L, 3, [], str q, some f, .ref cd, some L, 0⟩
noncomputable def tgt : Stmt → Expr
  | .For t .. => t
  | _ => .Tuple [] default default
noncomputable def fbody : Stmt → List Stmt
  | .For _ _ b .. => b
  | _ => []
noncomputable def forelse : Stmt → List Stmt
  | .For _ _ _ o _ => o
  | _ => []
noncomputable abbrev Loc2 := Option (Nat × Value × Nat × Value)
noncomputable def loc2Set (t3 : Nat) (v3 : Value) (t4 : Nat) (v4 : Value) : Loc2 → Loc2
  | none => some (t3, v3, t4, v4)
  | some (a, _, b, _) => some (a, v3, b, v4)
noncomputable def frP (P : Params) (t1 t2 d r : Nat) : Loc2 → Obj
  | none => frObj P [(str "self", t1, .ref d), (str "result", t2, .ref r)] 2
  | some (t3, v3, t4, v4) => frObj P [(str "self", t1, .ref d), (str "result", t2, .ref r), (str "elem", t3, v3), (str "count", t4, v4)] 4
structure PSt where
  ok : Value
  ov : Value
  o : Loc2
  rs : List E
  rep : Nat

noncomputable def posF : Stmt := tstm (sBody (mth 22)) 1
noncomputable def envPos (L : Nat) : Env := envM 22 L 1050 1049 "Counter.__pos__.<locals>."
noncomputable def cPos (it L : Nat) : Code := sFor posF (.ref it) (envPos L)
noncomputable def mPos (it d L n ep : Nat) (es : List E) (e : E) (sz : Nat) : Mid := mFor 0 it d (n + 1) (eln es) ep (sz - 1) (.bool false) (.int e.k e.t) (.int e.v e.u) (tgt posF) (fbody posF) (forelse posF) (envPos L)
variable {b c : Bool} {w : World}
theorem tgtPos : ∃ e x p, tgt posF = .Tuple e x p := by
  have : tgt posF = .Tuple (tupE (tgt posF)) (match tgt posF with | .Tuple _ x _ => x | _ => default) (match tgt posF with | .Tuple _ _ p => p | _ => default) := by kernel_rfl
  exact ⟨_, _, _, this⟩
noncomputable def posL (P : Params) (i0 i1 i2 i3 it d L r dd rr ep t1 t2 : Nat) (es : List E) : Loop PSt E where
  code := cPos it L
  res := .ok .next
  slots n st := [(i0, it, iiObj .none (.bool false) d n (eln es) ep st.ok st.ov), (i1, d, dObj clsC (some dd) es ep), (i2, L, frP P t1 t2 d r st.o), (i3, r, dObj clsC (some rr) st.rs st.rep)]
  fin n st := [(it, iiEnd (iiObj .none (.bool false) d n (eln es) ep st.ok st.ov)), (d, dObj clsC (some dd) es ep), (L, frP P t1 t2 d r st.o), (r, dObj clsC (some rr) st.rs st.rep)]
  post n st := [(i0, it, iiEnd (iiObj .none (.bool false) d n (eln es) ep st.ok st.ov)), (i2, L, frP P t1 t2 d r st.o), (i3, r, dObj clsC (some rr) st.rs st.rep)]
  edl := 2
  edt := 0
  step e st t := match decide (0 < e.v) with
    | true => ⟨.int e.k e.t, .int e.v e.u, loc2Set t (.int e.k e.t) (t + 1) (.int e.v e.u) st.o, esSet st.rs e.k e.t e.v e.u, epSet st.rs e.k st.rep⟩
    | false => ⟨.int e.k e.t, .int e.v e.u, loc2Set t (.int e.k e.t) (t + 1) (.int e.v e.u) st.o, st.rs, st.rep⟩
  sdl _ _ _ := 4
  sdt e _ _ := match decide (0 < e.v) with
    | true => 4
    | false => 3
noncomputable abbrev oUnp : List Op := [.s 4, .s 4, .s 4, .k 0, .s 4, .s 5, .s 5, .k 0, .s 5, .s 5, .s 5, .s 4, .s 5, .s 5, .s 5, .k 0, .s 5, .s 5, .s 5, .s 4, .s 5, .s 5, .s 5, .k 0, .s 5, .s 5, .s 5, .s 4, .s 5, .s 5, .s 7]
noncomputable def oPosT (it d L r n dd rr ep : Nat) (es : List E) (ok ov : Value) (e : E) (rs : List E) (rep : Nat) : List Op :=
  [.s 0, .k 0, .s 0, .a fun _ sz _ => sIiNext 0 1 it d n clsC (some dd) es ep ok ov e sz, .m fun sz _ => mPos it d L n ep es e sz] ++ oUnp ++ [.s 2, .s 2, .s 2, .s 2, .s 2, .k 0, .a fun cc _ _ => sCmp "int.__gt__" e.v 0 true cc, .s 2, .s 2, .s 2, .s 3, .k 0, .s 3, .k 3, .s 3, .k 0, .a fun _ _ _ => sSet clsC (some rr) 3 r rs rep e.k e.t e.v e.u]
noncomputable def oPosF (it d L n dd ep : Nat) (es : List E) (ok ov : Value) (e : E) : List Op :=
  [.s 0, .k 0, .s 0, .a fun _ sz _ => sIiNext 0 1 it d n clsC (some dd) es ep ok ov e sz, .m fun sz _ => mPos it d L n ep es e sz] ++ oUnp ++ [.s 2, .s 2, .s 2, .s 2, .s 2, .k 0, .a fun cc _ _ => sCmp "int.__gt__" e.v 0 false cc]
theorem turnPosT (it d L r dd rr ep t1 t2 n : Nat) (es rs : List E) (rep : Nat) (ok ov : Value) (o : Loc2) (e : E) (sz tok : Nat) (k : Result → Sem PySem.Fin) (g : Bool) (l : List Value) (code : Code) (pos pos' : Pos) (kp : List Value) (W : List (Code × Pos)) (gens : List GenState) :
    chk (tR tP (tW b c w) (KK (tW b c w)) W 93 (oPosT it d L r n dd rr ep es ok ov e rs rep) (mkT [(it, iiObj .none (.bool false) d n (eln es) ep ok ov), (d, dObj clsC (some dd) es ep), (L, frP (tW b c w).params t1 t2 d r o), (r, dObj clsC (some rr) rs rep)]) 4 sz gens tok [] (tD (cPos it L)) (cPos it L) pos' [.ret k none g l code pos kp] [] []) (turns 4) =
    chk' (tR tP (tW b c w) (KK (tW b c w)) W 93 (oPosT it d L r n dd rr ep es ok ov e rs rep) (mkT [(it, iiObj .none (.bool false) d n (eln es) ep ok ov), (d, dObj clsC (some dd) es ep), (L, frP (tW b c w).params t1 t2 d r o), (r, dObj clsC (some rr) rs rep)]) 4 sz gens tok [] (tD (cPos it L)) (cPos it L) pos' [.ret k none g l code pos kp] [] [])
      (tD (cPos it L), cPos it L, [.ret k none g l code pos kp], sz + 4, tok + 4, appG gens [], [(it, iiObj .none (.bool false) d (n + 1) (eln es) ep (.int e.k e.t) (.int e.v e.u)), (d, dObj clsC (some dd) es ep), (L, frP (tW b c w).params t1 t2 d r (loc2Set tok (.int e.k e.t) (tok + 1) (.int e.v e.u) o)), (r, dObj clsC (some rr) (esSet rs e.k e.t e.v e.u) (epSet rs e.k rep))].map some) := by
  cases o <;> cases b <;> kernel_rfl
theorem turnPosF (it d L r dd rr ep t1 t2 n : Nat) (es rs : List E) (rep : Nat) (ok ov : Value) (o : Loc2) (e : E) (sz tok : Nat) (k : Result → Sem PySem.Fin) (g : Bool) (l : List Value) (code : Code) (pos pos' : Pos) (kp : List Value) (W : List (Code × Pos)) (gens : List GenState) :
    chk (tR tP (tW b c w) (KK (tW b c w)) W 75 (oPosF it d L n dd ep es ok ov e) (mkT [(it, iiObj .none (.bool false) d n (eln es) ep ok ov), (d, dObj clsC (some dd) es ep), (L, frP (tW b c w).params t1 t2 d r o), (r, dObj clsC (some rr) rs rep)]) 4 sz gens tok [] (tD (cPos it L)) (cPos it L) pos' [.ret k none g l code pos kp] [] []) (turns 4) =
    chk' (tR tP (tW b c w) (KK (tW b c w)) W 75 (oPosF it d L n dd ep es ok ov e) (mkT [(it, iiObj .none (.bool false) d n (eln es) ep ok ov), (d, dObj clsC (some dd) es ep), (L, frP (tW b c w).params t1 t2 d r o), (r, dObj clsC (some rr) rs rep)]) 4 sz gens tok [] (tD (cPos it L)) (cPos it L) pos' [.ret k none g l code pos kp] [] [])
      (tD (cPos it L), cPos it L, [.ret k none g l code pos kp], sz + 4, tok + 3, appG gens [], [(it, iiObj .none (.bool false) d (n + 1) (eln es) ep (.int e.k e.t) (.int e.v e.u)), (d, dObj clsC (some dd) es ep), (L, frP (tW b c w).params t1 t2 d r (loc2Set tok (.int e.k e.t) (tok + 1) (.int e.v e.u) o)), (r, dObj clsC (some rr) rs rep)].map some) := by
  cases o <;> cases b <;> kernel_rfl
theorem endPos (it d L r dd rr ep t1 t2 n : Nat) (es rs : List E) (rep : Nat) (ok ov : Value) (o : Loc2) (sz tok : Nat) (k : Result → Sem PySem.Fin) (g : Bool) (l : List Value) (code : Code) (pos pos' : Pos) (kp : List Value) (W : List (Code × Pos)) (gens : List GenState) :
    chk (tR tP (tW b c w) (KK (tW b c w)) W 8 [.s 0, .k 0, .s 0, .a fun _ sz _ => sIiEnd 0 1 it d n .none (.bool false) clsC (some dd) es ep ok ov sz, .s 5] (mkT [(it, iiObj .none (.bool false) d n (eln es) ep ok ov), (d, dObj clsC (some dd) es ep), (L, frP (tW b c w).params t1 t2 d r o), (r, dObj clsC (some rr) rs rep)]) 4 sz gens tok [] (tD (cPos it L)) (cPos it L) pos' [.ret k none g l code pos kp] [] []) (ends 4 []) =
    chk' (tR tP (tW b c w) (KK (tW b c w)) W 8 [.s 0, .k 0, .s 0, .a fun _ sz _ => sIiEnd 0 1 it d n .none (.bool false) clsC (some dd) es ep ok ov sz, .s 5] (mkT [(it, iiObj .none (.bool false) d n (eln es) ep ok ov), (d, dObj clsC (some dd) es ep), (L, frP (tW b c w).params t1 t2 d r o), (r, dObj clsC (some rr) rs rep)]) 4 sz gens tok [] (tD (cPos it L)) (cPos it L) pos' [.ret k none g l code pos kp] [] [])
      (k (.ok .next), code, pos, [], sz + 2, tok + 0, appG gens [], [], [(it, iiEnd (iiObj .none (.bool false) d n (eln es) ep ok ov)), (d, dObj clsC (some dd) es ep), (L, frP (tW b c w).params t1 t2 d r o), (r, dObj clsC (some rr) rs rep)].map some, []) := by
  cases o <;> cases b <;> kernel_rfl

theorem esSet_len (es : List E) (x : Int) (t : Nat) (y : Int) (u : Nat) : (esSet es x t y u).length ≤ es.length + 1 := by
  induction es with
  | nil => simp [esSet]
  | cons e r ih =>
    unfold esSet
    by_cases h : e.k = x
    · simp [h]
    · simp only [h, if_false, List.length_cons]; omega
theorem posL_ok {i0 i1 i2 i3 it d L r dd rr ep t1 t2 : Nat} {es : List E} (hz : es.length ≤ 8) (nd : [it, d, L, r].Nodup) (hge : ∀ a ∈ [it, d, L, r], 1103 ≤ a) (st : PSt) (hst : st.rs.length ≤ 0) (sz tok : Nat) :
    ((posL (tW b c w).params i0 i1 i2 i3 it d L r dd rr ep t1 t2 es).S 0 es st tok).Valid (mdl tP (tW b c w)) (KK (tW b c w)) sz tok := by
  refine Loop.valid _ [it, d, L, r] [it, L, r] 4 (fun n st => st.rs.length ≤ n) (fun n e => es[n]? = some e) (fun n => n = es.length) 0 (fun _ _ => rfl) rfl (fun _ _ => rfl) nd (fun a ha => KK_none (hge a ha)) (fun _ _ => rfl) (fun n st n' st' q hq => ?_)
    (fun n st e sz tok _ hI he => ?_) (fun n st sz tok _ hI hl => ?_) (fun _ _ => rfl) (fun n st q hq => ?_) (fun n st q hq => ?_) es 0 st sz tok (Nat.zero_le _) (fun i e h => by simpa using h) (by simp) hst
  · simp only [posL, List.mem_cons, List.not_mem_nil, or_false] at hq
    rcases hq with rfl | rfl | rfl | rfl <;> simp [posL]
  · have hn : n < es.length := (List.getElem?_eq_some_iff.mp he).1
    have h8 : st.rs.length ≤ sizeLine := Nat.le_trans hI (Nat.le_trans (Nat.le_of_lt hn) (Nat.le_trans hz (by size_fits)))
    cases hd : decide (0 < e.v) with
    | true =>
      have hs : (posL (tW b c w).params i0 i1 i2 i3 it d L r dd rr ep t1 t2 es).step e st tok = ⟨.int e.k e.t, .int e.v e.u, loc2Set tok (.int e.k e.t) (tok + 1) (.int e.v e.u) st.o, esSet st.rs e.k e.t e.v e.u, epSet st.rs e.k st.rep⟩ := by simp only [posL, hd]
      have ht : (posL (tW b c w).params i0 i1 i2 i3 it d L r dd rr ep t1 t2 es).sdt e st tok = 4 := by simp only [posL, hd]
      rw [hs, ht]
      refine ⟨Nat.le_trans (esSet_len ..) (by omega), 93, oPosT it d L r n dd rr ep es st.ok st.ov e st.rs st.rep, ⟨fun cc sz tok _ _ => ⟨sIiNext_ok he sz tok, by simp [sIiNext]⟩, fun sz tok => mFor_ok tgtPos sz tok, fun cc sz tok _ _ => ⟨sGt_ok hd cc sz tok, by simp [sCmp]⟩, fun cc sz tok _ _ => ⟨sSetC_ok h8 (hge r (by simp)) sz tok, by simp [sSet]⟩, trivial⟩, fun k g l code pos pos' kp W gens _ => ?_⟩
      exact turnPosT it d L r dd rr ep t1 t2 n es st.rs st.rep st.ok st.ov st.o e sz tok k g l code pos pos' kp W gens
    | false =>
      have hs : (posL (tW b c w).params i0 i1 i2 i3 it d L r dd rr ep t1 t2 es).step e st tok = ⟨.int e.k e.t, .int e.v e.u, loc2Set tok (.int e.k e.t) (tok + 1) (.int e.v e.u) st.o, st.rs, st.rep⟩ := by simp only [posL, hd]
      have ht : (posL (tW b c w).params i0 i1 i2 i3 it d L r dd rr ep t1 t2 es).sdt e st tok = 3 := by simp only [posL, hd]
      rw [hs, ht]
      refine ⟨Nat.le_succ_of_le hI, 75, oPosF it d L n dd ep es st.ok st.ov e, ⟨fun cc sz tok _ _ => ⟨sIiNext_ok he sz tok, by simp [sIiNext]⟩, fun sz tok => mFor_ok tgtPos sz tok, fun cc sz tok _ _ => ⟨sGt_ok hd cc sz tok, by simp [sCmp]⟩, trivial⟩, fun k g l code pos pos' kp W gens _ => ?_⟩
      exact turnPosF it d L r dd rr ep t1 t2 n es st.rs st.rep st.ok st.ov st.o e sz tok k g l code pos pos' kp W gens
  · subst hl
    refine ⟨8, [.s 0, .k 0, .s 0, .a fun _ sz _ => sIiEnd 0 1 it d es.length .none (.bool false) clsC (some dd) es ep st.ok st.ov sz, .s 5], ⟨fun cc sz tok _ _ => ⟨sIiEnd_ok (by simp) sz tok, by simp [sIiEnd]⟩, trivial⟩, fun k g l code pos pos' kp W gens _ => ?_⟩
    exact endPos it d L r dd rr ep t1 t2 es.length es st.rs st.rep st.ok st.ov st.o sz tok k g l code pos pos' kp W gens
  · simp only [posL, List.mem_cons, List.not_mem_nil, or_false] at hq
    rcases hq with rfl | rfl | rfl <;> simp [posL]
  · simp only [posL, List.mem_cons, List.not_mem_nil, or_false] at hq
    rcases hq with rfl | rfl | rfl | rfl <;> simp [posL]

noncomputable def negF : Stmt := tstm (sBody (mth 23)) 1
noncomputable def envNeg (L : Nat) : Env := envM 23 L 1057 1056 "Counter.__neg__.<locals>."
noncomputable def cNeg (it L : Nat) : Code := sFor negF (.ref it) (envNeg L)
noncomputable def mNeg (it d L n ep : Nat) (es : List E) (e : E) (sz : Nat) : Mid := mFor 0 it d (n + 1) (eln es) ep (sz - 1) (.bool false) (.int e.k e.t) (.int e.v e.u) (tgt negF) (fbody negF) (forelse negF) (envNeg L)
theorem tgtNeg : ∃ e x p, tgt negF = .Tuple e x p := by
  have : tgt negF = .Tuple (tupE (tgt negF)) (match tgt negF with | .Tuple _ x _ => x | _ => default) (match tgt negF with | .Tuple _ _ p => p | _ => default) := by kernel_rfl
  exact ⟨_, _, _, this⟩
noncomputable def negL (P : Params) (i0 i1 i2 i3 it d L r dd rr ep t1 t2 : Nat) (es : List E) : Loop PSt E where
  code := cNeg it L
  res := .ok .next
  slots n st := [(i0, it, iiObj .none (.bool false) d n (eln es) ep st.ok st.ov), (i1, d, dObj clsC (some dd) es ep), (i2, L, frP P t1 t2 d r st.o), (i3, r, dObj clsC (some rr) st.rs st.rep)]
  fin n st := [(it, iiEnd (iiObj .none (.bool false) d n (eln es) ep st.ok st.ov)), (d, dObj clsC (some dd) es ep), (L, frP P t1 t2 d r st.o), (r, dObj clsC (some rr) st.rs st.rep)]
  post n st := [(i0, it, iiEnd (iiObj .none (.bool false) d n (eln es) ep st.ok st.ov)), (i2, L, frP P t1 t2 d r st.o), (i3, r, dObj clsC (some rr) st.rs st.rep)]
  edl := 2
  edt := 0
  step e st t := match decide (e.v < 0) with
    | true => ⟨.int e.k e.t, .int e.v e.u, loc2Set t (.int e.k e.t) (t + 1) (.int e.v e.u) st.o, esSet st.rs e.k e.t (0 - e.v) (t + 4), epSet st.rs e.k st.rep⟩
    | false => ⟨.int e.k e.t, .int e.v e.u, loc2Set t (.int e.k e.t) (t + 1) (.int e.v e.u) st.o, st.rs, st.rep⟩
  sdl _ _ _ := 4
  sdt e _ _ := match decide (e.v < 0) with
    | true => 6
    | false => 3
noncomputable def oNegT (it d L r n dd rr ep : Nat) (es : List E) (ok ov : Value) (e : E) (rs : List E) (rep : Nat) : List Op :=
  [.s 0, .k 0, .s 0, .a fun _ sz _ => sIiNext 0 1 it d n clsC (some dd) es ep ok ov e sz, .m fun sz _ => mNeg it d L n ep es e sz] ++ oUnp ++ [.s 2, .s 2, .s 2, .s 2, .s 2, .k 0, .a fun cc _ _ => sCmp "int.__lt__" e.v 0 true cc, .s 2, .k 0, .s 2, .s 2, .s 3, .k 0, .s 3, .k 3, .s 3, .k 0, .a fun cc _ _ => sSet clsC (some rr) 3 r rs rep e.k e.t (0 - e.v) (argTok cc 2)]
noncomputable def oNegF (it d L n dd ep : Nat) (es : List E) (ok ov : Value) (e : E) : List Op :=
  [.s 0, .k 0, .s 0, .a fun _ sz _ => sIiNext 0 1 it d n clsC (some dd) es ep ok ov e sz, .m fun sz _ => mNeg it d L n ep es e sz] ++ oUnp ++ [.s 2, .s 2, .s 2, .s 2, .s 2, .k 0, .a fun cc _ _ => sCmp "int.__lt__" e.v 0 false cc]
theorem turnNegT (it d L r dd rr ep t1 t2 n : Nat) (es rs : List E) (rep : Nat) (ok ov : Value) (o : Loc2) (e : E) (sz tok : Nat) (k : Result → Sem PySem.Fin) (g : Bool) (l : List Value) (code : Code) (pos pos' : Pos) (kp : List Value) (W : List (Code × Pos)) (gens : List GenState) :
    chk (tR tP (tW b c w) (KK (tW b c w)) W 99 (oNegT it d L r n dd rr ep es ok ov e rs rep) (mkT [(it, iiObj .none (.bool false) d n (eln es) ep ok ov), (d, dObj clsC (some dd) es ep), (L, frP (tW b c w).params t1 t2 d r o), (r, dObj clsC (some rr) rs rep)]) 4 sz gens tok [] (tD (cNeg it L)) (cNeg it L) pos' [.ret k none g l code pos kp] [] []) (turns 4) =
    chk' (tR tP (tW b c w) (KK (tW b c w)) W 99 (oNegT it d L r n dd rr ep es ok ov e rs rep) (mkT [(it, iiObj .none (.bool false) d n (eln es) ep ok ov), (d, dObj clsC (some dd) es ep), (L, frP (tW b c w).params t1 t2 d r o), (r, dObj clsC (some rr) rs rep)]) 4 sz gens tok [] (tD (cNeg it L)) (cNeg it L) pos' [.ret k none g l code pos kp] [] [])
      (tD (cNeg it L), cNeg it L, [.ret k none g l code pos kp], sz + 4, tok + 6, appG gens [], [(it, iiObj .none (.bool false) d (n + 1) (eln es) ep (.int e.k e.t) (.int e.v e.u)), (d, dObj clsC (some dd) es ep), (L, frP (tW b c w).params t1 t2 d r (loc2Set tok (.int e.k e.t) (tok + 1) (.int e.v e.u) o)), (r, dObj clsC (some rr) (esSet rs e.k e.t (0 - e.v) (tok + 4)) (epSet rs e.k rep))].map some) := by
  cases o <;> cases b <;> kernel_rfl
theorem turnNegF (it d L r dd rr ep t1 t2 n : Nat) (es rs : List E) (rep : Nat) (ok ov : Value) (o : Loc2) (e : E) (sz tok : Nat) (k : Result → Sem PySem.Fin) (g : Bool) (l : List Value) (code : Code) (pos pos' : Pos) (kp : List Value) (W : List (Code × Pos)) (gens : List GenState) :
    chk (tR tP (tW b c w) (KK (tW b c w)) W 75 (oNegF it d L n dd ep es ok ov e) (mkT [(it, iiObj .none (.bool false) d n (eln es) ep ok ov), (d, dObj clsC (some dd) es ep), (L, frP (tW b c w).params t1 t2 d r o), (r, dObj clsC (some rr) rs rep)]) 4 sz gens tok [] (tD (cNeg it L)) (cNeg it L) pos' [.ret k none g l code pos kp] [] []) (turns 4) =
    chk' (tR tP (tW b c w) (KK (tW b c w)) W 75 (oNegF it d L n dd ep es ok ov e) (mkT [(it, iiObj .none (.bool false) d n (eln es) ep ok ov), (d, dObj clsC (some dd) es ep), (L, frP (tW b c w).params t1 t2 d r o), (r, dObj clsC (some rr) rs rep)]) 4 sz gens tok [] (tD (cNeg it L)) (cNeg it L) pos' [.ret k none g l code pos kp] [] [])
      (tD (cNeg it L), cNeg it L, [.ret k none g l code pos kp], sz + 4, tok + 3, appG gens [], [(it, iiObj .none (.bool false) d (n + 1) (eln es) ep (.int e.k e.t) (.int e.v e.u)), (d, dObj clsC (some dd) es ep), (L, frP (tW b c w).params t1 t2 d r (loc2Set tok (.int e.k e.t) (tok + 1) (.int e.v e.u) o)), (r, dObj clsC (some rr) rs rep)].map some) := by
  cases o <;> cases b <;> kernel_rfl
theorem endNeg (it d L r dd rr ep t1 t2 n : Nat) (es rs : List E) (rep : Nat) (ok ov : Value) (o : Loc2) (sz tok : Nat) (k : Result → Sem PySem.Fin) (g : Bool) (l : List Value) (code : Code) (pos pos' : Pos) (kp : List Value) (W : List (Code × Pos)) (gens : List GenState) :
    chk (tR tP (tW b c w) (KK (tW b c w)) W 8 [.s 0, .k 0, .s 0, .a fun _ sz _ => sIiEnd 0 1 it d n .none (.bool false) clsC (some dd) es ep ok ov sz, .s 5] (mkT [(it, iiObj .none (.bool false) d n (eln es) ep ok ov), (d, dObj clsC (some dd) es ep), (L, frP (tW b c w).params t1 t2 d r o), (r, dObj clsC (some rr) rs rep)]) 4 sz gens tok [] (tD (cNeg it L)) (cNeg it L) pos' [.ret k none g l code pos kp] [] []) (ends 4 []) =
    chk' (tR tP (tW b c w) (KK (tW b c w)) W 8 [.s 0, .k 0, .s 0, .a fun _ sz _ => sIiEnd 0 1 it d n .none (.bool false) clsC (some dd) es ep ok ov sz, .s 5] (mkT [(it, iiObj .none (.bool false) d n (eln es) ep ok ov), (d, dObj clsC (some dd) es ep), (L, frP (tW b c w).params t1 t2 d r o), (r, dObj clsC (some rr) rs rep)]) 4 sz gens tok [] (tD (cNeg it L)) (cNeg it L) pos' [.ret k none g l code pos kp] [] [])
      (k (.ok .next), code, pos, [], sz + 2, tok + 0, appG gens [], [], [(it, iiEnd (iiObj .none (.bool false) d n (eln es) ep ok ov)), (d, dObj clsC (some dd) es ep), (L, frP (tW b c w).params t1 t2 d r o), (r, dObj clsC (some rr) rs rep)].map some, []) := by
  cases o <;> cases b <;> kernel_rfl

theorem negL_ok {i0 i1 i2 i3 it d L r dd rr ep t1 t2 : Nat} {es : List E} (hz : es.length ≤ 8) (nd : [it, d, L, r].Nodup) (hge : ∀ a ∈ [it, d, L, r], 1103 ≤ a) (st : PSt) (hst : st.rs.length ≤ 0) (sz tok : Nat) :
    ((negL (tW b c w).params i0 i1 i2 i3 it d L r dd rr ep t1 t2 es).S 0 es st tok).Valid (mdl tP (tW b c w)) (KK (tW b c w)) sz tok := by
  refine Loop.valid _ [it, d, L, r] [it, L, r] 4 (fun n st => st.rs.length ≤ n) (fun n e => es[n]? = some e) (fun n => n = es.length) 0 (fun _ _ => rfl) rfl (fun _ _ => rfl) nd (fun a ha => KK_none (hge a ha)) (fun _ _ => rfl) (fun n st n' st' q hq => ?_)
    (fun n st e sz tok _ hI he => ?_) (fun n st sz tok _ hI hl => ?_) (fun _ _ => rfl) (fun n st q hq => ?_) (fun n st q hq => ?_) es 0 st sz tok (Nat.zero_le _) (fun i e h => by simpa using h) (by simp) hst
  · simp only [negL, List.mem_cons, List.not_mem_nil, or_false] at hq
    rcases hq with rfl | rfl | rfl | rfl <;> simp [negL]
  · have hn : n < es.length := (List.getElem?_eq_some_iff.mp he).1
    have h8 : st.rs.length ≤ sizeLine := Nat.le_trans hI (Nat.le_trans (Nat.le_of_lt hn) (Nat.le_trans hz (by size_fits)))
    cases hd : decide (e.v < 0) with
    | true =>
      have hs : (negL (tW b c w).params i0 i1 i2 i3 it d L r dd rr ep t1 t2 es).step e st tok = ⟨.int e.k e.t, .int e.v e.u, loc2Set tok (.int e.k e.t) (tok + 1) (.int e.v e.u) st.o, esSet st.rs e.k e.t (0 - e.v) (tok + 4), epSet st.rs e.k st.rep⟩ := by simp only [negL, hd]
      have ht : (negL (tW b c w).params i0 i1 i2 i3 it d L r dd rr ep t1 t2 es).sdt e st tok = 6 := by simp only [negL, hd]
      rw [hs, ht]
      refine ⟨Nat.le_trans (esSet_len ..) (by omega), 99, oNegT it d L r n dd rr ep es st.ok st.ov e st.rs st.rep, ⟨fun cc sz tok _ _ => ⟨sIiNext_ok he sz tok, by simp [sIiNext]⟩, fun sz tok => mFor_ok tgtNeg sz tok, fun cc sz tok _ _ => ⟨sLt_ok hd cc sz tok, by simp [sCmp]⟩, fun cc sz tok _ _ => ⟨sSetC_ok h8 (hge r (by simp)) sz tok, by simp [sSet]⟩, trivial⟩, fun k g l code pos pos' kp W gens _ => ?_⟩
      exact turnNegT it d L r dd rr ep t1 t2 n es st.rs st.rep st.ok st.ov st.o e sz tok k g l code pos pos' kp W gens
    | false =>
      have hs : (negL (tW b c w).params i0 i1 i2 i3 it d L r dd rr ep t1 t2 es).step e st tok = ⟨.int e.k e.t, .int e.v e.u, loc2Set tok (.int e.k e.t) (tok + 1) (.int e.v e.u) st.o, st.rs, st.rep⟩ := by simp only [negL, hd]
      have ht : (negL (tW b c w).params i0 i1 i2 i3 it d L r dd rr ep t1 t2 es).sdt e st tok = 3 := by simp only [negL, hd]
      rw [hs, ht]
      refine ⟨Nat.le_succ_of_le hI, 75, oNegF it d L n dd ep es st.ok st.ov e, ⟨fun cc sz tok _ _ => ⟨sIiNext_ok he sz tok, by simp [sIiNext]⟩, fun sz tok => mFor_ok tgtNeg sz tok, fun cc sz tok _ _ => ⟨sLt_ok hd cc sz tok, by simp [sCmp]⟩, trivial⟩, fun k g l code pos pos' kp W gens _ => ?_⟩
      exact turnNegF it d L r dd rr ep t1 t2 n es st.rs st.rep st.ok st.ov st.o e sz tok k g l code pos pos' kp W gens
  · subst hl
    refine ⟨8, [.s 0, .k 0, .s 0, .a fun _ sz _ => sIiEnd 0 1 it d es.length .none (.bool false) clsC (some dd) es ep st.ok st.ov sz, .s 5], ⟨fun cc sz tok _ _ => ⟨sIiEnd_ok (by simp) sz tok, by simp [sIiEnd]⟩, trivial⟩, fun k g l code pos pos' kp W gens _ => ?_⟩
    exact endNeg it d L r dd rr ep t1 t2 es.length es st.rs st.rep st.ok st.ov st.o sz tok k g l code pos pos' kp W gens
  · simp only [negL, List.mem_cons, List.not_mem_nil, or_false] at hq
    rcases hq with rfl | rfl | rfl <;> simp [negL]
  · simp only [negL, List.mem_cons, List.not_mem_nil, or_false] at hq
    rcases hq with rfl | rfl | rfl | rfl <;> simp [negL]
end Mine
namespace Mine
open PySem PySem.W
noncomputable abbrev tGetRest := PySem.W.Fast.tw15065052549389001082
theorem tGetRest_eq : tGetRest = getRest := PySem.W.Fast.te15065052549389001082.symm
variable {b c : Bool} {w : World}

/-- dict.__getitem__: the key stands there -/
noncomputable def sHit (cls : Value) (dd : Option Nat) (i d : Nat) (es : List E) (ep : Nat) (x : Int) (t : Nat) (e : E) : Summ :=
  { code := .builtin "dict.__getitem__" ⟨[.ref d, .int x t], []⟩, res := .ok (.ret (.int e.v e.u)), pre := [(i, d, dObj cls dd es ep)], dtok := 1 }
theorem sHit_ok {p : Program} {K : Nat → Option Obj} {cls : Value} {dd : Option Nat} {i d : Nat} {es : List E} {ep : Nat} {x : Int} {t : Nat} {e : E} (he : esFind es x = some e) (sz tok : Nat) : (sHit cls dd i d es ep x t e).Valid (mdl p w) K sz tok := by
  refine Summ.ofAny rfl rfl fun s hpre hs ht => ?_
  have h1 : s.heap.get? d = some (dObj cls dd es ep) := hpre (i, d, _) (List.mem_singleton.mpr rfl)
  refine ⟨s.heap, fun A hA => ?_, by rw [hs]; exact (Nat.zero_add _).symm, (fun q hq => nomatch hq), (fun q hq => nomatch hq), fun b o hb _ => hb⟩
  show wpAny _ _ (denote table (.builtin "dict.__getitem__" ⟨[.ref d, .int x t], []⟩)) _ _ _
  rw [getitem_code]
  refine wpAny_bind (m := dictGet d (.int x t)) (f := getCont d (.int x t)) (any_dictGet h1 ?_)
  unfold esVal
  rw [he]
  exact wpAny_pure ⟨_, rfl, rfl, by subst ht; rfl⟩

/-- in a for loop of a method that the law calls -/
noncomputable def shFor2 : List (Code × Pos) → Bool
  | [(.forLoop .., _), (.func .., _), (.func .., _), (.builtin id _, _)] => id == "claim.caller"
  | _ => false
theorem shFor2_spec {code : Code} {pos : Pos} {W : List (Code × Pos)} (h : shFor2 ((code, pos) :: W) = true) :
    ∃ T I B O e0 b1 e1 p1 b2 e2 p2 a3 p3, code = .forLoop T I B O e0 ∧ W = [(.func b1 e1, p1), (.func b2 e2, p2), (.builtin "claim.caller" a3, p3)] := by
  unfold shFor2 at h
  split at h
  · rename_i heq
    simp only [List.cons.injEq, Prod.mk.injEq] at heq
    obtain ⟨⟨rfl, rfl⟩, rfl⟩ := heq
    have := eq_of_beq h
    subst this
    exact ⟨_, _, _, _, _, _, _, _, _, _, _, _, _, rfl, rfl⟩
  · cases h
noncomputable def sMiss (dd i d : Nat) (es : List E) (ep : Nat) (x : Int) (t tok : Nat) : Summ :=
  { code := .builtin "dict.__getitem__" ⟨[.ref d, .int x t], []⟩, res := .ok (.ret (.int 0 (tok + 3))), pre := [(i, d, dObj clsC (some dd) es ep)], dl := 1, dtok := 4, shape := shFor2 }
theorem missRun (d dd : Nat) (x : Int) (es : List E) (ep tx sz tok : Nat) (k : Result → Sem PySem.Fin) (g : Bool) (l : List Value) (pos pos' : Pos) (kp : List Value) (gens : List GenState) (T : Expr) (I : Value) (B O : List Stmt) (e0 : Env) (b1 : List Stmt) (e1 : Env) (p1 : Pos) (b2 : List Stmt) (e2 : Env) (p2 : Pos) (a3 : Args) (p3 : Pos) :
    chk (tR tP (tW b c w) (KK (tW b c w)) [(.func b1 e1, p1), (.func b2 e2, p2), (.builtin "claim.caller" a3, p3)] 27 [.s 0, .s 0, .k 6, .s 1, .s 1, .s 1, .s 1, .k 0] (mkT [(d + 1103, dObj clsC (some dd) es ep)]) 1 (sz + 1103) gens (tok + 1) [] (tGetRest (d + 1103) (.int x tx)) (.builtin "dict.__getitem__" ⟨[.ref (d + 1103), .int x tx], []⟩) pos' [.ret k none g l (.forLoop T I B O e0) pos kp] [] []) (ends 1 []) =
    chk' (tR tP (tW b c w) (KK (tW b c w)) [(.func b1 e1, p1), (.func b2 e2, p2), (.builtin "claim.caller" a3, p3)] 27 [.s 0, .s 0, .k 6, .s 1, .s 1, .s 1, .s 1, .k 0] (mkT [(d + 1103, dObj clsC (some dd) es ep)]) 1 (sz + 1103) gens (tok + 1) [] (tGetRest (d + 1103) (.int x tx)) (.builtin "dict.__getitem__" ⟨[.ref (d + 1103), .int x tx], []⟩) pos' [.ret k none g l (.forLoop T I B O e0) pos kp] [] [])
      (k (.ok (.ret (.int 0 (tok + 3)))), .forLoop T I B O e0, pos, [], sz + 1103 + 1, tok + 4, appG gens [], [], [(d + 1103, dObj clsC (some dd) es ep)].map some, []) := by
  cases b <;> kernel_rfl
theorem sMiss_ok {dd i d : Nat} {es : List E} {ep : Nat} {x : Int} {t : Nat} (hf : esFind es x = none) (hd : 1103 ≤ d) (sz tok : Nat) (hs : 1103 ≤ sz) : (sMiss dd i d es ep x t tok).Valid (mdl tP (tW b c w)) (KK (tW b c w)) sz tok := by
  obtain ⟨d, rfl⟩ : ∃ d', d = d' + 1103 := ⟨d - 1103, by omega⟩
  obtain ⟨sz, rfl⟩ : ∃ s', sz = s' + 1103 := ⟨sz - 1103, by omega⟩
  refine Summ.ofMid (dictGet (d + 1103) (.int x t)) (getCont (d + 1103) (.int x t)) none 1 (tGetRest (d + 1103) (.int x t)) [(d + 1103, dObj clsC (some dd) es ep)] [(d + 1103, dObj clsC (some dd) es ep)] [] 27 [.s 0, .s 0, .k 6, .s 1, .s 1, .s 1, .s 1, .k 0] 1
    (getitem_code _ _ _) (by rw [tGetRest_eq]; rfl) (fun s hpre ht A hA => ?_) rfl rfl rfl rfl (fun q hq => nomatch hq) (fun q hq => .inl hq) (by simp) (fun q hq => by rw [List.mem_singleton.mp hq]; exact KK_none hd) rfl (fun l hl => nomatch hl) trivial ?_
  · have h1 : s.heap.get? (d + 1103) = some (dObj clsC (some dd) es ep) := hpre (i, d + 1103, _) (List.mem_singleton.mpr rfl)
    refine any_dictGet h1 ⟨by unfold esVal; rw [hf]; rfl, by subst ht; rfl⟩
  · intro k g l code pos pos' kp W gens hsh
    obtain ⟨T, I, B, O, e0, b1, e1, p1, b2, e2, p2, a3, p3, rfl, rfl⟩ := shFor2_spec hsh
    exact missRun d dd x es ep t sz tok k g l pos pos' kp gens T I B O e0 b1 e1 p1 b2 e2 p2 a3 p3

/-- a summary that never holds -/
noncomputable def sVoid : Summ := { code := .call .none ⟨[], []⟩, res := .ok .next, shape := fun _ => false }
theorem sVoid_ok {M : Model} {K : Nat → Option Obj} (sz tok : Nat) : sVoid.Valid M K sz tok := by
  intro s k g l code pos pos' kp st hK hpre hpo hne hne' hs ht hb hsh
  cases hsh
/-- a summary that asks the heap to have the top's objects -/
noncomputable def guard (sz : Nat) (S : Summ) : Summ := match Nat.ble 1103 sz with
  | true => S
  | false => sVoid
theorem guard_ok {M : Model} {K : Nat → Option Obj} {S : Summ} {sz tok : Nat} (h : 1103 ≤ sz → S.Valid M K sz tok) : (guard sz S).Valid M K sz tok := by
  unfold guard
  cases q : Nat.ble 1103 sz with
  | true => exact h (Nat.le_of_ble_eq_true q)
  | false => exact sVoid_ok sz tok
theorem guard_nd {S : Summ} {sz : Nat} (h : (S.new.map (·.1)).Nodup) : ((guard sz S).new.map (·.1)).Nodup := by
  unfold guard
  cases Nat.ble 1103 sz with
  | true => exact h
  | false => exact List.nodup_nil
end Mine
namespace Mine
open PySem PySem.W
variable {b c : Bool} {w : World}

noncomputable abbrev Loc3 := Option (Nat × Value × Nat × Value × Nat × Value)
noncomputable def loc3Set (t1 : Nat) (v1 : Value) (t2 : Nat) (v2 : Value) (t3 : Nat) (v3 : Value) : Loc3 → Loc3
  | none => some (t1, v1, t2, v2, t3, v3)
  | some (a, _, b, _, c, _) => some (a, v1, b, v2, c, v3)
noncomputable def frAdd (P : Params) (t1 t2 t3 d o r : Nat) : Loc3 → Obj
  | none => frObj P [(str "self", t1, .ref d), (str "other", t2, .ref o), (str "result", t3, .ref r)] 3
  | some (a, x, b, y, c, z) => frObj P [(str "self", t1, .ref d), (str "other", t2, .ref o), (str "result", t3, .ref r), (str "elem", a, x), (str "count", b, y), (str "newcount", c, z)] 6
structure ASt where
  ok : Value
  ov : Value
  lo : Loc3
  rs : List E
  rep : Nat
noncomputable def addF : Stmt := tstm (sBody (mth 18)) 2
noncomputable def envAdd (L : Nat) : Env := envM 18 L 1022 1021 "Counter.__add__.<locals>."
noncomputable def cAdd (it L : Nat) : Code := sFor addF (.ref it) (envAdd L)
noncomputable def mAdd (it d L n ep : Nat) (es : List E) (e : E) (sz : Nat) : Mid := mFor 0 it d (n + 1) (eln es) ep (sz - 1) (.bool false) (.int e.k e.t) (.int e.v e.u) (tgt addF) (fbody addF) (forelse addF) (envAdd L)
theorem tgtAdd : ∃ e x p, tgt addF = .Tuple e x p := by
  have : tgt addF = .Tuple (tupE (tgt addF)) (match tgt addF with | .Tuple _ x _ => x | _ => default) (match tgt addF with | .Tuple _ _ p => p | _ => default) := by kernel_rfl
  exact ⟨_, _, _, this⟩
noncomputable abbrev oUnp5 : List Op := [.s 5, .s 5, .s 5, .k 0, .s 5, .s 6, .s 6, .k 0, .s 6, .s 6, .s 6, .s 5, .s 6, .s 6, .s 6, .k 0, .s 6, .s 6, .s 6, .s 5, .s 6, .s 6, .s 6, .k 0, .s 6, .s 6, .s 6, .s 5, .s 6, .s 6, .s 8]
noncomputable def oAddH (it d L o oo n dd ep oep : Nat) (es os : List E) (ok ov : Value) (e : E) (r : Bool) : List Op :=
  [.s 0, .k 0, .s 0, .a fun _ sz _ => sIiNext 0 1 it d n clsC (some dd) es ep ok ov e sz, .m fun sz _ => mAdd it d L n ep es e sz] ++ oUnp5 ++ [.s 2, .s 2, .s 2, .s 2, .s 2, .s 2, .s 2, .s 4, .k 2, .s 4, .k 0, .s 4, .k 3, .s 4, .k 0, .a fun _ sz tok => guard sz (sMiss oo 4 o os oep e.k e.t tok), .k 0, .s 2, .s 2, .s 2, .k 0, .a fun cc _ _ => sCmp "int.__gt__" (e.v + 0) 0 r cc]
noncomputable def oAddT (r rr rep : Nat) (rs : List E) (e : E) : List Op := [.s 2, .s 2, .s 2, .s 3, .k 0, .s 3, .k 3, .s 3, .k 0, .a fun cc _ _ => sSet clsC (some rr) 3 r rs rep e.k e.t (e.v + 0) (argTok cc 2)]
noncomputable def slAdd (P : Params) (it d L r o oo dd rr ep oep t1 t2 t3 n : Nat) (es os rs : List E) (rep : Nat) (ok ov : Value) (lo : Loc3) : List (Nat × Obj) :=
  [(it, iiObj .none (.bool false) d n (eln es) ep ok ov), (d, dObj clsC (some dd) es ep), (L, frAdd P t1 t2 t3 d o r lo), (r, dObj clsC (some rr) rs rep), (o, dObj clsC (some oo) os oep)]
noncomputable abbrev W2 (b2 : List Stmt) (e2 : Env) (p2 : Pos) (a3 : Args) (p3 : Pos) : List (Code × Pos) := [(.func b2 e2, p2), (.builtin "claim.caller" a3, p3)]
theorem turnAddT (it d L r o oo dd rr ep oep t1 t2 t3 n : Nat) (es os rs : List E) (rep : Nat) (ok ov : Value) (lo : Loc3) (e : E) (sz tok : Nat) (k : Result → Sem PySem.Fin) (g : Bool) (l : List Value) (b1 : List Stmt) (e1 : Env) (pos pos' : Pos) (kp : List Value) (b2 : List Stmt) (e2 : Env) (p2 : Pos) (a3 : Args) (p3 : Pos) (gens : List GenState) :
    chk (tR tP (tW b c w) (KK (tW b c w)) (W2 b2 e2 p2 a3 p3) 127 (oAddH it d L o oo n dd ep oep es os ok ov e true ++ oAddT r rr rep rs e) (mkT (slAdd (tW b c w).params it d L r o oo dd rr ep oep t1 t2 t3 n es os rs rep ok ov lo)) 5 (sz + 1103) gens tok [] (tD (cAdd it L)) (cAdd it L) pos' [.ret k none g l (.func b1 e1) pos kp] [] []) (turns 5) =
    chk' (tR tP (tW b c w) (KK (tW b c w)) (W2 b2 e2 p2 a3 p3) 127 (oAddH it d L o oo n dd ep oep es os ok ov e true ++ oAddT r rr rep rs e) (mkT (slAdd (tW b c w).params it d L r o oo dd rr ep oep t1 t2 t3 n es os rs rep ok ov lo)) 5 (sz + 1103) gens tok [] (tD (cAdd it L)) (cAdd it L) pos' [.ret k none g l (.func b1 e1) pos kp] [] [])
      (tD (cAdd it L), cAdd it L, [.ret k none g l (.func b1 e1) pos kp], sz + 1103 + 5, tok + 10, appG gens [], (slAdd (tW b c w).params it d L r o oo dd rr ep oep t1 t2 t3 (n + 1) es os (esSet rs e.k e.t (e.v + 0) (tok + 6)) (epSet rs e.k rep) (.int e.k e.t) (.int e.v e.u) (loc3Set tok (.int e.k e.t) (tok + 1) (.int e.v e.u) (tok + 7) (.int (e.v + 0) (tok + 6)) lo)).map some) := by
  cases lo <;> cases b <;> kernel_rfl
theorem turnAddF (it d L r o oo dd rr ep oep t1 t2 t3 n : Nat) (es os rs : List E) (rep : Nat) (ok ov : Value) (lo : Loc3) (e : E) (sz tok : Nat) (k : Result → Sem PySem.Fin) (g : Bool) (l : List Value) (b1 : List Stmt) (e1 : Env) (pos pos' : Pos) (kp : List Value) (b2 : List Stmt) (e2 : Env) (p2 : Pos) (a3 : Args) (p3 : Pos) (gens : List GenState) :
    chk (tR tP (tW b c w) (KK (tW b c w)) (W2 b2 e2 p2 a3 p3) 109 (oAddH it d L o oo n dd ep oep es os ok ov e false) (mkT (slAdd (tW b c w).params it d L r o oo dd rr ep oep t1 t2 t3 n es os rs rep ok ov lo)) 5 (sz + 1103) gens tok [] (tD (cAdd it L)) (cAdd it L) pos' [.ret k none g l (.func b1 e1) pos kp] [] []) (turns 5) =
    chk' (tR tP (tW b c w) (KK (tW b c w)) (W2 b2 e2 p2 a3 p3) 109 (oAddH it d L o oo n dd ep oep es os ok ov e false) (mkT (slAdd (tW b c w).params it d L r o oo dd rr ep oep t1 t2 t3 n es os rs rep ok ov lo)) 5 (sz + 1103) gens tok [] (tD (cAdd it L)) (cAdd it L) pos' [.ret k none g l (.func b1 e1) pos kp] [] [])
      (tD (cAdd it L), cAdd it L, [.ret k none g l (.func b1 e1) pos kp], sz + 1103 + 5, tok + 9, appG gens [], (slAdd (tW b c w).params it d L r o oo dd rr ep oep t1 t2 t3 (n + 1) es os rs rep (.int e.k e.t) (.int e.v e.u) (loc3Set tok (.int e.k e.t) (tok + 1) (.int e.v e.u) (tok + 7) (.int (e.v + 0) (tok + 6)) lo)).map some) := by
  cases lo <;> cases b <;> kernel_rfl

theorem endAdd (it d L r o oo dd rr ep oep t1 t2 t3 n : Nat) (es os rs : List E) (rep : Nat) (ok ov : Value) (lo : Loc3) (sz tok : Nat) (k : Result → Sem PySem.Fin) (g : Bool) (l : List Value) (code : Code) (pos pos' : Pos) (kp : List Value) (W : List (Code × Pos)) (gens : List GenState) :
    chk (tR tP (tW b c w) (KK (tW b c w)) W 8 [.s 0, .k 0, .s 0, .a fun _ sz _ => sIiEnd 0 1 it d n .none (.bool false) clsC (some dd) es ep ok ov sz, .s 6] (mkT (slAdd (tW b c w).params it d L r o oo dd rr ep oep t1 t2 t3 n es os rs rep ok ov lo)) 5 sz gens tok [] (tD (cAdd it L)) (cAdd it L) pos' [.ret k none g l code pos kp] [] []) (ends 5 []) =
    chk' (tR tP (tW b c w) (KK (tW b c w)) W 8 [.s 0, .k 0, .s 0, .a fun _ sz _ => sIiEnd 0 1 it d n .none (.bool false) clsC (some dd) es ep ok ov sz, .s 6] (mkT (slAdd (tW b c w).params it d L r o oo dd rr ep oep t1 t2 t3 n es os rs rep ok ov lo)) 5 sz gens tok [] (tD (cAdd it L)) (cAdd it L) pos' [.ret k none g l code pos kp] [] [])
      (k (.ok .next), code, pos, [], sz + 2, tok + 0, appG gens [], [], [(it, iiEnd (iiObj .none (.bool false) d n (eln es) ep ok ov)), (d, dObj clsC (some dd) es ep), (L, frAdd (tW b c w).params t1 t2 t3 d o r lo), (r, dObj clsC (some rr) rs rep), (o, dObj clsC (some oo) os oep)].map some, []) := by
  cases lo <;> cases b <;> kernel_rfl
/-- a for loop that waits in a method's body, called by the law -/
noncomputable def shFn2 : List (Code × Pos) → Bool
  | [(.func .., _), (.func .., _), (.builtin id _, _)] => id == "claim.caller"
  | _ => false
theorem shFn2_spec {code : Code} {pos : Pos} {W : List (Code × Pos)} (h : shFn2 ((code, pos) :: W) = true) : ∃ b1 e1 b2 e2 p2 a3 p3, code = .func b1 e1 ∧ W = W2 b2 e2 p2 a3 p3 := by
  unfold shFn2 at h
  split at h
  · rename_i heq
    simp only [List.cons.injEq, Prod.mk.injEq] at heq
    obtain ⟨⟨rfl, rfl⟩, rfl⟩ := heq
    have := eq_of_beq h
    subst this
    exact ⟨_, _, _, _, _, _, _, rfl, rfl⟩
  · cases h
noncomputable def addL (P : Params) (i0 i1 i2 i3 i4 it d L r o oo dd rr ep oep t1 t2 t3 : Nat) (es os : List E) : Loop ASt E where
  code := cAdd it L
  res := .ok .next
  slots n st := [(i0, it, iiObj .none (.bool false) d n (eln es) ep st.ok st.ov), (i1, d, dObj clsC (some dd) es ep), (i2, L, frAdd P t1 t2 t3 d o r st.lo), (i3, r, dObj clsC (some rr) st.rs st.rep), (i4, o, dObj clsC (some oo) os oep)]
  fin n st := [(it, iiEnd (iiObj .none (.bool false) d n (eln es) ep st.ok st.ov)), (d, dObj clsC (some dd) es ep), (L, frAdd P t1 t2 t3 d o r st.lo), (r, dObj clsC (some rr) st.rs st.rep), (o, dObj clsC (some oo) os oep)]
  post n st := [(i0, it, iiEnd (iiObj .none (.bool false) d n (eln es) ep st.ok st.ov)), (i2, L, frAdd P t1 t2 t3 d o r st.lo), (i3, r, dObj clsC (some rr) st.rs st.rep)]
  edl := 2
  edt := 0
  step e st t := match decide (0 < e.v + 0) with
    | true => ⟨.int e.k e.t, .int e.v e.u, loc3Set t (.int e.k e.t) (t + 1) (.int e.v e.u) (t + 7) (.int (e.v + 0) (t + 6)) st.lo, esSet st.rs e.k e.t (e.v + 0) (t + 6), epSet st.rs e.k st.rep⟩
    | false => ⟨.int e.k e.t, .int e.v e.u, loc3Set t (.int e.k e.t) (t + 1) (.int e.v e.u) (t + 7) (.int (e.v + 0) (t + 6)) st.lo, st.rs, st.rep⟩
  sdl _ _ _ := 5
  sdt e _ _ := match decide (0 < e.v + 0) with
    | true => 10
    | false => 9
  shape := shFn2
theorem addL_ok {i0 i1 i2 i3 i4 it d L r o oo dd rr ep oep t1 t2 t3 : Nat} {es os : List E} (hm : ∀ e ∈ es, esFind os e.k = none) (hz : es.length ≤ 8) (nd : [it, d, L, r, o].Nodup) (hge : ∀ a ∈ [it, d, L, r, o], 1103 ≤ a) (st : ASt) (hst : st.rs.length ≤ 0) (sz tok : Nat) (hsz : 1103 ≤ sz) :
    ((addL (tW b c w).params i0 i1 i2 i3 i4 it d L r o oo dd rr ep oep t1 t2 t3 es os).S 0 es st tok).Valid (mdl tP (tW b c w)) (KK (tW b c w)) sz tok := by
  refine Loop.valid _ [it, d, L, r, o] [it, L, r] 5 (fun n st => st.rs.length ≤ n) (fun n e => es[n]? = some e) (fun n => n = es.length) 1103 (fun _ _ => rfl) rfl (fun _ _ => rfl) nd (fun a ha => KK_none (hge a ha)) (fun _ _ => rfl) (fun n st n' st' q hq => ?_)
    (fun n st e sz tok hs hI he => ?_) (fun n st sz tok hs hI hl => ?_) (fun _ _ => rfl) (fun n st q hq => ?_) (fun n st q hq => ?_) es 0 st sz tok hsz (fun i e h => by simpa using h) (by simp) hst
  · simp only [addL, List.mem_cons, List.not_mem_nil, or_false] at hq
    rcases hq with rfl | rfl | rfl | rfl | rfl <;> simp [addL]
  · obtain ⟨sz, rfl⟩ : ∃ s', sz = s' + 1103 := ⟨sz - 1103, by omega⟩
    have hn : n < es.length := (List.getElem?_eq_some_iff.mp he).1
    have hmm := hm e (List.mem_of_getElem? he)
    have h8 : st.rs.length ≤ sizeLine := Nat.le_trans hI (Nat.le_trans (Nat.le_of_lt hn) (Nat.le_trans hz (by size_fits)))
    cases hd : decide (0 < e.v + 0) with
    | true =>
      have hs : (addL (tW b c w).params i0 i1 i2 i3 i4 it d L r o oo dd rr ep oep t1 t2 t3 es os).step e st tok = ⟨.int e.k e.t, .int e.v e.u, loc3Set tok (.int e.k e.t) (tok + 1) (.int e.v e.u) (tok + 7) (.int (e.v + 0) (tok + 6)) st.lo, esSet st.rs e.k e.t (e.v + 0) (tok + 6), epSet st.rs e.k st.rep⟩ := by simp only [addL, hd]
      have ht : (addL (tW b c w).params i0 i1 i2 i3 i4 it d L r o oo dd rr ep oep t1 t2 t3 es os).sdt e st tok = 10 := by simp only [addL, hd]
      rw [hs, ht]
      refine ⟨Nat.le_trans (esSet_len ..) (by omega), 127, oAddH it d L o oo n dd ep oep es os st.ok st.ov e true ++ oAddT r rr st.rep st.rs e, ⟨fun cc sz tok _ _ => ⟨sIiNext_ok he sz tok, by simp [sIiNext]⟩, fun sz tok => mFor_ok tgtAdd sz tok, fun cc sz tok _ _ => ⟨guard_ok (fun h => sMiss_ok hmm (hge o (by simp)) sz tok h), guard_nd (by simp [sMiss])⟩, fun cc sz tok _ _ => ⟨sGt_ok hd cc sz tok, by simp [sCmp]⟩, fun cc sz tok _ _ => ⟨sSetC_ok h8 (hge r (by simp)) sz tok, by simp [sSet]⟩, trivial⟩, fun k g l code pos pos' kp W gens hsh => ?_⟩
      obtain ⟨b1, e1, b2, e2, p2, a3, p3, rfl, rfl⟩ := shFn2_spec hsh
      exact turnAddT it d L r o oo dd rr ep oep t1 t2 t3 n es os st.rs st.rep st.ok st.ov st.lo e sz tok k g l b1 e1 pos pos' kp b2 e2 p2 a3 p3 gens
    | false =>
      have hs : (addL (tW b c w).params i0 i1 i2 i3 i4 it d L r o oo dd rr ep oep t1 t2 t3 es os).step e st tok = ⟨.int e.k e.t, .int e.v e.u, loc3Set tok (.int e.k e.t) (tok + 1) (.int e.v e.u) (tok + 7) (.int (e.v + 0) (tok + 6)) st.lo, st.rs, st.rep⟩ := by simp only [addL, hd]
      have ht : (addL (tW b c w).params i0 i1 i2 i3 i4 it d L r o oo dd rr ep oep t1 t2 t3 es os).sdt e st tok = 9 := by simp only [addL, hd]
      rw [hs, ht]
      refine ⟨Nat.le_succ_of_le hI, 109, oAddH it d L o oo n dd ep oep es os st.ok st.ov e false, ⟨fun cc sz tok _ _ => ⟨sIiNext_ok he sz tok, by simp [sIiNext]⟩, fun sz tok => mFor_ok tgtAdd sz tok, fun cc sz tok _ _ => ⟨guard_ok (fun h => sMiss_ok hmm (hge o (by simp)) sz tok h), guard_nd (by simp [sMiss])⟩, fun cc sz tok _ _ => ⟨sGt_ok hd cc sz tok, by simp [sCmp]⟩, trivial⟩, fun k g l code pos pos' kp W gens hsh => ?_⟩
      obtain ⟨b1, e1, b2, e2, p2, a3, p3, rfl, rfl⟩ := shFn2_spec hsh
      exact turnAddF it d L r o oo dd rr ep oep t1 t2 t3 n es os st.rs st.rep st.ok st.ov st.lo e sz tok k g l b1 e1 pos pos' kp b2 e2 p2 a3 p3 gens
  · subst hl
    refine ⟨8, [.s 0, .k 0, .s 0, .a fun _ sz _ => sIiEnd 0 1 it d es.length .none (.bool false) clsC (some dd) es ep st.ok st.ov sz, .s 6], ⟨fun cc sz tok _ _ => ⟨sIiEnd_ok (by simp) sz tok, by simp [sIiEnd]⟩, trivial⟩, fun k g l code pos pos' kp W gens _ => ?_⟩
    exact endAdd it d L r o oo dd rr ep oep t1 t2 t3 es.length es os st.rs st.rep st.ok st.ov st.lo sz tok k g l code pos pos' kp W gens
  · simp only [addL, List.mem_cons, List.not_mem_nil, or_false] at hq
    rcases hq with rfl | rfl | rfl <;> simp [addL]
  · simp only [addL, List.mem_cons, List.not_mem_nil, or_false] at hq
    rcases hq with rfl | rfl | rfl | rfl | rfl <;> simp [addL]
end Mine
namespace Mine
open PySem PySem.W
variable {b c : Bool} {w : World}
noncomputable def frSub (P : Params) (t1 t2 t3 d o r : Nat) : Loc2 → Obj
  | none => frObj P [(str "self", t1, .ref o), (str "other", t2, .ref d), (str "result", t3, .ref r)] 3
  | some (a, x, b, y) => frObj P [(str "self", t1, .ref o), (str "other", t2, .ref d), (str "result", t3, .ref r), (str "elem", a, x), (str "count", b, y)] 5
theorem notSys {o : Nat} (h : 1103 ≤ o) : (o == sysModules) = false := by
  have h2 : o ≠ sysModules := fun z => by rw [z] at h; exact absurd h (by decide)
  simpa using h2
structure SSt where
  ok : Value
  ov : Value
  lo : Loc2
  rs : List E
  rep : Nat
noncomputable def subF : Stmt := tstm (sBody (mth 19)) 3
noncomputable def envSub (L : Nat) : Env := envM 19 L 1029 1028 "Counter.__sub__.<locals>."
noncomputable def cSub (it L : Nat) : Code := sFor subF (.ref it) (envSub L)
noncomputable def mSub (it d L n ep : Nat) (es : List E) (e : E) (sz : Nat) : Mid := mFor 0 it d (n + 1) (eln es) ep (sz - 1) (.bool false) (.int e.k e.t) (.int e.v e.u) (tgt subF) (fbody subF) (forelse subF) (envSub L)
theorem tgtSub : ∃ e x p, tgt subF = .Tuple e x p := by
  have : tgt subF = .Tuple (tupE (tgt subF)) (match tgt subF with | .Tuple _ x _ => x | _ => default) (match tgt subF with | .Tuple _ _ p => p | _ => default) := by kernel_rfl
  exact ⟨_, _, _, this⟩
noncomputable def oSubH (it d L o oo n dd ep oep : Nat) (es os : List E) (ok ov : Value) (e : E) (r : Bool) : List Op :=
  [.s 0, .k 0, .s 0, .a fun _ sz _ => sIiNext 0 1 it d n clsC (some dd) es ep ok ov e sz, .m fun sz _ => mSub it d L n ep es e sz] ++ oUnp5 ++ [.s 2, .s 2, .s 2, .s 2, .s 2, .s 2, .s 4, .k 2, .s 4, .k 3, .s 4, .k 0, .a fun _ _ _ => sHas clsC (some oo) 4 o os oep e.k e.t false, .s 2, .k 0, .a fun cc _ _ => sCmp "int.__lt__" e.v 0 r cc]
noncomputable def oSubT (r rr rep : Nat) (rs : List E) (e : E) : List Op := [.s 2, .k 0, .s 2, .s 2, .s 3, .k 0, .s 3, .k 3, .s 3, .k 0, .a fun cc _ _ => sSet clsC (some rr) 3 r rs rep e.k e.t (0 - e.v) (argTok cc 2)]
noncomputable def slSub (P : Params) (it d L r o oo dd rr ep oep t1 t2 t3 n : Nat) (es os rs : List E) (rep : Nat) (ok ov : Value) (lo : Loc2) : List (Nat × Obj) :=
  [(it, iiObj .none (.bool false) d n (eln es) ep ok ov), (d, dObj clsC (some dd) es ep), (L, frSub P t1 t2 t3 d o r lo), (r, dObj clsC (some rr) rs rep), (o, dObj clsC (some oo) os oep)]
theorem turnSubT (it d L r o oo dd rr ep oep t1 t2 t3 n : Nat) (es os rs : List E) (rep : Nat) (ok ov : Value) (lo : Loc2) (e : E) (sz tok : Nat) (k : Result → Sem PySem.Fin) (g : Bool) (l : List Value) (b1 : List Stmt) (e1 : Env) (pos pos' : Pos) (kp : List Value) (b2 : List Stmt) (e2 : Env) (p2 : Pos) (a3 : Args) (p3 : Pos) (gens : List GenState) :
    chk (tR tP (tW b c w) (KK (tW b c w)) (W2 b2 e2 p2 a3 p3) 116 (oSubH it d L o oo n dd ep oep es os ok ov e true ++ oSubT r rr rep rs e) (mkT (slSub (tW b c w).params it d L r o oo dd rr ep oep t1 t2 t3 n es os rs rep ok ov lo)) 5 (sz + 1103) gens tok [] (tD (cSub it L)) (cSub it L) pos' [.ret k none g l (.func b1 e1) pos kp] [] []) (turns 5) =
    chk' (tR tP (tW b c w) (KK (tW b c w)) (W2 b2 e2 p2 a3 p3) 116 (oSubH it d L o oo n dd ep oep es os ok ov e true ++ oSubT r rr rep rs e) (mkT (slSub (tW b c w).params it d L r o oo dd rr ep oep t1 t2 t3 n es os rs rep ok ov lo)) 5 (sz + 1103) gens tok [] (tD (cSub it L)) (cSub it L) pos' [.ret k none g l (.func b1 e1) pos kp] [] [])
      (tD (cSub it L), cSub it L, [.ret k none g l (.func b1 e1) pos kp], sz + 1103 + 4, tok + 7, appG gens [], (slSub (tW b c w).params it d L r o oo dd rr ep oep t1 t2 t3 (n + 1) es os (esSet rs e.k e.t (0 - e.v) (tok + 5)) (epSet rs e.k rep) (.int e.k e.t) (.int e.v e.u) (loc2Set tok (.int e.k e.t) (tok + 1) (.int e.v e.u) lo)).map some) := by
  cases lo <;> cases b <;> kernel_rfl
theorem turnSubF (it d L r o oo dd rr ep oep t1 t2 t3 n : Nat) (es os rs : List E) (rep : Nat) (ok ov : Value) (lo : Loc2) (e : E) (sz tok : Nat) (k : Result → Sem PySem.Fin) (g : Bool) (l : List Value) (b1 : List Stmt) (e1 : Env) (pos pos' : Pos) (kp : List Value) (b2 : List Stmt) (e2 : Env) (p2 : Pos) (a3 : Args) (p3 : Pos) (gens : List GenState) :
    chk (tR tP (tW b c w) (KK (tW b c w)) (W2 b2 e2 p2 a3 p3) 92 (oSubH it d L o oo n dd ep oep es os ok ov e false) (mkT (slSub (tW b c w).params it d L r o oo dd rr ep oep t1 t2 t3 n es os rs rep ok ov lo)) 5 (sz + 1103) gens tok [] (tD (cSub it L)) (cSub it L) pos' [.ret k none g l (.func b1 e1) pos kp] [] []) (turns 5) =
    chk' (tR tP (tW b c w) (KK (tW b c w)) (W2 b2 e2 p2 a3 p3) 92 (oSubH it d L o oo n dd ep oep es os ok ov e false) (mkT (slSub (tW b c w).params it d L r o oo dd rr ep oep t1 t2 t3 n es os rs rep ok ov lo)) 5 (sz + 1103) gens tok [] (tD (cSub it L)) (cSub it L) pos' [.ret k none g l (.func b1 e1) pos kp] [] [])
      (tD (cSub it L), cSub it L, [.ret k none g l (.func b1 e1) pos kp], sz + 1103 + 4, tok + 4, appG gens [], (slSub (tW b c w).params it d L r o oo dd rr ep oep t1 t2 t3 (n + 1) es os rs rep (.int e.k e.t) (.int e.v e.u) (loc2Set tok (.int e.k e.t) (tok + 1) (.int e.v e.u) lo)).map some) := by
  cases lo <;> cases b <;> kernel_rfl

theorem endSub (it d L r o oo dd rr ep oep t1 t2 t3 n : Nat) (es os rs : List E) (rep : Nat) (ok ov : Value) (lo : Loc2) (sz tok : Nat) (k : Result → Sem PySem.Fin) (g : Bool) (l : List Value) (code : Code) (pos pos' : Pos) (kp : List Value) (W : List (Code × Pos)) (gens : List GenState) :
    chk (tR tP (tW b c w) (KK (tW b c w)) W 8 [.s 0, .k 0, .s 0, .a fun _ sz _ => sIiEnd 0 1 it d n .none (.bool false) clsC (some dd) es ep ok ov sz, .s 6] (mkT (slSub (tW b c w).params it d L r o oo dd rr ep oep t1 t2 t3 n es os rs rep ok ov lo)) 5 sz gens tok [] (tD (cSub it L)) (cSub it L) pos' [.ret k none g l code pos kp] [] []) (ends 5 []) =
    chk' (tR tP (tW b c w) (KK (tW b c w)) W 8 [.s 0, .k 0, .s 0, .a fun _ sz _ => sIiEnd 0 1 it d n .none (.bool false) clsC (some dd) es ep ok ov sz, .s 6] (mkT (slSub (tW b c w).params it d L r o oo dd rr ep oep t1 t2 t3 n es os rs rep ok ov lo)) 5 sz gens tok [] (tD (cSub it L)) (cSub it L) pos' [.ret k none g l code pos kp] [] [])
      (k (.ok .next), code, pos, [], sz + 2, tok + 0, appG gens [], [], [(it, iiEnd (iiObj .none (.bool false) d n (eln es) ep ok ov)), (d, dObj clsC (some dd) es ep), (L, frSub (tW b c w).params t1 t2 t3 d o r lo), (r, dObj clsC (some rr) rs rep), (o, dObj clsC (some oo) os oep)].map some, []) := by
  cases lo <;> cases b <;> kernel_rfl
noncomputable def subL (P : Params) (i0 i1 i2 i3 i4 it d L r o oo dd rr ep oep t1 t2 t3 : Nat) (es os : List E) : Loop SSt E where
  code := cSub it L
  res := .ok .next
  slots n st := [(i0, it, iiObj .none (.bool false) d n (eln es) ep st.ok st.ov), (i1, d, dObj clsC (some dd) es ep), (i2, L, frSub P t1 t2 t3 d o r st.lo), (i3, r, dObj clsC (some rr) st.rs st.rep), (i4, o, dObj clsC (some oo) os oep)]
  fin n st := [(it, iiEnd (iiObj .none (.bool false) d n (eln es) ep st.ok st.ov)), (d, dObj clsC (some dd) es ep), (L, frSub P t1 t2 t3 d o r st.lo), (r, dObj clsC (some rr) st.rs st.rep), (o, dObj clsC (some oo) os oep)]
  post n st := [(i0, it, iiEnd (iiObj .none (.bool false) d n (eln es) ep st.ok st.ov)), (i2, L, frSub P t1 t2 t3 d o r st.lo), (i3, r, dObj clsC (some rr) st.rs st.rep)]
  edl := 2
  edt := 0
  step e st t := match decide (e.v < 0) with
    | true => ⟨.int e.k e.t, .int e.v e.u, loc2Set t (.int e.k e.t) (t + 1) (.int e.v e.u) st.lo, esSet st.rs e.k e.t (0 - e.v) (t + 5), epSet st.rs e.k st.rep⟩
    | false => ⟨.int e.k e.t, .int e.v e.u, loc2Set t (.int e.k e.t) (t + 1) (.int e.v e.u) st.lo, st.rs, st.rep⟩
  sdl _ _ _ := 4
  sdt e _ _ := match decide (e.v < 0) with
    | true => 7
    | false => 4
  shape := shFn2
theorem subL_ok {i0 i1 i2 i3 i4 it d L r o oo dd rr ep oep t1 t2 t3 : Nat} {es os : List E} (hm : ∀ e ∈ es, esFind os e.k = none) (hz : es.length ≤ 8) (nd : [it, d, L, r, o].Nodup) (hge : ∀ a ∈ [it, d, L, r, o], 1103 ≤ a) (st : SSt) (hst : st.rs.length ≤ 0) (sz tok : Nat) (hsz : 1103 ≤ sz) :
    ((subL (tW b c w).params i0 i1 i2 i3 i4 it d L r o oo dd rr ep oep t1 t2 t3 es os).S 0 es st tok).Valid (mdl tP (tW b c w)) (KK (tW b c w)) sz tok := by
  refine Loop.valid _ [it, d, L, r, o] [it, L, r] 5 (fun n st => st.rs.length ≤ n) (fun n e => es[n]? = some e) (fun n => n = es.length) 1103 (fun _ _ => rfl) rfl (fun _ _ => rfl) nd (fun a ha => KK_none (hge a ha)) (fun _ _ => rfl) (fun n st n' st' q hq => ?_)
    (fun n st e sz tok hs hI he => ?_) (fun n st sz tok hs hI hl => ?_) (fun _ _ => rfl) (fun n st q hq => ?_) (fun n st q hq => ?_) es 0 st sz tok hsz (fun i e h => by simpa using h) (by simp) hst
  · simp only [subL, List.mem_cons, List.not_mem_nil, or_false] at hq
    rcases hq with rfl | rfl | rfl | rfl | rfl <;> simp [subL]
  · obtain ⟨sz, rfl⟩ : ∃ s', sz = s' + 1103 := ⟨sz - 1103, by omega⟩
    have hn : n < es.length := (List.getElem?_eq_some_iff.mp he).1
    have hmm := hm e (List.mem_of_getElem? he)
    have h8 : st.rs.length ≤ sizeLine := Nat.le_trans hI (Nat.le_trans (Nat.le_of_lt hn) (Nat.le_trans hz (by size_fits)))
    cases hd : decide (e.v < 0) with
    | true =>
      have hs : (subL (tW b c w).params i0 i1 i2 i3 i4 it d L r o oo dd rr ep oep t1 t2 t3 es os).step e st tok = ⟨.int e.k e.t, .int e.v e.u, loc2Set tok (.int e.k e.t) (tok + 1) (.int e.v e.u) st.lo, esSet st.rs e.k e.t (0 - e.v) (tok + 5), epSet st.rs e.k st.rep⟩ := by simp only [subL, hd]
      have ht : (subL (tW b c w).params i0 i1 i2 i3 i4 it d L r o oo dd rr ep oep t1 t2 t3 es os).sdt e st tok = 7 := by simp only [subL, hd]
      rw [hs, ht]
      refine ⟨Nat.le_trans (esSet_len ..) (by omega), 116, oSubH it d L o oo n dd ep oep es os st.ok st.ov e true ++ oSubT r rr st.rep st.rs e, ⟨fun cc sz tok _ _ => ⟨sIiNext_ok he sz tok, by simp [sIiNext]⟩, fun sz tok => mFor_ok tgtSub sz tok, fun cc sz tok _ _ => ⟨sHas_ok (by rw [hmm]; rfl) (notSys (hge o (by simp))) sz tok, by simp [sHas]⟩, fun cc sz tok _ _ => ⟨sLt_ok hd cc sz tok, by simp [sCmp]⟩, fun cc sz tok _ _ => ⟨sSetC_ok h8 (hge r (by simp)) sz tok, by simp [sSet]⟩, trivial⟩, fun k g l code pos pos' kp W gens hsh => ?_⟩
      obtain ⟨b1, e1, b2, e2, p2, a3, p3, rfl, rfl⟩ := shFn2_spec hsh
      exact turnSubT it d L r o oo dd rr ep oep t1 t2 t3 n es os st.rs st.rep st.ok st.ov st.lo e sz tok k g l b1 e1 pos pos' kp b2 e2 p2 a3 p3 gens
    | false =>
      have hs : (subL (tW b c w).params i0 i1 i2 i3 i4 it d L r o oo dd rr ep oep t1 t2 t3 es os).step e st tok = ⟨.int e.k e.t, .int e.v e.u, loc2Set tok (.int e.k e.t) (tok + 1) (.int e.v e.u) st.lo, st.rs, st.rep⟩ := by simp only [subL, hd]
      have ht : (subL (tW b c w).params i0 i1 i2 i3 i4 it d L r o oo dd rr ep oep t1 t2 t3 es os).sdt e st tok = 4 := by simp only [subL, hd]
      rw [hs, ht]
      refine ⟨Nat.le_succ_of_le hI, 92, oSubH it d L o oo n dd ep oep es os st.ok st.ov e false, ⟨fun cc sz tok _ _ => ⟨sIiNext_ok he sz tok, by simp [sIiNext]⟩, fun sz tok => mFor_ok tgtSub sz tok, fun cc sz tok _ _ => ⟨sHas_ok (by rw [hmm]; rfl) (notSys (hge o (by simp))) sz tok, by simp [sHas]⟩, fun cc sz tok _ _ => ⟨sLt_ok hd cc sz tok, by simp [sCmp]⟩, trivial⟩, fun k g l code pos pos' kp W gens hsh => ?_⟩
      obtain ⟨b1, e1, b2, e2, p2, a3, p3, rfl, rfl⟩ := shFn2_spec hsh
      exact turnSubF it d L r o oo dd rr ep oep t1 t2 t3 n es os st.rs st.rep st.ok st.ov st.lo e sz tok k g l b1 e1 pos pos' kp b2 e2 p2 a3 p3 gens
  · subst hl
    refine ⟨8, [.s 0, .k 0, .s 0, .a fun _ sz _ => sIiEnd 0 1 it d es.length .none (.bool false) clsC (some dd) es ep st.ok st.ov sz, .s 6], ⟨fun cc sz tok _ _ => ⟨sIiEnd_ok (by simp) sz tok, by simp [sIiEnd]⟩, trivial⟩, fun k g l code pos pos' kp W gens _ => ?_⟩
    exact endSub it d L r o oo dd rr ep oep t1 t2 t3 es.length es os st.rs st.rep st.ok st.ov st.lo sz tok k g l code pos pos' kp W gens
  · simp only [subL, List.mem_cons, List.not_mem_nil, or_false] at hq
    rcases hq with rfl | rfl | rfl <;> simp [subL]
  · simp only [subL, List.mem_cons, List.not_mem_nil, or_false] at hq
    rcases hq with rfl | rfl | rfl | rfl | rfl <;> simp [subL]
end Mine
namespace Mine
open PySem PySem.W

theorem comes_cod {p : Program} {w : World} {c code : Code} {s : Shared} {r : Result} {P : Shared → Prop} {k : Result → Sem PySem.Fin} {g : Bool} {l kp : List Value} {pos pos' : Pos} {st : List Frame} (hb : topHandled st = none)
    (h : ∀ A : Around, A.handled = none → A.units = unitsOf ((code, pos) :: st.map Frame.where_) → codeAny (model p w) A c (fun r' s' => r' = r ∧ P s') s) :
    ∃ s₁, P s₁ ∧ Comes (mdl p w) s ⟨(mdl p w).den c, c, pos', .ret k none g l code pos kp :: st⟩ s₁ ⟨k r, code, pos, st⟩ := by
  have hm : mdl p w = model p w := by unfold mdl model; rw [table_eq_tree]
  rw [hm]
  let Γ := Ctx.of c (.ret k none g l code pos kp :: st)
  have hh : Γ.handled = none := by
    show topHandled (.ret k none g l code pos kp :: st) = none
    rw [topHandled_ret]; exact hb
  obtain ⟨r', s₁, hr, rfl, hP⟩ := h ⟨none, frameCount Γ.below, none, none, unitsOf Γ.below⟩ rfl rfl Γ pos' rfl ⟨hh, Nat.le_refl _, (fun _ z => by cases z), (fun _ z => by cases z), Nat.le_refl _⟩
  obtain ⟨t', c', p', pre', hc₁, hx⟩ := (runs_reach hr _ (Ctx.fits_of c (.ret k none g l code pos kp :: st))).comes
  obtain ⟨rfl, rfl⟩ := hx
  exact ⟨s₁, hP, .trans hc₁ (.step (step_leaf_ret ..) (.refl _ _))⟩

/-- a summary from the library's words on a code -/
theorem Summ.ofCode {p : Program} {w : World} {K : Nat → Option Obj} {S : Summ} {sz tok : Nat} (hg : S.newg = []) (B : Nat → Prop) (hB : ∀ W, S.shape W = true → B (unitsOf W))
    (H : ∀ s : Shared, (∀ q ∈ S.pre, s.heap.get? q.2.1 = some q.2.2) → (∀ n ∈ S.needs, ∀ q ∈ n.2, s.heap.get? q.1 = some q.2) → (∀ n ∈ S.needs, ∀ q ∈ n.2, ∀ r ∈ S.post, q.1 ≠ r.2.1) → s.heap.objs.size = sz → s.toks = tok → ∀ A : Around, A.handled = none → B A.units →
      codeAny (model p w) A S.code (fun r s' => r = S.res ∧ ∃ h', s' = { s with heap := h', toks := tok + S.dtok } ∧ h'.objs.size = S.dsz.getD 0 + sz + S.dl ∧ (∀ q ∈ S.post, h'.get? q.2.1 = some q.2.2) ∧ (∀ q ∈ S.new, h'.get? (sz + q.1) = some q.2) ∧
        (∀ l ∈ S.facts, ∀ q ∈ l, h'.get? q.1 = some q.2 ∧ sz ≤ q.1 ∧ ∀ r ∈ S.new, q.1 ≠ sz + r.1) ∧ ∀ b o, s.heap.get? b = some o → (∀ q ∈ S.post, q.2.1 ≠ b) → h'.get? b = some o) s) : S.Valid (mdl p w) K sz tok := by
  intro s k g l code pos pos' kp st hK hpre hpo hne hne' hs ht hb hsh
  obtain ⟨s₁, ⟨h', rfl, h2, h3, h4, h5, h6⟩, C⟩ := comes_cod (k := k) (g := g) (l := l) (pos' := pos') (kp := kp) hb (fun A hA hu => H s hpre hne hne' hs ht A hA (by rw [hu]; exact hB _ hsh))
  refine ⟨h', ?_, h2, h3, h4, h5, h6⟩
  rw [hg]
  simpa using C
noncomputable def shUnits : List (Code × Pos) → Bool := fun W => Nat.ble (unitsOf W) 5000
theorem shUnits_le {W : List (Code × Pos)} (h : shUnits W = true) : unitsOf W ≤ 5000 := Nat.le_of_ble_eq_true h
end Mine
namespace Mine
open PySem PySem.W

/-- the heap behind the next of a dict's items, the owner's tuple being held -/
noncomputable def iiHd (f : Bool) (h : Heap) (it n : Nat) (e : E) : Heap := match f with
  | true => iiG' h it n e
  | false => iiG h it n e
section
variable {p : Program} {w : World} {A : Around} {EE : Value → Shared → Prop} {s : Shared}
theorem any_alive {a : Addr} {o : Obj} {Q : Option Obj → Shared → Prop} (ho : s.heap.get? a = some o) (h : Q (some o) s) : wpAny (model p w) A (loadIfAlive a) Q EE s := by
  have h' : Q (s.heap.get? a) s := by rw [ho]; exact h
  exact fun _ _ _ => h'
theorem any_iiNextH {Q : PySem.Fin → Shared → Prop} {it d n ep a : Nat} {f : Bool} {oa : Obj} {ok ov cls : Value} {dd : Option Nat} {es : List E} {e : E} (hit : s.heap.get? it = some (iiObj (rawInt a) (.bool f) d n (eln es) ep ok ov)) (ha : s.heap.get? a = some oa) (hne : a ≠ it)
    (hd : s.heap.get? d = some (dObj cls dd es ep)) (he : es[n]? = some e)
    (h : Q (Fin.done (.ret (.ref s.heap.objs.size))) { s with heap := iiHd f s.heap it n e }) : wpAny (model p w) A (Builtin.«dict_itemiterator.__next__» ⟨[.ref it], []⟩) Q EE s := by
  refine any_iiPre hit hd he ?_
  have h1 : (s.heap.update it (fset 3 (rawInt ((n : Int) + 1)))).get? it = some (iiObj (rawInt a) (.bool f) d (n + 1) (eln es) ep ok ov) := get_upd _ hit rfl rfl
  have z1 : (s.heap.update it (fset 3 (rawInt ((n : Int) + 1)))).objs.size = s.heap.objs.size := upd_size ..
  have h2 : ((s.heap.update it (fset 3 (rawInt ((n : Int) + 1)))).push (tupObj (kv e))).get? it = some (iiObj (rawInt a) (.bool f) d (n + 1) (eln es) ep ok ov) := Heap.get?_push_of_some _ h1
  have ha2 : ((s.heap.update it (fset 3 (rawInt ((n : Int) + 1)))).push (tupObj (kv e))).get? a = some oa := Heap.get?_push_of_some _ ((upd_other _ hne).trans ha)
  unfold Builtin.Dict_items.pairFromOwner
  refine wpAny_bind (wpAny_newTuple ?_)
  refine wpAny_bind ?_
  unfold Builtin.Dict_items.ownedTupleIsFree
  refine wpAny_bind (wpAny_field (o := iiObj (rawInt a) (.bool f) d (n + 1) (eln es) ep ok ov) h2 rfl (x := rawInt a) rfl ?_)
  show wpAny _ _ (loadIfAlive ((a : Int).toNat) >>= _) _ _ _
  rw [Int.toNat_natCast]
  refine wpAny_bind (any_alive ha2 ?_)
  simp only [Option.isNone_some, Bool.false_eq_true, if_false]
  refine wpAny_bind (wpAny_field (o := iiObj (rawInt a) (.bool f) d (n + 1) (eln es) ep ok ov) h2 rfl (x := .bool f) rfl ?_)
  rw [z1]
  cases f with
  | true =>
    rw [if_neg (show ¬ ((Value.bool true != Value.bool true) = true) from Bool.false_ne_true)]
    refine wpAny_pure ?_
    simp only [Bool.false_eq_true, if_false]
    exact wpAny_pure h
  | false =>
    rw [if_pos (show (Value.bool false != Value.bool true) = true from rfl)]
    refine wpAny_bind (wpAny_setField h2 rfl (by simp) ?_)
    refine wpAny_pure ?_
    simp only [Bool.false_eq_true, if_false]
    exact wpAny_pure h
theorem iiHd_spec {f : Bool} {h : Heap} {it d n N ep a : Nat} {ok ov : Value} {e : E} (hit : h.get? it = some (iiObj (rawInt a) (.bool f) d n N ep ok ov)) :
    (iiHd f h it n e).objs.size = h.objs.size + 1 ∧ (iiHd f h it n e).get? it = some (iiObj (rawInt a) (.bool true) d (n + 1) N ep ok ov) ∧ (iiHd f h it n e).get? h.objs.size = some (tupObj (kv e)) ∧
    ∀ b o, h.get? b = some o → b ≠ it → (iiHd f h it n e).get? b = some o := by
  have hl := Heap.lt_size hit
  have h1 : (h.update it (fset 3 (rawInt ((n : Int) + 1)))).get? it = some (iiObj (rawInt a) (.bool f) d (n + 1) N ep ok ov) := get_upd _ hit rfl rfl
  have h2 : ((h.update it (fset 3 (rawInt ((n : Int) + 1)))).push (tupObj (kv e))).get? it = some (iiObj (rawInt a) (.bool f) d (n + 1) N ep ok ov) := Heap.get?_push_of_some _ h1
  have ht : ((h.update it (fset 3 (rawInt ((n : Int) + 1)))).push (tupObj (kv e))).get? h.objs.size = some (tupObj (kv e)) := by
    rw [show h.objs.size = (h.update it (fset 3 (rawInt ((n : Int) + 1)))).objs.size from (upd_size ..).symm]
    exact Heap.get?_push_size _ rfl
  have hz : ((h.update it (fset 3 (rawInt ((n : Int) + 1)))).push (tupObj (kv e))).objs.size = h.objs.size + 1 := by rw [Heap.size_push, upd_size]
  cases f with
  | true => exact ⟨hz, h2, ht, fun b o hb hn => Heap.get?_push_of_some _ ((upd_other _ hn).trans hb)⟩
  | false =>
    refine ⟨(upd_size ..).trans hz, get_upd _ h2 rfl rfl, (upd_other _ (Nat.ne_of_gt hl)).trans ht, fun b o hb hn => ?_⟩
    exact (upd_other _ hn).trans (Heap.get?_push_of_some _ ((upd_other _ hn).trans hb))

/-- pyNext of a dict's items: an item, the end -/
theorem any_pyNextII {it : Nat} {f0 f1 ok ov : Value} {d n N ep : Nat} {Q : Option Value → Shared → Prop} (hit : s.heap.get? it = some (iiObj f0 f1 d n N ep ok ov))
    (h : wpAny (model p w) A.in1 (Builtin.«dict_itemiterator.__next__» ⟨[.ref it], []⟩) (fun fin s' => ∃ v, fin = .done (.ret v) ∧ Q (some v) s') (fun e s' => e = .ref (s.heap.objs.size + 1) ∧ (∃ t, s'.heap.get? (s.heap.objs.size + 1) = some (stopObj t)) ∧ Q none s') s) :
    wpAny (model p w) A (pyNext (.ref it)) Q EE s := by
  have hT : s.TypeIs (.ref it) "dict_itemiterator" := ⟨_, hit, rfl⟩
  unfold pyNext
  refine wpAny_bind (wpAny_attempt (wpAny_callSpecial?_slot (name := Str.ofString "__next__") hT F.slot_dict_itemiterator_next
    (wpAny_call_entry F.slot_dict_itemiterator_next hT F.entry_dict_itemiterator_next (wpAny_mono h ?_ ?_) (F.args_dict_itemiterator_next_1 _))))
  · rintro fin s' ⟨v, rfl, hv⟩
    exact ⟨v, rfl, wpAny_pure hv⟩
  · rintro e s' ⟨rfl, ⟨t, ht⟩, hq⟩
    refine wpAny_bind (wpAny_isInstance (T := "StopIteration") (b := true) ⟨_, ht, rfl⟩ isSubtype_stop ?_)
    exact wpAny_pure hq

noncomputable def tupF : Nat → List E → List (Nat × Obj)
  | _, [] => []
  | a, e :: r => (a, tupObj (kv e)) :: tupF (a + 1) r
noncomputable def refs : Nat → List E → List Value
  | _, [] => []
  | a, _ :: r => .ref a :: refs (a + 1) r
/-- the iterator of a list's extension: fresh, or its tuple held -/
noncomputable def IiOk (h : Heap) (it l : Nat) (f0 f1 : Value) : Prop :=
  (f0 = .none ∧ f1 = .bool false) ∨ ∃ (a : Nat) (f : Bool) (oa : Obj), f0 = rawInt a ∧ f1 = .bool f ∧ h.get? a = some oa ∧ a ≠ it ∧ a ≠ l
noncomputable def iiRun (d N ep : Nat) : List E → Nat → Nat → Value → Value → Value → Value → Obj
  | [], n, _, f0, f1, ok, ov => iiEnd (iiObj f0 f1 d n N ep ok ov)
  | e :: r, n, sz, f0, _, ok, ov => match f0 with
    | .none => iiRun d N ep r (n + 1) (sz + 1) (rawInt sz) (.bool false) (.int e.k e.t) (.int e.v e.u)
    | f0 => iiRun d N ep r (n + 1) (sz + 1) f0 (.bool true) ok ov
theorem lsPush {h : Heap} {l ep : Nat} {acc : List Value} (hl : h.get? l = some (lsObj acc ep)) (v : Value) : (h.update l (Obj.mapSeq (·.push v))).get? l = some (lsObj (acc ++ [v]) (ep + 1)) := by
  refine get_upd _ hl ?_ rfl
  show Obj.mk _ _ (.seq ((⟨acc⟩ : Array Value).push v) (if ((⟨acc⟩ : Array Value).push v).size == (⟨acc⟩ : Array Value).size then ep else ep + 1)) _ = _
  rw [if_neg (by simp)]
  simp [lsObj]
theorem itemsLoop {it d l ep : Nat} {cls : Value} {dd : Option Nat} {es : List E} {res : Value} {R : Result → Shared → Prop} (hh : A.handled = none) (hil : it ≠ l) (hid : d ≠ it) (hld : d ≠ l) (h8 : es.length ≤ 8) :
    ∀ (rem : List E) (n : Nat) (h : Heap) (acc : List Value) (lep : Nat) (f0 f1 ok ov : Value), es.drop n = rem → acc.length + rem.length ≤ 8 → h.get? it = some (iiObj f0 f1 d n (eln es) ep ok ov) → IiOk h it l f0 f1 → h.get? d = some (dObj cls dd es ep) → h.get? l = some (lsObj acc lep) →
      (∀ h', h'.objs.size = h.objs.size + rem.length + 2 → h'.get? l = some (lsObj (acc ++ refs h.objs.size rem) (lep + rem.length)) → (∀ q ∈ tupF h.objs.size rem, h'.get? q.1 = some q.2) → h'.get? it = some (iiRun d (eln es) ep rem n h.objs.size f0 f1 ok ov) →
        (∀ b o, b ≠ it → b ≠ l → h.get? b = some o → h'.get? b = some o) → R (.ok (.ret res)) { s with heap := h' }) →
      codeAny (model p w) A (.builtin "list.extend.loop" ⟨[.ref l, .ref it, res], []⟩) R { s with heap := h }
  | [], n, h, acc, lep, f0, f1, ok, ov, hdr, hac, hit, hI, hd, hl, hR => by
    have he : es[n]? = none := by
      have := congrArg List.length hdr
      rw [List.length_drop] at this
      exact List.getElem?_eq_none (by simp at this; omega)
    refine codeAny_builtin PySem.F.entry_extend_loop ?_
    rw [Around.under_plainId PySem.F.plain_extend_loop _]
    show wpAny _ A.in1 (pyNext (.ref it) >>= _) _ _ _
    have z1 := upd_size h it (fset 2 .none)
    have z2 : ((h.update it (fset 2 .none)).push (tupObj [])).objs.size = h.objs.size + 1 := by rw [Heap.size_push, z1]
    refine wpAny_bind (any_pyNextII (s := { s with heap := h }) hit (any_iiEnd (s := { s with heap := h }) (A := A.in1.in1) hh hit hd he ⟨rfl, ⟨h.objs.size, ?_⟩, ?_⟩))
    · show Heap.get? _ (h.objs.size + 1) = _
      rw [← z2]
      exact Heap.get?_push_size _ rfl
    · refine wpAny_pure (hR _ ?_ ?_ (fun q hq => nomatch hq) (Heap.get?_push_of_some _ (Heap.get?_push_of_some _ (get_upd _ hit rfl rfl))) fun b o h1 h2 hb => ?_)
      · rw [Heap.size_push, z2]; rfl
      · refine Heap.get?_push_of_some _ (Heap.get?_push_of_some _ ((upd_other _ (Ne.symm hil)).trans ?_))
        simpa [refs] using hl
      · exact Heap.get?_push_of_some _ (Heap.get?_push_of_some _ ((upd_other _ h1).trans hb))
  | e :: rem, n, h, acc, lep, f0, f1, ok, ov, hdr, hac, hit, hI, hd, hl, hR => by
    have he : es[n]? = some e := by
      have := congrArg (·[0]?) hdr
      simpa using this
    have hdr' : es.drop (n + 1) = rem := by
      have := congrArg List.tail hdr
      simpa using this
    have key : ∀ (h1 : Heap) (g0 g1 ok1 ov1 : Value), h1.objs.size = h.objs.size + 1 → h1.get? it = some (iiObj g0 g1 d (n + 1) (eln es) ep ok1 ov1) → IiOk h1 it l g0 g1 → iiRun d (eln es) ep rem (n + 1) (h.objs.size + 1) g0 g1 ok1 ov1 = iiRun d (eln es) ep (e :: rem) n h.objs.size f0 f1 ok ov →
        h1.get? h.objs.size = some (tupObj (kv e)) → (∀ b o, h.get? b = some o → b ≠ it → h1.get? b = some o) →
        codeAny (model p w) A (.builtin "list.extend.loop" ⟨[.ref l, .ref it, res], []⟩) R { s with heap := h1.update l (Obj.mapSeq (·.push (Value.ref h.objs.size))) } := fun h1 g0 g1 ok1 ov1 hz hit1 hI1 hrun ht1 hk1 => by
      have hl1 := hk1 l _ hl (Ne.symm hil)
      have hlt := Heap.lt_size hl
      have up : ∀ b o, b ≠ l → h1.get? b = some o → (h1.update l (Obj.mapSeq (·.push (Value.ref h.objs.size)))).get? b = some o := fun b o hb hg => (upd_other _ hb).trans hg
      refine itemsLoop hh hil hid hld h8 rem (n + 1) _ (acc ++ [.ref h.objs.size]) (lep + 1) g0 g1 ok1 ov1 hdr' (by simp at hac ⊢; omega) (up _ _ hil hit1) ?_ (up _ _ hld (hk1 d _ hd hid)) (lsPush hl1 _) fun h' q1 q2 q3 q5 q4 => ?_
      · rcases hI1 with hI1 | ⟨a, f, oa, e0, e1, e2, e3, e4⟩
        · exact .inl hI1
        · exact .inr ⟨a, f, oa, e0, e1, up _ _ e4 e2, e3, e4⟩
      · rw [upd_size, hz] at q1 q2 q3 q5
        refine hR h' (by rw [q1]; simp; omega) ?_ (fun q hq => ?_) (q5.trans (congrArg some hrun)) fun b o h1' h2' hb => q4 b o h1' h2' (up b o h2' (hk1 b o hb h1'))
        · rw [q2]
          simp only [refs, List.append_assoc, List.singleton_append, List.length_cons]
          congr 2
          omega
        · simp only [tupF, List.mem_cons] at hq
          rcases hq with rfl | hq
          · exact q4 _ _ (Nat.ne_of_gt (Heap.lt_size hit)) (Nat.ne_of_gt hlt) (up _ _ (Nat.ne_of_gt hlt) ht1)
          · exact q3 q hq
    have hlt := Heap.lt_size hl
    have hsz : acc.length ≤ sizeLine := Nat.le_trans (by omega : acc.length ≤ 8) (by size_fits)
    have hsz2 : ((⟨acc⟩ : Array Value).push (.ref h.objs.size)).size ≤ sizeLine + 1 := by
      rw [Array.size_push]
      exact Nat.add_le_add_right hsz 1
    refine codeAny_builtin PySem.F.entry_extend_loop ?_
    rw [Around.under_plainId PySem.F.plain_extend_loop _]
    show wpAny _ A.in1 (pyNext (.ref it) >>= _) _ _ _
    have step : ∀ h1 : Heap, h1.get? l = some (lsObj acc lep) → codeAny (model p w) A (.builtin "list.extend.loop" ⟨[.ref l, .ref it, res], []⟩) R { s with heap := h1.update l (Obj.mapSeq (·.push (Value.ref h.objs.size))) } →
        wpAny (model p w) A.in1 (Builtin.List.listUpdate (.ref l) (·.push (.ref h.objs.size)) >>= fun _ => again (.builtin "list.extend.loop" ⟨[.ref l, .ref it, res], []⟩))
          (fun fin s' => match fin with | .done f => R (.ok f) s' | .again c' => c'.quiet = true ∧ codeAny (model p w) A c' R s') (fun e s' => R (.error e) s') { s with heap := h1 } := fun h1 hl1 hc => by
      refine wpAny_bind (m := Builtin.List.listUpdate (.ref l) (·.push (.ref h.objs.size))) ?_
      exact wpAny_updateSeq (s := { s with heap := h1 }) hl1 rfl (wpAny_pure ⟨plainId_quiet PySem.F.plain_extend_loop _, hc⟩) hsz hsz2
    rcases hI with ⟨rfl, rfl⟩ | ⟨a, f, oa, rfl, rfl, ha, hai, hal⟩
    · obtain ⟨a1, a2, a3, a4⟩ := iiH_spec (e := e) hit
      refine wpAny_bind (any_pyNextII (s := { s with heap := h }) hit (any_iiNext (s := { s with heap := h }) (A := A.in1.in1) hit hd he ⟨.ref h.objs.size, rfl, ?_⟩))
      refine step _ (a4 l _ hl (Ne.symm hil)) (key _ _ _ _ _ (by rw [a1]; omega) a2 (.inr ⟨h.objs.size, false, _, rfl, rfl, a3, Nat.ne_of_gt (Heap.lt_size hit), Nat.ne_of_gt hlt⟩) rfl a3 a4)
    · obtain ⟨a1, a2, a3, a4⟩ := iiHd_spec (e := e) hit
      refine wpAny_bind (any_pyNextII (s := { s with heap := h }) hit (any_iiNextH (s := { s with heap := h }) (A := A.in1.in1) hit ha hai hd he ⟨.ref h.objs.size, rfl, ?_⟩))
      exact step _ (a4 l _ hl (Ne.symm hil)) (key _ _ _ _ _ a1 a2 (.inr ⟨a, true, oa, rfl, rfl, a4 a oa ha hai, hai, hal⟩) rfl a3 a4)
end

theorem tupF_ge (q : Nat × Obj) : ∀ (es : List E) (a : Nat), q ∈ tupF a es → a ≤ q.1
  | [], _, h => (List.not_mem_nil h).elim
  | e :: r, a, h => by
    unfold tupF at h
    rcases List.mem_cons.mp h with h | h
    · rw [h]; exact Nat.le_refl _
    · exact Nat.le_of_succ_le (tupF_ge q r (a + 1) h)
/-- the loop of a list's extension by a dict's items -/
noncomputable def sItems (i0 i1 i2 l it d lep : Nat) (cls : Value) (dd : Option Nat) (es : List E) (ep : Nat) (ok ov : Value) (sz : Nat) : Summ :=
  { code := .builtin "list.extend.loop" ⟨[.ref l, .ref it, .none], []⟩, res := .ok (.ret .none), pre := [(i0, l, lsObj [] lep), (i1, it, iiObj .none (.bool false) d 0 (eln es) ep ok ov), (i2, d, dObj cls dd es ep)],
    post := [(i0, l, lsObj (refs sz es) (lep + es.length)), (i1, it, iiRun d (eln es) ep es 0 sz .none (.bool false) ok ov)], facts := [tupF sz es], dsz := some es.length, dl := 2 }
theorem sItems_ok {p : Program} {w : World} {K : Nat → Option Obj} {i0 i1 i2 l it d lep : Nat} {cls : Value} {dd : Option Nat} {es : List E} {ep : Nat} {ok ov : Value} (hil : it ≠ l) (hid : d ≠ it) (hld : d ≠ l) (h8 : es.length ≤ 8) (sz tok : Nat) :
    (sItems i0 i1 i2 l it d lep cls dd es ep ok ov sz).Valid (mdl p w) K sz tok := by
  refine Summ.ofCode rfl (fun _ => True) (fun _ _ => trivial) fun s hpre _ _ hs ht A hA _ => ?_
  have h0 : s.heap.get? l = some (lsObj [] lep) := hpre (i0, l, lsObj [] lep) List.mem_cons_self
  have h1 : s.heap.get? it = some (iiObj .none (.bool false) d 0 (eln es) ep ok ov) := hpre (i1, it, iiObj .none (.bool false) d 0 (eln es) ep ok ov) (List.mem_cons_of_mem _ List.mem_cons_self)
  have h2 : s.heap.get? d = some (dObj cls dd es ep) := hpre (i2, d, dObj cls dd es ep) (List.mem_cons_of_mem _ (List.mem_cons_of_mem _ List.mem_cons_self))
  subst hs ht
  show codeAny (model p w) A (.builtin "list.extend.loop" ⟨[.ref l, .ref it, .none], []⟩) _ s
  refine itemsLoop (s := s) (res := .none) hA hil hid hld h8 es 0 s.heap [] lep .none (.bool false) ok ov rfl (by simpa using h8) h1 (.inl ⟨rfl, rfl⟩) h2 h0 fun h' q1 q2 q3 q5 q4 => ⟨rfl, h', rfl, ?_, ?_, (fun q hq => nomatch hq), ?_, ?_⟩
  · rw [q1]; show _ = es.length + s.heap.objs.size + 2; omega
  · intro q hq
    rcases List.mem_cons.mp hq with rfl | hq
    · exact q2
    · rw [List.mem_singleton.mp hq]
      exact q5
  · intro x hx q hq
    rw [List.mem_singleton.mp hx] at hq
    exact ⟨q3 q hq, tupF_ge q es _ hq, fun r hr => nomatch hr⟩
  · intro b o hb hn
    exact q4 b o (fun z => hn _ (List.mem_cons_of_mem _ List.mem_cons_self) z.symm) (fun z => hn _ List.mem_cons_self z.symm) hb
end Mine
namespace Mine
open PySem PySem.W PySem.SeqAt

section
variable {p : Program} {w : World} {A : Around} {s : Shared} {a b ep ep' : Nat} {vs us : List Value} {xs ys : List PyData} {as bs : List Addr}
theorem cmp_at (r1 : ReadsAll s.heap vs xs as) (r2 : ReadsAll s.heap us ys bs) (l1 : PyData.canLayAll0 xs = true) (l2 : PyData.canLayAll0 ys = true) (hu : A.units + 1 + min (PyData.depthAll xs) (PyData.depthAll ys) < cLine) :
    ∀ j (h1 : j < (⟨vs⟩ : Array Value).size) (h2 : j < (⟨us⟩ : Array Value).size), EqAt A.in1 s (⟨vs⟩ : Array Value)[j] (⟨us⟩ : Array Value)[j] (pairEq xs ys j) := fun j h1 h2 => by
  have := eqAt_readsAll xs ys A.in1 s vs us _ _ r1 r2 l1 l2 hu j (by simpa using h1) (by simpa using h2)
  simpa using this
theorem listNe (h1 : s.heap.get? a = some (lsObj vs ep)) (h2 : s.heap.get? b = some (lsObj us ep')) (r1 : ReadsAll s.heap vs xs as) (r2 : ReadsAll s.heap us ys bs) (l1 : PyData.canLayAll0 xs = true) (l2 : PyData.canLayAll0 ys = true)
    (hu : A.units + 1 + min (PyData.depthAll xs) (PyData.depthAll ys) < cLine) :
    codeAny (model p w) A (.builtin "list.__ne__" ⟨[.ref a, .ref b], []⟩) (fun r s' => r = .ok (.ret (.bool (!PyData.eqvAll xs ys))) ∧ s' = s) s := by
  refine codeAny_builtin F.entry_list_ne ?_
  rw [Around.under_plainId (show plainId "list.__ne__" = true by decide +kernel) _]
  have n1 : vs.length = xs.length := ReadsAll.length _ _ _ r1
  have n2 : us.length = ys.length := ReadsAll.length _ _ _ r2
  by_cases hsz : (⟨vs⟩ : Array Value).size = (⟨us⟩ : Array Value).size
  · refine list_neAt a b ⟨vs⟩ ⟨us⟩ ep ep' none none #[] #[] hsz (pairEq xs ys) p w A (fun r s' => r = .ok (.ret (.bool (!PyData.eqvAll xs ys))) ∧ s' = s) s ⟨h1, h2, cmp_at r1 r2 l1 l2 hu, ?_⟩
    have e : (⟨vs⟩ : Array Value).size = xs.length := n1
    have hl : xs.length = ys.length := by simp at hsz; omega
    rw [e, eqvAll_same_length hl]
    exact ⟨rfl, rfl⟩
  · refine list_ne_lengthsAt a b ⟨vs⟩ ⟨us⟩ ep ep' none none #[] #[] (by simpa using hsz) p w A (fun r s' => r = .ok (.ret (.bool (!PyData.eqvAll xs ys))) ∧ s' = s) s ⟨h1, h2, ?_⟩
    rw [eqvAll_other_length (by simp at hsz; omega)]
    exact ⟨rfl, rfl⟩
theorem listEq (h1 : s.heap.get? a = some (lsObj vs ep)) (h2 : s.heap.get? b = some (lsObj us ep')) (r1 : ReadsAll s.heap vs xs as) (r2 : ReadsAll s.heap us ys bs) (l1 : PyData.canLayAll0 xs = true) (l2 : PyData.canLayAll0 ys = true)
    (hu : A.units + 1 + min (PyData.depthAll xs) (PyData.depthAll ys) < cLine) :
    codeAny (model p w) A (.builtin "list.__eq__" ⟨[.ref a, .ref b], []⟩) (fun r s' => r = .ok (.ret (.bool (PyData.eqvAll xs ys))) ∧ s' = s) s := by
  refine codeAny_builtin F.entry_list_eq ?_
  rw [Around.under_plainId (show plainId "list.__eq__" = true by decide +kernel) _]
  have n1 : vs.length = xs.length := ReadsAll.length _ _ _ r1
  have n2 : us.length = ys.length := ReadsAll.length _ _ _ r2
  by_cases hsz : (⟨vs⟩ : Array Value).size = (⟨us⟩ : Array Value).size
  · refine list_eqAt a b ⟨vs⟩ ⟨us⟩ ep ep' none none #[] #[] hsz (pairEq xs ys) p w A (fun r s' => r = .ok (.ret (.bool (PyData.eqvAll xs ys))) ∧ s' = s) s ⟨h1, h2, cmp_at r1 r2 l1 l2 hu, ?_⟩
    have e : (⟨vs⟩ : Array Value).size = xs.length := n1
    have hl : xs.length = ys.length := by simp at hsz; omega
    rw [e, eqvAll_same_length hl]
    exact ⟨rfl, rfl⟩
  · refine list_eq_lengthsAt a b ⟨vs⟩ ⟨us⟩ ep ep' none none #[] #[] (by simpa using hsz) p w A (fun r s' => r = .ok (.ret (.bool (PyData.eqvAll xs ys))) ∧ s' = s) s ⟨h1, h2, ?_⟩
    rw [eqvAll_other_length (by simp at hsz; omega)]
    exact ⟨rfl, rfl⟩
end

/-- what a list's values read as, given facts -/
structure Rd (N : List (Nat × List (Nat × Obj))) (vs : List Value) (xs : List PyData) : Prop where
  reads : ∀ h : Heap, (∀ n ∈ N, ∀ q ∈ n.2, h.get? q.1 = some q.2) → ∃ as, ReadsAll h vs xs as
  lay : PyData.canLayAll0 xs = true
  depth : PyData.depthAll xs ≤ 64
/-- two lists compared -/
noncomputable def sLsCmp (id : String) (i j a b : Nat) (vs us : List Value) (ep ep' : Nat) (N : List (Nat × List (Nat × Obj))) (r : Bool) : Summ :=
  { code := .builtin id ⟨[.ref a, .ref b], []⟩, res := .ok (.ret (.bool r)), pre := [(i, a, lsObj vs ep), (j, b, lsObj us ep')], needs := N, shape := shUnits }
theorem sLsNe_ok {p : Program} {w : World} {K : Nat → Option Obj} {i j a b : Nat} {vs us : List Value} {ep ep' : Nat} {N : List (Nat × List (Nat × Obj))} {r : Bool} {xs ys : List PyData} (r1 : Rd N vs xs) (r2 : Rd N us ys) (hr : (!PyData.eqvAll xs ys) = r) (sz tok : Nat) :
    (sLsCmp "list.__ne__" i j a b vs us ep ep' N r).Valid (mdl p w) K sz tok := by
  refine Summ.ofCode rfl (· ≤ 5000) (fun W h => shUnits_le h) fun s hpre hn _ hs ht A hA hU => ?_
  have h0 : s.heap.get? a = some (lsObj vs ep) := hpre (i, a, lsObj vs ep) List.mem_cons_self
  have h1 : s.heap.get? b = some (lsObj us ep') := hpre (j, b, lsObj us ep') (List.mem_cons_of_mem _ List.mem_cons_self)
  obtain ⟨as, q1⟩ := r1.reads s.heap hn
  obtain ⟨bs, q2⟩ := r2.reads s.heap hn
  have hu : A.units + 1 + min (PyData.depthAll xs) (PyData.depthAll ys) < cLine := by
    have e1 := r1.depth
    have e2 : min (PyData.depthAll xs) (PyData.depthAll ys) ≤ PyData.depthAll xs := Nat.min_le_left _ _
    have e3 : cLine = 9900 := rfl
    omega
  refine codeAny_mono (listNe h0 h1 q1 q2 r1.lay r2.lay hu) fun r' s' ⟨e1, e2⟩ => ?_
  subst e1 e2 hs ht hr
  exact ⟨rfl, s'.heap, rfl, (Nat.zero_add _).symm, (fun q hq => nomatch hq), (fun q hq => nomatch hq), (fun q hq => nomatch hq), fun b o hb _ => hb⟩
theorem sLsEq_ok {p : Program} {w : World} {K : Nat → Option Obj} {i j a b : Nat} {vs us : List Value} {ep ep' : Nat} {N : List (Nat × List (Nat × Obj))} {r : Bool} {xs ys : List PyData} (r1 : Rd N vs xs) (r2 : Rd N us ys) (hr : PyData.eqvAll xs ys = r) (sz tok : Nat) :
    (sLsCmp "list.__eq__" i j a b vs us ep ep' N r).Valid (mdl p w) K sz tok := by
  refine Summ.ofCode rfl (· ≤ 5000) (fun W h => shUnits_le h) fun s hpre hn _ hs ht A hA hU => ?_
  have h0 : s.heap.get? a = some (lsObj vs ep) := hpre (i, a, lsObj vs ep) List.mem_cons_self
  have h1 : s.heap.get? b = some (lsObj us ep') := hpre (j, b, lsObj us ep') (List.mem_cons_of_mem _ List.mem_cons_self)
  obtain ⟨as, q1⟩ := r1.reads s.heap hn
  obtain ⟨bs, q2⟩ := r2.reads s.heap hn
  have hu : A.units + 1 + min (PyData.depthAll xs) (PyData.depthAll ys) < cLine := by
    have e1 := r1.depth
    have e2 : min (PyData.depthAll xs) (PyData.depthAll ys) ≤ PyData.depthAll xs := Nat.min_le_left _ _
    have e3 : cLine = 9900 := rfl
    omega
  refine codeAny_mono (listEq h0 h1 q1 q2 r1.lay r2.lay hu) fun r' s' ⟨e1, e2⟩ => ?_
  subst e1 e2 hs ht hr
  exact ⟨rfl, s'.heap, rfl, (Nat.zero_add _).symm, (fun q hq => nomatch hq), (fun q hq => nomatch hq), (fun q hq => nomatch hq), fun b o hb _ => hb⟩

noncomputable def pKV (e : E) : PyData := .tuple [.int e.k, .int e.v]
theorem layKV (es : List E) : PyData.canLayAll0 (es.map pKV) = true := by
  induction es with
  | nil => rfl
  | cons e r ih => simp only [List.map_cons, PyData.canLayAll0, ih, Bool.and_true]; rfl
theorem depthKV (es : List E) : PyData.depthAll (es.map pKV) ≤ 64 := by
  induction es with
  | nil => exact Nat.zero_le _
  | cons e r ih =>
    simp only [List.map_cons, PyData.depthAll]
    exact Nat.max_le.mpr ⟨by show _ ≤ 64; simp [pKV, PyData.depth, PyData.depthAll], ih⟩
theorem readsKV (h : Heap) : ∀ (es : List E) (a : Nat), (∀ q ∈ tupF a es, h.get? q.1 = some q.2) → ∃ as, ReadsAll h (refs a es) (es.map pKV) as
  | [], _, _ => ⟨_, .nil⟩
  | e :: r, a, H => by
    obtain ⟨as, q⟩ := readsKV h r (a + 1) fun q hq => H q (List.mem_cons_of_mem _ hq)
    have h0 : h.get? a = some (tupObj (kv e)) := H (a, tupObj (kv e)) List.mem_cons_self
    exact ⟨_, .cons (.tuple h0 rfl rfl (.cons (.int _ _) (.cons (.int _ _) .nil))) q⟩
/-- the tuples of a dict's items read as pairs -/
theorem rdKV {N : List (Nat × List (Nat × Obj))} {i a : Nat} {es : List E} (h : (i, tupF a es) ∈ N) : Rd N (refs a es) (es.map pKV) :=
  ⟨fun hp H => readsKV hp es a (H _ h), layKV es, depthKV es⟩
theorem eqvKV : ∀ es fs : List E, PyData.eqvAll (es.map pKV) (fs.map pKV) = decide (es.map (fun e => (e.k, e.v)) = fs.map (fun e => (e.k, e.v)))
  | [], [] => by simp [PyData.eqvAll]
  | [], _ :: _ => by simp [PyData.eqvAll]
  | _ :: _, [] => by simp [PyData.eqvAll]
  | e :: r, f :: t => by
    simp only [List.map_cons, PyData.eqvAll, eqvKV r t, pKV, PyData.eqv]
    by_cases h1 : e.k = f.k <;> by_cases h2 : e.v = f.v <;> by_cases h3 : r.map (fun e => (e.k, e.v)) = t.map (fun e => (e.k, e.v)) <;> simp [h1, h2, h3]
/-- plain numbers -/
noncomputable def nvs : List (Int × Nat) → List Value := List.map fun x => .int x.1 x.2
theorem readsN (h : Heap) : ∀ l : List (Int × Nat), ∃ as, ReadsAll h (nvs l) (l.map fun x => .int x.1) as
  | [] => ⟨_, .nil⟩
  | x :: r => by
    obtain ⟨as, q⟩ := readsN h r
    exact ⟨_, .cons (.int _ _) q⟩
theorem rdN {N : List (Nat × List (Nat × Obj))} {l : List (Int × Nat)} : Rd N (nvs l) (l.map fun x => .int x.1) := by
  refine ⟨fun h _ => readsN h l, ?_, ?_⟩
  · induction l with
    | nil => rfl
    | cons x r ih => simp only [List.map_cons, PyData.canLayAll0, ih, Bool.and_true]; rfl
  · induction l with
    | nil => exact Nat.zero_le _
    | cons x r ih =>
      simp only [List.map_cons, PyData.depthAll]
      exact Nat.max_le.mpr ⟨by simp [PyData.depth], ih⟩
theorem eqvN : ∀ l m : List (Int × Nat), PyData.eqvAll (l.map fun x => .int x.1) (m.map fun x => .int x.1) = decide (l.map (·.1) = m.map (·.1))
  | [], [] => by simp [PyData.eqvAll]
  | [], _ :: _ => by simp [PyData.eqvAll]
  | _ :: _, [] => by simp [PyData.eqvAll]
  | e :: r, f :: t => by
    simp only [List.map_cons, PyData.eqvAll, eqvN r t, PyData.eqv]
    by_cases h1 : e.1 = f.1 <;> by_cases h3 : r.map (·.1) = t.map (·.1) <;> simp [h1, h3]
end Mine
namespace Mine
open PySem PySem.W
noncomputable def fKi (e : E) : Value := .int e.k e.t
noncomputable def fVi (e : E) : Value := .int e.v e.u
section
variable {p : Program} {w : World} {A : Around} {EE : Value → Shared → Prop} {s : Shared}
theorem any_pyNextKi {it d n N ep : Nat} {Q : Option Value → Shared → Prop} (hit : s.heap.get? it = some (kiObj d n N ep))
    (h : wpAny (model p w) A.in1 (Builtin.«dict_keyiterator.__next__» ⟨[.ref it], []⟩) (fun fin s' => ∃ v, fin = .done (.ret v) ∧ Q (some v) s') (fun e s' => e = .ref (s.heap.objs.size + 1) ∧ (∃ t, s'.heap.get? (s.heap.objs.size + 1) = some (stopObj t)) ∧ Q none s') s) :
    wpAny (model p w) A (pyNext (.ref it)) Q EE s := by
  have hT : s.TypeIs (.ref it) "dict_keyiterator" := ⟨_, hit, rfl⟩
  unfold pyNext
  refine wpAny_bind (wpAny_attempt (wpAny_callSpecial?_slot (name := Str.ofString "__next__") hT F.slot_dict_keyiterator_next
    (wpAny_call_entry F.slot_dict_keyiterator_next hT F.entry_dict_keyiterator_next (wpAny_mono h ?_ ?_) (F.args_dict_keyiterator_next_1 _))))
  · rintro fin s' ⟨v, rfl, hv⟩
    exact ⟨v, rfl, wpAny_pure hv⟩
  · rintro e s' ⟨rfl, ⟨t, ht⟩, hq⟩
    refine wpAny_bind (wpAny_isInstance (T := "StopIteration") (b := true) ⟨_, ht, rfl⟩ isSubtype_stop ?_)
    exact wpAny_pure hq
theorem loopKi {it d l ep : Nat} {cls : Value} {dd : Option Nat} {es : List E} {res : Value} {R : Result → Shared → Prop} (hh : A.handled = none) (hil : it ≠ l) (hid : d ≠ it) (hld : d ≠ l) :
    ∀ (rem : List E) (n : Nat) (h : Heap) (acc : List Value) (lep : Nat), es.drop n = rem → acc.length + rem.length ≤ 8 → h.get? it = some (kiObj d n (eln es) ep) → h.get? d = some (dObj cls dd es ep) → h.get? l = some (lsObj acc lep) →
      (∀ h', h'.objs.size = h.objs.size + 2 → h'.get? l = some (lsObj (acc ++ rem.map fKi) (lep + rem.length)) → h'.get? it = some (KiEnd (kiObj d (n + rem.length) (eln es) ep)) →
        (∀ b o, b ≠ it → b ≠ l → h.get? b = some o → h'.get? b = some o) → R (.ok (.ret res)) { s with heap := h' }) →
      codeAny (model p w) A (.builtin "list.extend.loop" ⟨[.ref l, .ref it, res], []⟩) R { s with heap := h }
  | [], n, h, acc, lep, hdr, hac, hit, hd, hl, hR => by
    have he : es[n]? = none := by
      have := congrArg List.length hdr
      rw [List.length_drop] at this
      exact List.getElem?_eq_none (by simp at this; omega)
    refine codeAny_builtin PySem.F.entry_extend_loop ?_
    rw [Around.under_plainId PySem.F.plain_extend_loop _]
    show wpAny _ A.in1 (pyNext (.ref it) >>= _) _ _ _
    have z1 := upd_size h it (fset 0 .none)
    have z2 : ((h.update it (fset 0 .none)).push (tupObj [])).objs.size = h.objs.size + 1 := by rw [Heap.size_push, z1]
    refine wpAny_bind (any_pyNextKi (s := { s with heap := h }) hit (any_KiEnd (s := { s with heap := h }) (A := A.in1.in1) hh hit hd he ⟨rfl, ⟨h.objs.size, ?_⟩, ?_⟩))
    · show Heap.get? _ (h.objs.size + 1) = _
      rw [← z2]
      exact Heap.get?_push_size _ rfl
    · refine wpAny_pure (hR _ ?_ ?_ (Heap.get?_push_of_some _ (Heap.get?_push_of_some _ (get_upd _ hit rfl rfl))) fun b o h1 h2 hb => ?_)
      · rw [Heap.size_push, z2]
      · refine Heap.get?_push_of_some _ (Heap.get?_push_of_some _ ((upd_other _ (Ne.symm hil)).trans ?_))
        simpa using hl
      · exact Heap.get?_push_of_some _ (Heap.get?_push_of_some _ ((upd_other _ h1).trans hb))
  | e :: rem, n, h, acc, lep, hdr, hac, hit, hd, hl, hR => by
    have he : es[n]? = some e := by
      have := congrArg (·[0]?) hdr
      simpa using this
    have hdr' : es.drop (n + 1) = rem := by
      have := congrArg List.tail hdr
      simpa using this
    have hsz : acc.length ≤ sizeLine := Nat.le_trans (by omega : acc.length ≤ 8) (by size_fits)
    have hsz2 : ((⟨acc⟩ : Array Value).push (fKi e)).size ≤ sizeLine + 1 := by
      rw [Array.size_push]
      exact Nat.add_le_add_right hsz 1
    refine codeAny_builtin PySem.F.entry_extend_loop ?_
    rw [Around.under_plainId PySem.F.plain_extend_loop _]
    show wpAny _ A.in1 (pyNext (.ref it) >>= _) _ _ _
    let h1 := h.update it (fset 1 (rawInt ((n : Int) + 1)))
    have hit1 : h1.get? it = some (kiObj d (n + 1) (eln es) ep) := get_upd _ hit rfl rfl
    have hl1 : h1.get? l = some (lsObj acc lep) := (upd_other _ (Ne.symm hil)).trans hl
    have hd1 : h1.get? d = some (dObj cls dd es ep) := (upd_other _ hid).trans hd
    have up : ∀ b o, b ≠ l → h1.get? b = some o → (h1.update l (Obj.mapSeq (·.push (fKi e)))).get? b = some o := fun b o hb hg => (upd_other _ hb).trans hg
    have next : codeAny (model p w) A (.builtin "list.extend.loop" ⟨[.ref l, .ref it, res], []⟩) R { s with heap := h1.update l (Obj.mapSeq (·.push (fKi e))) } := by
      refine loopKi hh hil hid hld rem (n + 1) _ (acc ++ [fKi e]) (lep + 1) hdr' (by simp at hac ⊢; omega) (up _ _ hil hit1) (up _ _ hld hd1) (lsPush hl1 _) fun h' q1 q2 q5 q4 => ?_
      rw [upd_size, upd_size] at q1
      refine hR h' q1 ?_ ?_ fun b o h1' h2' hb => q4 b o h1' h2' (up b o h2' ((upd_other _ h1').trans hb))
      · rw [q2]
        simp only [List.append_assoc, List.singleton_append, List.map_cons, List.length_cons]
        congr 2
        omega
      · rw [q5]
        simp only [List.length_cons]
        congr 3
        omega
    refine wpAny_bind (any_pyNextKi (s := { s with heap := h }) hit (any_KiNext (s := { s with heap := h }) (A := A.in1.in1) hit hd he ⟨fKi e, rfl, ?_⟩))
    show wpAny (model p w) A.in1 (Builtin.List.listUpdate (.ref l) (·.push (fKi e)) >>= fun _ => again (.builtin "list.extend.loop" ⟨[.ref l, .ref it, res], []⟩)) _ _ { s with heap := h1 }
    refine wpAny_bind (m := Builtin.List.listUpdate (.ref l) (·.push (fKi e))) ?_
    exact wpAny_updateSeq (s := { s with heap := h1 }) hl1 rfl (wpAny_pure ⟨plainId_quiet PySem.F.plain_extend_loop _, next⟩) hsz hsz2
end
/-- the loop of a list's extension by a dict's iterator -/
noncomputable def sKiList (i0 i1 i2 l it d lep : Nat) (cls : Value) (dd : Option Nat) (es : List E) (ep : Nat) : Summ :=
  { code := .builtin "list.extend.loop" ⟨[.ref l, .ref it, .none], []⟩, res := .ok (.ret .none), pre := [(i0, l, lsObj [] lep), (i1, it, kiObj d 0 (eln es) ep), (i2, d, dObj cls dd es ep)],
    post := [(i0, l, lsObj (es.map fKi) (lep + es.length)), (i1, it, KiEnd (kiObj d (0 + es.length) (eln es) ep))], dl := 2 }
theorem sKiList_ok {p : Program} {w : World} {K : Nat → Option Obj} {i0 i1 i2 l it d lep : Nat} {cls : Value} {dd : Option Nat} {es : List E} {ep : Nat} (hil : it ≠ l) (hid : d ≠ it) (hld : d ≠ l) (h8 : es.length ≤ 8) (sz tok : Nat) :
    (sKiList i0 i1 i2 l it d lep cls dd es ep).Valid (mdl p w) K sz tok := by
  refine Summ.ofCode rfl (fun _ => True) (fun _ _ => trivial) fun s hpre _ _ hs ht A hA _ => ?_
  have h0 : s.heap.get? l = some (lsObj [] lep) := hpre (i0, l, lsObj [] lep) List.mem_cons_self
  have h1 : s.heap.get? it = some (kiObj d 0 (eln es) ep) := hpre (i1, it, kiObj d 0 (eln es) ep) (List.mem_cons_of_mem _ List.mem_cons_self)
  have h2 : s.heap.get? d = some (dObj cls dd es ep) := hpre (i2, d, dObj cls dd es ep) (List.mem_cons_of_mem _ (List.mem_cons_of_mem _ List.mem_cons_self))
  subst hs ht
  show codeAny (model p w) A (.builtin "list.extend.loop" ⟨[.ref l, .ref it, .none], []⟩) _ s
  refine loopKi (s := s) (res := .none) hA hil hid hld es 0 s.heap [] lep rfl (by simpa using h8) h1 h2 h0 fun h' q1 q2 q5 q4 => ⟨rfl, h', rfl, ?_, ?_, (fun q hq => nomatch hq), (fun q hq => nomatch hq), ?_⟩
  · rw [q1]; show _ = 0 + s.heap.objs.size + 2; omega
  · intro q hq
    rcases List.mem_cons.mp hq with rfl | hq
    · exact q2
    · rw [List.mem_singleton.mp hq]
      exact q5
  · intro b o hb hn
    exact q4 b o (fun z => hn _ (List.mem_cons_of_mem _ List.mem_cons_self) z.symm) (fun z => hn _ List.mem_cons_self z.symm) hb
section
variable {p : Program} {w : World} {A : Around} {EE : Value → Shared → Prop} {s : Shared}
theorem any_pyNextVi {it d n N ep : Nat} {Q : Option Value → Shared → Prop} (hit : s.heap.get? it = some (viObj d n N ep))
    (h : wpAny (model p w) A.in1 (Builtin.«dict_valueiterator.__next__» ⟨[.ref it], []⟩) (fun fin s' => ∃ v, fin = .done (.ret v) ∧ Q (some v) s') (fun e s' => e = .ref (s.heap.objs.size + 1) ∧ (∃ t, s'.heap.get? (s.heap.objs.size + 1) = some (stopObj t)) ∧ Q none s') s) :
    wpAny (model p w) A (pyNext (.ref it)) Q EE s := by
  have hT : s.TypeIs (.ref it) "dict_valueiterator" := ⟨_, hit, rfl⟩
  unfold pyNext
  refine wpAny_bind (wpAny_attempt (wpAny_callSpecial?_slot (name := Str.ofString "__next__") hT F.slot_dict_valueiterator_next
    (wpAny_call_entry F.slot_dict_valueiterator_next hT F.entry_dict_valueiterator_next (wpAny_mono h ?_ ?_) (F.args_dict_valueiterator_next_1 _))))
  · rintro fin s' ⟨v, rfl, hv⟩
    exact ⟨v, rfl, wpAny_pure hv⟩
  · rintro e s' ⟨rfl, ⟨t, ht⟩, hq⟩
    refine wpAny_bind (wpAny_isInstance (T := "StopIteration") (b := true) ⟨_, ht, rfl⟩ isSubtype_stop ?_)
    exact wpAny_pure hq
theorem loopVi {it d l ep : Nat} {cls : Value} {dd : Option Nat} {es : List E} {res : Value} {R : Result → Shared → Prop} (hh : A.handled = none) (hil : it ≠ l) (hid : d ≠ it) (hld : d ≠ l) :
    ∀ (rem : List E) (n : Nat) (h : Heap) (acc : List Value) (lep : Nat), es.drop n = rem → acc.length + rem.length ≤ 8 → h.get? it = some (viObj d n (eln es) ep) → h.get? d = some (dObj cls dd es ep) → h.get? l = some (lsObj acc lep) →
      (∀ h', h'.objs.size = h.objs.size + 2 → h'.get? l = some (lsObj (acc ++ rem.map fVi) (lep + rem.length)) → h'.get? it = some (ViEnd (viObj d (n + rem.length) (eln es) ep)) →
        (∀ b o, b ≠ it → b ≠ l → h.get? b = some o → h'.get? b = some o) → R (.ok (.ret res)) { s with heap := h' }) →
      codeAny (model p w) A (.builtin "list.extend.loop" ⟨[.ref l, .ref it, res], []⟩) R { s with heap := h }
  | [], n, h, acc, lep, hdr, hac, hit, hd, hl, hR => by
    have he : es[n]? = none := by
      have := congrArg List.length hdr
      rw [List.length_drop] at this
      exact List.getElem?_eq_none (by simp at this; omega)
    refine codeAny_builtin PySem.F.entry_extend_loop ?_
    rw [Around.under_plainId PySem.F.plain_extend_loop _]
    show wpAny _ A.in1 (pyNext (.ref it) >>= _) _ _ _
    have z1 := upd_size h it (fset 0 .none)
    have z2 : ((h.update it (fset 0 .none)).push (tupObj [])).objs.size = h.objs.size + 1 := by rw [Heap.size_push, z1]
    refine wpAny_bind (any_pyNextVi (s := { s with heap := h }) hit (any_ViEnd (s := { s with heap := h }) (A := A.in1.in1) hh hit hd he ⟨rfl, ⟨h.objs.size, ?_⟩, ?_⟩))
    · show Heap.get? _ (h.objs.size + 1) = _
      rw [← z2]
      exact Heap.get?_push_size _ rfl
    · refine wpAny_pure (hR _ ?_ ?_ (Heap.get?_push_of_some _ (Heap.get?_push_of_some _ (get_upd _ hit rfl rfl))) fun b o h1 h2 hb => ?_)
      · rw [Heap.size_push, z2]
      · refine Heap.get?_push_of_some _ (Heap.get?_push_of_some _ ((upd_other _ (Ne.symm hil)).trans ?_))
        simpa using hl
      · exact Heap.get?_push_of_some _ (Heap.get?_push_of_some _ ((upd_other _ h1).trans hb))
  | e :: rem, n, h, acc, lep, hdr, hac, hit, hd, hl, hR => by
    have he : es[n]? = some e := by
      have := congrArg (·[0]?) hdr
      simpa using this
    have hdr' : es.drop (n + 1) = rem := by
      have := congrArg List.tail hdr
      simpa using this
    have hsz : acc.length ≤ sizeLine := Nat.le_trans (by omega : acc.length ≤ 8) (by size_fits)
    have hsz2 : ((⟨acc⟩ : Array Value).push (fVi e)).size ≤ sizeLine + 1 := by
      rw [Array.size_push]
      exact Nat.add_le_add_right hsz 1
    refine codeAny_builtin PySem.F.entry_extend_loop ?_
    rw [Around.under_plainId PySem.F.plain_extend_loop _]
    show wpAny _ A.in1 (pyNext (.ref it) >>= _) _ _ _
    let h1 := h.update it (fset 1 (rawInt ((n : Int) + 1)))
    have hit1 : h1.get? it = some (viObj d (n + 1) (eln es) ep) := get_upd _ hit rfl rfl
    have hl1 : h1.get? l = some (lsObj acc lep) := (upd_other _ (Ne.symm hil)).trans hl
    have hd1 : h1.get? d = some (dObj cls dd es ep) := (upd_other _ hid).trans hd
    have up : ∀ b o, b ≠ l → h1.get? b = some o → (h1.update l (Obj.mapSeq (·.push (fVi e)))).get? b = some o := fun b o hb hg => (upd_other _ hb).trans hg
    have next : codeAny (model p w) A (.builtin "list.extend.loop" ⟨[.ref l, .ref it, res], []⟩) R { s with heap := h1.update l (Obj.mapSeq (·.push (fVi e))) } := by
      refine loopVi hh hil hid hld rem (n + 1) _ (acc ++ [fVi e]) (lep + 1) hdr' (by simp at hac ⊢; omega) (up _ _ hil hit1) (up _ _ hld hd1) (lsPush hl1 _) fun h' q1 q2 q5 q4 => ?_
      rw [upd_size, upd_size] at q1
      refine hR h' q1 ?_ ?_ fun b o h1' h2' hb => q4 b o h1' h2' (up b o h2' ((upd_other _ h1').trans hb))
      · rw [q2]
        simp only [List.append_assoc, List.singleton_append, List.map_cons, List.length_cons]
        congr 2
        omega
      · rw [q5]
        simp only [List.length_cons]
        congr 3
        omega
    refine wpAny_bind (any_pyNextVi (s := { s with heap := h }) hit (any_ViNext (s := { s with heap := h }) (A := A.in1.in1) hit hd he ⟨fVi e, rfl, ?_⟩))
    show wpAny (model p w) A.in1 (Builtin.List.listUpdate (.ref l) (·.push (fVi e)) >>= fun _ => again (.builtin "list.extend.loop" ⟨[.ref l, .ref it, res], []⟩)) _ _ { s with heap := h1 }
    refine wpAny_bind (m := Builtin.List.listUpdate (.ref l) (·.push (fVi e))) ?_
    exact wpAny_updateSeq (s := { s with heap := h1 }) hl1 rfl (wpAny_pure ⟨plainId_quiet PySem.F.plain_extend_loop _, next⟩) hsz hsz2
end
/-- the loop of a list's extension by a dict's iterator -/
noncomputable def sViList (i0 i1 i2 l it d lep : Nat) (cls : Value) (dd : Option Nat) (es : List E) (ep : Nat) : Summ :=
  { code := .builtin "list.extend.loop" ⟨[.ref l, .ref it, .none], []⟩, res := .ok (.ret .none), pre := [(i0, l, lsObj [] lep), (i1, it, viObj d 0 (eln es) ep), (i2, d, dObj cls dd es ep)],
    post := [(i0, l, lsObj (es.map fVi) (lep + es.length)), (i1, it, ViEnd (viObj d (0 + es.length) (eln es) ep))], dl := 2 }
theorem sViList_ok {p : Program} {w : World} {K : Nat → Option Obj} {i0 i1 i2 l it d lep : Nat} {cls : Value} {dd : Option Nat} {es : List E} {ep : Nat} (hil : it ≠ l) (hid : d ≠ it) (hld : d ≠ l) (h8 : es.length ≤ 8) (sz tok : Nat) :
    (sViList i0 i1 i2 l it d lep cls dd es ep).Valid (mdl p w) K sz tok := by
  refine Summ.ofCode rfl (fun _ => True) (fun _ _ => trivial) fun s hpre _ _ hs ht A hA _ => ?_
  have h0 : s.heap.get? l = some (lsObj [] lep) := hpre (i0, l, lsObj [] lep) List.mem_cons_self
  have h1 : s.heap.get? it = some (viObj d 0 (eln es) ep) := hpre (i1, it, viObj d 0 (eln es) ep) (List.mem_cons_of_mem _ List.mem_cons_self)
  have h2 : s.heap.get? d = some (dObj cls dd es ep) := hpre (i2, d, dObj cls dd es ep) (List.mem_cons_of_mem _ (List.mem_cons_of_mem _ List.mem_cons_self))
  subst hs ht
  show codeAny (model p w) A (.builtin "list.extend.loop" ⟨[.ref l, .ref it, .none], []⟩) _ s
  refine loopVi (s := s) (res := .none) hA hil hid hld es 0 s.heap [] lep rfl (by simpa using h8) h1 h2 h0 fun h' q1 q2 q5 q4 => ⟨rfl, h', rfl, ?_, ?_, (fun q hq => nomatch hq), (fun q hq => nomatch hq), ?_⟩
  · rw [q1]; show _ = 0 + s.heap.objs.size + 2; omega
  · intro q hq
    rcases List.mem_cons.mp hq with rfl | hq
    · exact q2
    · rw [List.mem_singleton.mp hq]
      exact q5
  · intro b o hb hn
    exact q4 b o (fun z => hn _ (List.mem_cons_of_mem _ List.mem_cons_self) z.symm) (fun z => hn _ List.mem_cons_self z.symm) hb
end Mine
namespace Mine
open PySem PySem.W

/-- an iterator over numbers, exactly -/
structure Src (p : Program) (w : World) (it : Nat) (vals : List (Int × Nat)) (O : Nat → Obj) (Oe : Obj) (fp : List (Nat × Obj)) where
  F : Nat → Obj → Obj
  FE : Obj → Obj
  upd : ∀ n (h : Heap), h.get? it = some (O n) → (h.update it (F n)).get? it = some (O (n + 1))
  updE : ∀ h : Heap, h.get? it = some (O vals.length) → (h.update it FE).get? it = some Oe
  next : ∀ (A : Around) (EE : Value → Shared → Prop) (s : Shared) (n : Nat) (v : Int × Nat) (Q : Option Value → Shared → Prop), vals[n]? = some v → s.heap.get? it = some (O n) → (∀ q ∈ fp, s.heap.get? q.1 = some q.2) →
    Q (some (.int v.1 v.2)) { s with heap := s.heap.update it (F n) } → wpAny (model p w) A (pyNext (.ref it)) Q EE s
  done : ∀ (A : Around) (EE : Value → Shared → Prop) (s : Shared) (Q : Option Value → Shared → Prop), A.handled = none → s.heap.get? it = some (O vals.length) → (∀ q ∈ fp, s.heap.get? q.1 = some q.2) →
    Q none { s with heap := ((s.heap.update it FE).push (tupObj [])).push (stopObj s.heap.objs.size) } → wpAny (model p w) A (pyNext (.ref it)) Q EE s

section
variable {p : Program} {w : World}
theorem any_pyNextLi {A : Around} {EE : Value → Shared → Prop} {s : Shared} {it l n : Nat} {Q : Option Value → Shared → Prop} (hit : s.heap.get? it = some (liObj l n))
    (h : wpAny (model p w) A.in1 (Builtin.«list_iterator.__next__» ⟨[.ref it], []⟩) (fun fin s' => ∃ v, fin = .done (.ret v) ∧ Q (some v) s') (fun e s' => e = .ref (s.heap.objs.size + 1) ∧ (∃ t, s'.heap.get? (s.heap.objs.size + 1) = some (stopObj t)) ∧ Q none s') s) :
    wpAny (model p w) A (pyNext (.ref it)) Q EE s := by
  have hT : s.TypeIs (.ref it) "list_iterator" := ⟨_, hit, rfl⟩
  unfold pyNext
  refine wpAny_bind (wpAny_attempt (wpAny_callSpecial?_slot (name := Str.ofString "__next__") hT slot_listiter_next
    (wpAny_call_entry slot_listiter_next hT entry_listiter_next (wpAny_mono h ?_ ?_) (args_listiter_next _))))
  · rintro fin s' ⟨v, rfl, hv⟩
    exact ⟨v, rfl, wpAny_pure hv⟩
  · rintro e s' ⟨rfl, ⟨t, ht⟩, hq⟩
    refine wpAny_bind (wpAny_isInstance (T := "StopIteration") (b := true) ⟨_, ht, rfl⟩ isSubtype_stop ?_)
    exact wpAny_pure hq
theorem any_LiNext {A : Around} {EE : Value → Shared → Prop} {s : Shared} {Q : PySem.Fin → Shared → Prop} {it l n ep : Nat} {xs : List Value} {v : Value} (h1 : s.heap.get? it = some (liObj l n)) (h2 : s.heap.get? l = some (lsObj xs ep)) (hv : xs[n]? = some v)
    (h : Q (Fin.done (.ret v)) { s with heap := s.heap.update it (fset 1 (rawInt ((n : Int) + 1))) }) : wpAny (model p w) A (Builtin.«list_iterator.__next__» ⟨[.ref it], []⟩) Q EE s := by
  show wpAny _ _ (field (.ref it) 0 >>= _) _ _ s
  refine wpAny_bind (wpAny_field h1 rfl (x := .ref l) rfl ?_)
  show wpAny _ _ (if (Value.ref l == Value.none) = true then _ else _) _ _ s
  rw [if_neg (show ¬ ((Value.ref l == Value.none) = true) from Bool.false_ne_true)]
  show wpAny _ _ (field (.ref it) 1 >>= _) _ _ s
  refine wpAny_bind (wpAny_field h1 rfl (x := .int n 0) rfl ?_)
  show wpAny _ _ (seqItems? (.ref l) >>= _) _ _ s
  refine wpAny_bind (wpAny_seqItems h2 rfl ?_)
  have hx : (⟨xs⟩ : Array Value)[n]? = some v := by simpa using hv
  simp only [Int.toNat_natCast, hx]
  exact wpAny_bind (wpAny_setField h1 rfl (by simp) (wpAny_pure h))
theorem any_LiEnd {A : Around} {EE : Value → Shared → Prop} {s : Shared} {Q : PySem.Fin → Shared → Prop} {it l n ep : Nat} {xs : List Value} (hA : A.handled = none) (h1 : s.heap.get? it = some (liObj l n)) (h2 : s.heap.get? l = some (lsObj xs ep)) (hv : xs[n]? = none)
    (h : EE (.ref (s.heap.objs.size + 1)) { s with heap := ((s.heap.update it (fset 0 .none)).push (tupObj [])).push (stopObj s.heap.objs.size) }) : wpAny (model p w) A (Builtin.«list_iterator.__next__» ⟨[.ref it], []⟩) Q EE s := by
  show wpAny _ _ (field (.ref it) 0 >>= _) _ _ s
  refine wpAny_bind (wpAny_field h1 rfl (x := .ref l) rfl ?_)
  show wpAny _ _ (if (Value.ref l == Value.none) = true then _ else _) _ _ s
  rw [if_neg (show ¬ ((Value.ref l == Value.none) = true) from Bool.false_ne_true)]
  show wpAny _ _ (field (.ref it) 1 >>= _) _ _ s
  refine wpAny_bind (wpAny_field h1 rfl (x := .int n 0) rfl ?_)
  show wpAny _ _ (seqItems? (.ref l) >>= _) _ _ s
  refine wpAny_bind (wpAny_seqItems h2 rfl ?_)
  have hx : (⟨xs⟩ : Array Value)[n]? = none := by simpa using hv
  simp only [Int.toNat_natCast, hx]
  refine wpAny_bind (wpAny_rule (wpAny_bind (wpAny_setField h1 rfl (by simp) ?_)))
  show wpAny _ _ (newExc (.type "StopIteration") [] >>= _) _ _ _
  refine wpAny_bind ?_
  simp only [newExc, newTuple]
  refine wpAny_bind (wpAny_newObj_type ?_ (by size_fits))
  refine wpAny_bind (m := firstArgMember _ _) (wpAny_of_eq (a := Value.none) (by first | rfl | (simp only [firstArgMember]; rfl)) ?_)
  refine wpAny_newObj_type ?_ (by size_fits)
  simp only [raiseNew]
  refine wpAny_bind (wpAny_handled ?_)
  rw [hA]
  refine wpAny_bind (wpAny_pure (wpAny_throw ?_))
  have z1 := upd_size s.heap it (fset 0 .none)
  have z2 : ((s.heap.update it (fset 0 .none)).push (tupObj [])).objs.size = s.heap.objs.size + 1 := by rw [Heap.size_push, z1]
  have := h
  rw [← z2] at this
  rw [← z1] at this
  exact this
theorem stop_at {h : Heap} {it : Nat} {f : Obj → Obj} : (((h.update it f).push (tupObj [])).push (stopObj h.objs.size)).get? (h.objs.size + 1) = some (stopObj h.objs.size) := by
  have z2 : ((h.update it f).push (tupObj [])).objs.size = h.objs.size + 1 := by rw [Heap.size_push, upd_size]
  rw [← z2]
  exact Heap.get?_push_size _ rfl
theorem nvs_get (l : List (Int × Nat)) (n : Nat) : (nvs l)[n]? = (l[n]?).map fun x => .int x.1 x.2 := by simp [nvs]

/-- a list of numbers -/
noncomputable def srcLi (it l ep : Nat) (vals : List (Int × Nat)) : Src p w it vals (fun n => liObj l n) (liEnd (liObj l vals.length)) [(l, lsObj (nvs vals) ep)] where
  F n := fset 1 (rawInt ((n : Int) + 1))
  FE := fset 0 .none
  upd n h e := get_upd _ e rfl rfl
  updE h e := get_upd _ e rfl rfl
  next A EE s n v Q hv hit hfp h := any_pyNextLi hit (any_LiNext hit (hfp _ List.mem_cons_self) (by rw [nvs_get, hv]; rfl) ⟨_, rfl, h⟩)
  done A EE s Q hA hit hfp h := any_pyNextLi hit (any_LiEnd (A := A.in1) hA hit (hfp _ List.mem_cons_self) (by rw [nvs_get]; simp) ⟨rfl, ⟨_, stop_at⟩, h⟩)
noncomputable def ks (es : List E) : List (Int × Nat) := es.map fun e => (e.k, e.t)
noncomputable def vs (es : List E) : List (Int × Nat) := es.map fun e => (e.v, e.u)
/-- a dict's keys -/
noncomputable def srcKi (it d ep : Nat) (cls : Value) (dd : Option Nat) (es : List E) : Src p w it (ks es) (fun n => kiObj d n (eln es) ep) (KiEnd (kiObj d es.length (eln es) ep)) [(d, dObj cls dd es ep)] where
  F n := fset 1 (rawInt ((n : Int) + 1))
  FE := fset 0 .none
  upd n h e := get_upd _ e rfl rfl
  updE h e := by rw [show (ks es).length = es.length by simp [ks]] at e; exact get_upd _ e rfl rfl
  next A EE s n v Q hv hit hfp h := by
    obtain ⟨e, he, rfl⟩ : ∃ e, es[n]? = some e ∧ (e.k, e.t) = v := by simpa [ks] using hv
    exact any_pyNextKi hit (any_KiNext hit (hfp _ List.mem_cons_self) he ⟨_, rfl, h⟩)
  done A EE s Q hA hit hfp h := by
    refine any_pyNextKi hit (any_KiEnd (A := A.in1) hA hit (hfp _ List.mem_cons_self) ?_ ⟨rfl, ⟨_, stop_at⟩, h⟩)
    simp [ks]
/-- a dict's values -/
noncomputable def srcVi (it d ep : Nat) (cls : Value) (dd : Option Nat) (es : List E) : Src p w it (vs es) (fun n => viObj d n (eln es) ep) (ViEnd (viObj d es.length (eln es) ep)) [(d, dObj cls dd es ep)] where
  F n := fset 1 (rawInt ((n : Int) + 1))
  FE := fset 0 .none
  upd n h e := get_upd _ e rfl rfl
  updE h e := by rw [show (vs es).length = es.length by simp [vs]] at e; exact get_upd _ e rfl rfl
  next A EE s n v Q hv hit hfp h := by
    obtain ⟨e, he, rfl⟩ : ∃ e, es[n]? = some e ∧ (e.v, e.u) = v := by simpa [vs] using hv
    exact any_pyNextVi hit (any_ViNext hit (hfp _ List.mem_cons_self) he ⟨_, rfl, h⟩)
  done A EE s Q hA hit hfp h := by
    refine any_pyNextVi hit (any_ViEnd (A := A.in1) hA hit (hfp _ List.mem_cons_self) ?_ ⟨rfl, ⟨_, stop_at⟩, h⟩)
    simp [vs]
end

/-- the sum of numbers behind a start, and its token -/
noncomputable def sumV : List (Int × Nat) → Int → Int
  | [], a => a
  | x :: r, a => sumV r (a + x.1)
noncomputable def sumT : List (Int × Nat) → Nat → Nat → Nat
  | [], t, _ => t
  | _ :: r, _, tok => sumT r tok (tok + 1)
section
variable {p : Program} {w : World} {A : Around} {R : Result → Shared → Prop}
theorem lsSet {h : Heap} {S c : Nat} {x : Value} (hl : h.get? S = some (lsObj [x] c)) (y : Value) : (h.update S (Obj.mapSeq fun _ => #[y])).get? S = some (lsObj [y] c) := get_upd _ hl rfl rfl
theorem lsSet2 {h : Heap} {S c : Nat} {x : Value} (hl : h.get? S = some (lsObj [x] c)) (y : Value) : ((h.update S (Obj.mapSeq fun _ => #[y])).update S (Obj.mapSeq fun _ => #[y])).get? S = some (lsObj [y] c) := get_upd _ (lsSet hl y) rfl rfl
theorem sumLoop {it S : Nat} {vals : List (Int × Nat)} {O : Nat → Obj} {Oe : Obj} {fp : List (Nat × Obj)} (W : Src p w it vals O Oe fp) (hh : A.handled = none) (hSi : it ≠ S) (hfi : ∀ q ∈ fp, q.1 ≠ it) (hfS : ∀ q ∈ fp, q.1 ≠ S) :
    ∀ (rem : List (Int × Nat)) (n : Nat) (s : Shared) (a : Int) (tA c : Nat) (st : Int), (st = 0 ∨ st = 2) → vals.drop n = rem → n + rem.length = vals.length → s.heap.get? it = some (O n) → (∀ q ∈ fp, s.heap.get? q.1 = some q.2) → s.heap.get? S = some (lsObj [.int a tA] c) →
      (∀ h', h'.objs.size = s.heap.objs.size + 2 → h'.get? S = some (lsObj [.int (sumV rem a) (sumT rem tA s.toks)] c) → h'.get? it = some Oe → (∀ b o, b ≠ it → b ≠ S → s.heap.get? b = some o → h'.get? b = some o) →
        R (.ok (.ret (.int (sumV rem a) (sumT rem tA s.toks)))) { s with heap := h', toks := s.toks + rem.length }) →
      codeAny (model p w) A (.builtin "sum.loop" ⟨[.ref it, .ref S, rawInt st, rawInt 0], []⟩) R s
  | [], n, s, a, tA, c, st, hst, hdr, hn, hit, hfp, hS, hR => by
    refine codeAny_builtin F.entry_sum_loop ?_
    rw [Around.under_plainId F.plain_sum_loop _]
    show wpAny _ A.in1 (seqItems? (.ref S) >>= _) _ _ s
    refine wpAny_bind (wpAny_seqItems hS rfl ?_)
    show wpAny _ A.in1 (tryCatch (pyNext (.ref it)) _ >>= _) _ _ s
    have hn : n = vals.length := by simpa using hn
    subst hn
    have z1 := upd_size s.heap it W.FE
    refine wpAny_bind (wpAny_tryCatch (W.done A.in1 _ s _ hh hit hfp ?_))
    exact wpAny_pure (hR _ (by rw [Heap.size_push, Heap.size_push, z1]) (Heap.get?_push_of_some _ (Heap.get?_push_of_some _ ((upd_other _ (Ne.symm hSi)).trans hS)))
      (Heap.get?_push_of_some _ (Heap.get?_push_of_some _ (W.updE _ hit))) fun b o h1 h2 hb => Heap.get?_push_of_some _ (Heap.get?_push_of_some _ ((upd_other _ h1).trans hb)))
  | e :: rem, n, s, a, tA, c, st, hst, hdr, hn, hit, hfp, hS, hR => by
    have he : vals[n]? = some e := by
      have := congrArg (·[0]?) hdr
      simpa using this
    have hdr' : vals.drop (n + 1) = rem := by
      have := congrArg List.tail hdr
      simpa using this
    refine codeAny_builtin F.entry_sum_loop ?_
    rw [Around.under_plainId F.plain_sum_loop _]
    show wpAny _ A.in1 (seqItems? (.ref S) >>= _) _ _ s
    refine wpAny_bind (wpAny_seqItems hS rfl ?_)
    show wpAny _ A.in1 (tryCatch (pyNext (.ref it)) _ >>= _) _ _ s
    refine wpAny_bind (wpAny_tryCatch (W.next A.in1 _ s n e _ he hit hfp ?_))
    have hS1 : (s.heap.update it (W.F n)).get? S = some (lsObj [.int a tA] c) := (upd_other _ (Ne.symm hSi)).trans hS
    have next : ∀ (h2 : Heap) (st' : Int), (st' = 0 ∨ st' = 2) → h2.objs.size = s.heap.objs.size → h2.get? S = some (lsObj [.int (a + e.1) s.toks] c) → (∀ b o, b ≠ S → (s.heap.update it (W.F n)).get? b = some o → h2.get? b = some o) →
        codeAny (model p w) A (.builtin "sum.loop" ⟨[.ref it, .ref S, rawInt st', rawInt 0], []⟩) R { s with heap := h2, toks := s.toks + 1 } := fun h2 st' hst' hz hS2 hk => by
      refine sumLoop W hh hSi hfi hfS rem (n + 1) { s with heap := h2, toks := s.toks + 1 } (a + e.1) s.toks c st' hst' hdr' (by simp at hn; omega) (hk _ _ hSi (W.upd n _ hit)) (fun q hq => hk _ _ (hfS q hq) ((upd_other _ (hfi q hq)).trans (hfp q hq))) hS2 fun h' q1 q2 q3 q4 => ?_
      have := hR h' (by rw [q1]; show h2.objs.size + 2 = _; rw [hz]) q2 q3 fun b o h1 h2' hb => q4 b o h1 h2' (hk b o h2' ((upd_other _ h1).trans hb))
      rw [show s.toks + (e :: rem).length = s.toks + 1 + rem.length by simp; omega] at this
      exact this
    have hz1 := upd_size s.heap it (W.F n)
    have fin2 : wpAny (model p w) A.in1 (do updateSeq S (fun _ => #[.int (a + e.1) s.toks]); letGo [.int a tA, .int e.1 e.2]; updateSeq S (fun _ => #[.int (a + e.1) s.toks]); again (.builtin "sum.loop" ⟨[.ref it, .ref S, rawInt 2, rawInt 0], []⟩))
        (fun fin s' => match fin with | .done f => R (.ok f) s' | .again c' => c'.quiet = true ∧ codeAny (model p w) A c' R s') (fun e s' => R (.error e) s') { s with heap := s.heap.update it (W.F n), toks := s.toks + 1 } := by
      refine wpAny_bind (wpAny_updateSeq (s := { s with heap := s.heap.update it (W.F n), toks := s.toks + 1 }) hS1 rfl ?_)
      refine wpAny_bind (wpAny_letGo ?_)
      refine wpAny_bind (wpAny_updateSeq (s := { s with heap := (s.heap.update it (W.F n)).update S (Obj.mapSeq fun _ => #[.int (a + e.1) s.toks]), toks := s.toks + 1 }) (lsSet hS1 _) rfl ?_)
      refine wpAny_pure ⟨plainId_quiet F.plain_sum_loop _, next _ 2 (.inr rfl) ?_ (lsSet2 hS1 _) fun b o hb hg => ?_⟩
      · rw [upd_size, upd_size, hz1]
      · exact (upd_other _ hb).trans ((upd_other _ hb).trans hg)
    rcases hst with rfl | rfl
    · show wpAny _ A.in1 (if (_ : Bool) = true then (mkInt (a + e.1) >>= _) else _) _ _ _
      split
      · refine wpAny_bind (wpAny_mkInt ?_)
        show wpAny _ A.in1 (updateSeq S (fun _ => #[.int (a + e.1) s.toks]) >>= _) _ _ _
        refine wpAny_bind (wpAny_updateSeq (s := { s with heap := s.heap.update it (W.F n), toks := s.toks + 1 }) hS1 rfl ?_)
        refine wpAny_pure ⟨plainId_quiet F.plain_sum_loop _, next _ 0 (.inl rfl) ?_ (lsSet hS1 _) fun b o hb hg => (upd_other _ hb).trans hg⟩
        rw [upd_size, hz1]
      · refine wpAny_bind (wpAny_rule ?_)
        refine wpAny_bind (wpAny_attempt (wpAny_holding (wpAny_add_int ?_)))
        exact fin2
    · show wpAny _ A.in1 ((holding [Value.int e.1 e.2] (binaryOp .Add (.int a tA) (.int e.1 e.2))).attempt >>= _) _ _ _
      refine wpAny_bind (wpAny_attempt (wpAny_holding (wpAny_add_int ?_)))
      exact fin2
/-- the loop of sum -/
noncomputable def sSum (i j it S c : Nat) (vals : List (Int × Nat)) (O : Nat → Obj) (Oe : Obj) (fp : List (Nat × Obj)) (jf : Nat) (a : Int) (tA tok : Nat) : Summ :=
  { code := .builtin "sum.loop" ⟨[.ref it, .ref S, rawInt 0, rawInt 0], []⟩, res := .ok (.ret (.int (sumV vals a) (sumT vals tA tok))), pre := (i, it, O 0) :: (j, S, lsObj [.int a tA] c) :: fp.map fun q => (jf, q.1, q.2),
    post := [(i, it, Oe), (j, S, lsObj [.int (sumV vals a) (sumT vals tA tok)] c)], dl := 2, dtok := vals.length }
theorem sSum_ok {K : Nat → Option Obj} {i j it S c : Nat} {vals : List (Int × Nat)} {O : Nat → Obj} {Oe : Obj} {fp : List (Nat × Obj)} {jf : Nat} {a : Int} {tA : Nat} (W : Src p w it vals O Oe fp) (hSi : it ≠ S) (hfi : ∀ q ∈ fp, q.1 ≠ it) (hfS : ∀ q ∈ fp, q.1 ≠ S) (sz tok : Nat) :
    (sSum i j it S c vals O Oe fp jf a tA tok).Valid (mdl p w) K sz tok := by
  refine Summ.ofCode rfl (fun _ => True) (fun _ _ => trivial) fun s hpre _ _ hs ht A hA _ => ?_
  have h0 : s.heap.get? it = some (O 0) := hpre (i, it, O 0) List.mem_cons_self
  have h1 : s.heap.get? S = some (lsObj [.int a tA] c) := hpre (j, S, lsObj [.int a tA] c) (List.mem_cons_of_mem _ List.mem_cons_self)
  have h2 : ∀ q ∈ fp, s.heap.get? q.1 = some q.2 := fun q hq => hpre (jf, q.1, q.2) (List.mem_cons_of_mem _ (List.mem_cons_of_mem _ (List.mem_map.mpr ⟨q, hq, rfl⟩)))
  subst hs ht
  show codeAny (model p w) A (.builtin "sum.loop" ⟨[.ref it, .ref S, rawInt 0, rawInt 0], []⟩) _ s
  refine sumLoop W hA hSi hfi hfS vals 0 s a tA c 0 (.inl rfl) rfl (Nat.zero_add _) h0 h2 h1 fun h' q1 q2 q5 q4 => ⟨rfl, h', rfl, ?_, ?_, (fun q hq => nomatch hq), (fun q hq => nomatch hq), ?_⟩
  · rw [q1]; show _ = 0 + s.heap.objs.size + 2; omega
  · intro q hq
    rcases List.mem_cons.mp hq with rfl | hq
    · exact q5
    · rw [List.mem_singleton.mp hq]
      exact q2
  · intro b o hb hn
    exact q4 b o (fun z => hn _ List.mem_cons_self z.symm) (fun z => hn _ (List.mem_cons_of_mem _ List.mem_cons_self) z.symm) hb
end
end Mine
namespace Mine
open PySem PySem.W
section
variable {p : Program} {w : World} {A : Around} {R : Result → Shared → Prop}
noncomputable def minV : List (Int × Nat) → Int × Nat → Int × Nat
  | [], b => b
  | x :: r, b => match decide (x.1 < b.1) with
    | true => minV r x
    | false => minV r b
noncomputable def minC : List (Int × Nat) → Int × Nat → Nat → Nat
  | [], _, c => c
  | x :: r, b, c => match decide (x.1 < b.1) with
    | true => minC r x c
    | false => minC r b c
theorem lsminSet {h : Heap} {S c : Nat} {x y v w : Value} (hl : h.get? S = some (lsObj [x, y] c)) : (h.update S (Obj.mapSeq fun _ => #[v, w])).get? S = some (lsObj [v, w] c) := get_upd _ hl rfl rfl
theorem minLoop {it S : Nat} {vals : List (Int × Nat)} {O : Nat → Obj} {Oe : Obj} {fp : List (Nat × Obj)} (W : Src p w it vals O Oe fp) (hh : A.handled = none) (hSi : it ≠ S) (hfi : ∀ q ∈ fp, q.1 ≠ it) (hfS : ∀ q ∈ fp, q.1 ≠ S) :
    ∀ (rem : List (Int × Nat)) (n : Nat) (s : Shared) (b : Int × Nat) (c : Nat), vals.drop n = rem → n + rem.length = vals.length → s.heap.get? it = some (O n) → (∀ q ∈ fp, s.heap.get? q.1 = some q.2) → s.heap.get? S = some (lsObj [.int b.1 b.2, .int b.1 b.2] c) →
      (∀ h', h'.objs.size = s.heap.objs.size + 2 → h'.get? S = some (lsObj [] (c + 1)) → h'.get? it = some Oe → (∀ b o, b ≠ it → b ≠ S → s.heap.get? b = some o → h'.get? b = some o) →
        R (.ok (.ret (.int (minV rem b).1 (minV rem b).2))) { s with heap := h' }) →
      codeAny (model p w) A (.builtin "min.loop" ⟨[.ref it, .none, .ref S], []⟩) R s
  | [], n, s, b, c, hdr, hn, hit, hfp, hS, hR => by
    refine codeAny_builtin F.entry_min_loop ?_
    rw [Around.under_plainId F.plain_min_loop _]
    show wpAny _ A.in1 (seqItems? (.ref S) >>= _) _ _ s
    refine wpAny_bind (wpAny_seqItems hS rfl ?_)
    show wpAny _ A.in1 (tryCatch (pyNext (.ref it)) _ >>= _) _ _ s
    have hn : n = vals.length := by simpa using hn
    subst hn
    have z1 := upd_size s.heap it W.FE
    refine wpAny_bind (wpAny_tryCatch (W.done A.in1 _ s _ hh hit hfp ?_))
    show wpAny _ A.in1 (updateSeq S (fun _ => #[]) >>= _) _ _ _
    have hS1 : (((s.heap.update it W.FE).push (tupObj [])).push (stopObj s.heap.objs.size)).get? S = some (lsObj [.int b.1 b.2, .int b.1 b.2] c) := Heap.get?_push_of_some _ (Heap.get?_push_of_some _ ((upd_other _ (Ne.symm hSi)).trans hS))
    refine wpAny_bind (wpAny_updateSeq (s := { s with heap := ((s.heap.update it W.FE).push (tupObj [])).push (stopObj s.heap.objs.size) }) hS1 rfl ?_)
    refine wpAny_bind (wpAny_letGo (wpAny_pure ?_))
    refine hR _ ?_ (get_upd _ hS1 rfl rfl) ((upd_other _ hSi).trans (Heap.get?_push_of_some _ (Heap.get?_push_of_some _ (W.updE _ hit)))) fun b o h1 h2 hb => (upd_other _ h2).trans (Heap.get?_push_of_some _ (Heap.get?_push_of_some _ ((upd_other _ h1).trans hb)))
    rw [upd_size, Heap.size_push, Heap.size_push, z1]
  | e :: rem, n, s, b, c, hdr, hn, hit, hfp, hS, hR => by
    have he : vals[n]? = some e := by
      have := congrArg (·[0]?) hdr
      simpa using this
    have hdr' : vals.drop (n + 1) = rem := by
      have := congrArg List.tail hdr
      simpa using this
    have hname : (toString "min" ++ toString ".loop" : String) = "min.loop" := by decide
    refine codeAny_builtin F.entry_min_loop ?_
    rw [Around.under_plainId F.plain_min_loop _]
    show wpAny _ A.in1 (seqItems? (.ref S) >>= _) _ _ s
    refine wpAny_bind (wpAny_seqItems hS rfl ?_)
    show wpAny _ A.in1 (tryCatch (pyNext (.ref it)) _ >>= _) _ _ s
    refine wpAny_bind (wpAny_tryCatch (W.next A.in1 _ s n e _ he hit hfp ?_))
    have hS1 : (s.heap.update it (W.F n)).get? S = some (lsObj [.int b.1 b.2, .int b.1 b.2] c) := (upd_other _ (Ne.symm hSi)).trans hS
    have hz1 := upd_size s.heap it (W.F n)
    have next : ∀ (h2 : Heap) (b2 : Int × Nat), (minV (e :: rem) b = minV rem b2) → h2.objs.size = s.heap.objs.size → h2.get? S = some (lsObj [.int b2.1 b2.2, .int b2.1 b2.2] c) → (∀ b o, b ≠ S → (s.heap.update it (W.F n)).get? b = some o → h2.get? b = some o) →
        codeAny (model p w) A (.builtin "min.loop" ⟨[.ref it, .none, .ref S], []⟩) R { s with heap := h2 } := fun h2 b2 hv hz hS2 hk => by
      refine minLoop W hh hSi hfi hfS rem (n + 1) { s with heap := h2 } b2 c hdr' (by simp at hn; omega) (hk _ _ hSi (W.upd n _ hit)) (fun q hq => hk _ _ (hfS q hq) ((upd_other _ (hfi q hq)).trans (hfp q hq))) hS2 fun h' q1 q2 q3 q4 => ?_
      have := hR h' (by rw [q1]; show h2.objs.size + 2 = _; rw [hz]) q2 q3 fun b o h1 h2' hb => q4 b o h1 h2' (hk b o h2' ((upd_other _ h1).trans hb))
      rw [hv] at this
      exact this
    show wpAny _ A.in1 (tryCatch (holding [Value.int e.1 e.2, Value.int e.1 e.2] (richCompare .Lt (.int e.1 e.2) (.int b.1 b.2) >>= _)) _ >>= _) _ _ _
    refine wpAny_bind (wpAny_tryCatch (wpAny_holding (wpAny_bind ?_)))
    refine P.lt_int ?_
    refine wpAny_bind (wpAny_holding (wpAny_truthy_bool ?_))
    refine wpAny_bind (wpAny_letGo (wpAny_pure ?_))
    cases hb : decide (e.1 < b.1) with
    | true =>
      simp only [if_true]
      refine wpAny_bind (wpAny_updateSeq (s := { s with heap := s.heap.update it (W.F n) }) hS1 rfl ?_)
      refine wpAny_bind (wpAny_letGo ?_)
      rw [hname]
      refine wpAny_pure ⟨plainId_quiet F.plain_min_loop _, next _ e (by simp only [minV, hb]) (by rw [upd_size, hz1]) (lsminSet hS1) fun b o hb hg => (upd_other _ hb).trans hg⟩
    | false =>
      simp only [Bool.false_eq_true, if_false]
      refine wpAny_bind (wpAny_letGo ?_)
      rw [hname]
      exact wpAny_pure ⟨plainId_quiet F.plain_min_loop _, next _ b (by simp only [minV, hb]) hz1 hS1 fun b o hb hg => hg⟩
/-- the loop of min -/
noncomputable def sminL (i j it S c : Nat) (x : Int × Nat) (vals : List (Int × Nat)) (O : Nat → Obj) (Oe : Obj) (fp : List (Nat × Obj)) (jf : Nat) : Summ :=
  { code := .builtin "min.loop" ⟨[.ref it, .none, .ref S], []⟩, res := .ok (.ret (.int (minV vals x).1 (minV vals x).2)), pre := (i, it, O 0) :: (j, S, lsObj [] c) :: fp.map fun q => (jf, q.1, q.2),
    post := [(i, it, Oe), (j, S, lsObj [] (c + 1 + 1))], dl := 2 }
theorem sminL_ok {K : Nat → Option Obj} {i j it S c : Nat} {x : Int × Nat} {vals : List (Int × Nat)} {O : Nat → Obj} {Oe : Obj} {fp : List (Nat × Obj)} {jf : Nat} (W : Src p w it (x :: vals) O Oe fp) (hSi : it ≠ S) (hfi : ∀ q ∈ fp, q.1 ≠ it) (hfS : ∀ q ∈ fp, q.1 ≠ S) (sz tok : Nat) :
    (sminL i j it S c x vals O Oe fp jf).Valid (mdl p w) K sz tok := by
  refine Summ.ofCode rfl (fun _ => True) (fun _ _ => trivial) fun s hpre _ _ hs ht A hA _ => ?_
  have h0 : s.heap.get? it = some (O 0) := hpre (i, it, O 0) List.mem_cons_self
  have h1 : s.heap.get? S = some (lsObj [] c) := hpre (j, S, lsObj [] c) (List.mem_cons_of_mem _ List.mem_cons_self)
  have h2 : ∀ q ∈ fp, s.heap.get? q.1 = some q.2 := fun q hq => hpre (jf, q.1, q.2) (List.mem_cons_of_mem _ (List.mem_cons_of_mem _ (List.mem_map.mpr ⟨q, hq, rfl⟩)))
  subst hs ht
  show codeAny (model p w) A (.builtin "min.loop" ⟨[.ref it, .none, .ref S], []⟩) _ s
  have hname : (toString "min" ++ toString ".loop" : String) = "min.loop" := by decide
  refine codeAny_builtin F.entry_min_loop ?_
  rw [Around.under_plainId F.plain_min_loop _]
  show wpAny _ A.in1 (seqItems? (.ref S) >>= _) _ _ s
  refine wpAny_bind (wpAny_seqItems h1 rfl ?_)
  show wpAny _ A.in1 (tryCatch (pyNext (.ref it)) _ >>= _) _ _ s
  refine wpAny_bind (wpAny_tryCatch (W.next A.in1 _ s 0 x _ rfl h0 h2 ?_))
  have hS1 : (s.heap.update it (W.F 0)).get? S = some (lsObj [] c) := (upd_other _ (Ne.symm hSi)).trans h1
  have hz1 := upd_size s.heap it (W.F 0)
  have up : ∀ b o, b ≠ S → (s.heap.update it (W.F 0)).get? b = some o → ((s.heap.update it (W.F 0)).update S (Obj.mapSeq fun _ => #[Value.int x.1 x.2, Value.int x.1 x.2])).get? b = some o := fun b o hb hg => (upd_other _ hb).trans hg
  show wpAny _ A.in1 (updateSeq S (fun _ => #[Value.int x.1 x.2, Value.int x.1 x.2]) >>= _) _ _ _
  refine wpAny_bind (wpAny_updateSeq (s := { s with heap := s.heap.update it (W.F 0) }) hS1 rfl ?_)
  rw [hname]
  refine wpAny_pure ⟨plainId_quiet F.plain_min_loop _, ?_⟩
  refine minLoop W hA hSi hfi hfS vals 1 { s with heap := (s.heap.update it (W.F 0)).update S (Obj.mapSeq fun _ => #[Value.int x.1 x.2, Value.int x.1 x.2]) } x (c + 1) rfl (by simp; omega) (up _ _ hSi (W.upd 0 _ h0)) (fun q hq => up _ _ (hfS q hq) ((upd_other _ (hfi q hq)).trans (h2 q hq))) (get_upd _ hS1 rfl rfl)
    fun h' q1 q2 q5 q4 => ⟨rfl, h', rfl, ?_, ?_, (fun q hq => nomatch hq), (fun q hq => nomatch hq), ?_⟩
  · rw [q1]; show (Heap.update _ _ _).objs.size + 2 = 0 + s.heap.objs.size + 2; rw [upd_size, hz1]; omega
  · intro q hq
    rcases List.mem_cons.mp hq with rfl | hq
    · exact q5
    · rw [List.mem_singleton.mp hq]
      exact q2
  · intro b o hb hn
    have n1 : b ≠ it := fun z => hn _ List.mem_cons_self z.symm
    have n2 : b ≠ S := fun z => hn _ (List.mem_cons_of_mem _ List.mem_cons_self) z.symm
    exact q4 b o n1 n2 (up b o n2 ((upd_other _ n1).trans hb))
noncomputable def maxV : List (Int × Nat) → Int × Nat → Int × Nat
  | [], b => b
  | x :: r, b => match decide (x.1 > b.1) with
    | true => maxV r x
    | false => maxV r b
noncomputable def maxC : List (Int × Nat) → Int × Nat → Nat → Nat
  | [], _, c => c
  | x :: r, b, c => match decide (x.1 > b.1) with
    | true => maxC r x c
    | false => maxC r b c
theorem lsmaxSet {h : Heap} {S c : Nat} {x y v w : Value} (hl : h.get? S = some (lsObj [x, y] c)) : (h.update S (Obj.mapSeq fun _ => #[v, w])).get? S = some (lsObj [v, w] c) := get_upd _ hl rfl rfl
theorem maxLoop {it S : Nat} {vals : List (Int × Nat)} {O : Nat → Obj} {Oe : Obj} {fp : List (Nat × Obj)} (W : Src p w it vals O Oe fp) (hh : A.handled = none) (hSi : it ≠ S) (hfi : ∀ q ∈ fp, q.1 ≠ it) (hfS : ∀ q ∈ fp, q.1 ≠ S) :
    ∀ (rem : List (Int × Nat)) (n : Nat) (s : Shared) (b : Int × Nat) (c : Nat), vals.drop n = rem → n + rem.length = vals.length → s.heap.get? it = some (O n) → (∀ q ∈ fp, s.heap.get? q.1 = some q.2) → s.heap.get? S = some (lsObj [.int b.1 b.2, .int b.1 b.2] c) →
      (∀ h', h'.objs.size = s.heap.objs.size + 2 → h'.get? S = some (lsObj [] (c + 1)) → h'.get? it = some Oe → (∀ b o, b ≠ it → b ≠ S → s.heap.get? b = some o → h'.get? b = some o) →
        R (.ok (.ret (.int (maxV rem b).1 (maxV rem b).2))) { s with heap := h' }) →
      codeAny (model p w) A (.builtin "max.loop" ⟨[.ref it, .none, .ref S], []⟩) R s
  | [], n, s, b, c, hdr, hn, hit, hfp, hS, hR => by
    refine codeAny_builtin F.entry_max_loop ?_
    rw [Around.under_plainId F.plain_max_loop _]
    show wpAny _ A.in1 (seqItems? (.ref S) >>= _) _ _ s
    refine wpAny_bind (wpAny_seqItems hS rfl ?_)
    show wpAny _ A.in1 (tryCatch (pyNext (.ref it)) _ >>= _) _ _ s
    have hn : n = vals.length := by simpa using hn
    subst hn
    have z1 := upd_size s.heap it W.FE
    refine wpAny_bind (wpAny_tryCatch (W.done A.in1 _ s _ hh hit hfp ?_))
    show wpAny _ A.in1 (updateSeq S (fun _ => #[]) >>= _) _ _ _
    have hS1 : (((s.heap.update it W.FE).push (tupObj [])).push (stopObj s.heap.objs.size)).get? S = some (lsObj [.int b.1 b.2, .int b.1 b.2] c) := Heap.get?_push_of_some _ (Heap.get?_push_of_some _ ((upd_other _ (Ne.symm hSi)).trans hS))
    refine wpAny_bind (wpAny_updateSeq (s := { s with heap := ((s.heap.update it W.FE).push (tupObj [])).push (stopObj s.heap.objs.size) }) hS1 rfl ?_)
    refine wpAny_bind (wpAny_letGo (wpAny_pure ?_))
    refine hR _ ?_ (get_upd _ hS1 rfl rfl) ((upd_other _ hSi).trans (Heap.get?_push_of_some _ (Heap.get?_push_of_some _ (W.updE _ hit)))) fun b o h1 h2 hb => (upd_other _ h2).trans (Heap.get?_push_of_some _ (Heap.get?_push_of_some _ ((upd_other _ h1).trans hb)))
    rw [upd_size, Heap.size_push, Heap.size_push, z1]
  | e :: rem, n, s, b, c, hdr, hn, hit, hfp, hS, hR => by
    have he : vals[n]? = some e := by
      have := congrArg (·[0]?) hdr
      simpa using this
    have hdr' : vals.drop (n + 1) = rem := by
      have := congrArg List.tail hdr
      simpa using this
    have hname : (toString "max" ++ toString ".loop" : String) = "max.loop" := by decide
    refine codeAny_builtin F.entry_max_loop ?_
    rw [Around.under_plainId F.plain_max_loop _]
    show wpAny _ A.in1 (seqItems? (.ref S) >>= _) _ _ s
    refine wpAny_bind (wpAny_seqItems hS rfl ?_)
    show wpAny _ A.in1 (tryCatch (pyNext (.ref it)) _ >>= _) _ _ s
    refine wpAny_bind (wpAny_tryCatch (W.next A.in1 _ s n e _ he hit hfp ?_))
    have hS1 : (s.heap.update it (W.F n)).get? S = some (lsObj [.int b.1 b.2, .int b.1 b.2] c) := (upd_other _ (Ne.symm hSi)).trans hS
    have hz1 := upd_size s.heap it (W.F n)
    have next : ∀ (h2 : Heap) (b2 : Int × Nat), (maxV (e :: rem) b = maxV rem b2) → h2.objs.size = s.heap.objs.size → h2.get? S = some (lsObj [.int b2.1 b2.2, .int b2.1 b2.2] c) → (∀ b o, b ≠ S → (s.heap.update it (W.F n)).get? b = some o → h2.get? b = some o) →
        codeAny (model p w) A (.builtin "max.loop" ⟨[.ref it, .none, .ref S], []⟩) R { s with heap := h2 } := fun h2 b2 hv hz hS2 hk => by
      refine maxLoop W hh hSi hfi hfS rem (n + 1) { s with heap := h2 } b2 c hdr' (by simp at hn; omega) (hk _ _ hSi (W.upd n _ hit)) (fun q hq => hk _ _ (hfS q hq) ((upd_other _ (hfi q hq)).trans (hfp q hq))) hS2 fun h' q1 q2 q3 q4 => ?_
      have := hR h' (by rw [q1]; show h2.objs.size + 2 = _; rw [hz]) q2 q3 fun b o h1 h2' hb => q4 b o h1 h2' (hk b o h2' ((upd_other _ h1).trans hb))
      rw [hv] at this
      exact this
    show wpAny _ A.in1 (tryCatch (holding [Value.int e.1 e.2, Value.int e.1 e.2] (richCompare .Gt (.int e.1 e.2) (.int b.1 b.2) >>= _)) _ >>= _) _ _ _
    refine wpAny_bind (wpAny_tryCatch (wpAny_holding (wpAny_bind ?_)))
    refine P.gt_int ?_
    refine wpAny_bind (wpAny_holding (wpAny_truthy_bool ?_))
    refine wpAny_bind (wpAny_letGo (wpAny_pure ?_))
    cases hb : decide (e.1 > b.1) with
    | true =>
      simp only [if_true]
      refine wpAny_bind (wpAny_updateSeq (s := { s with heap := s.heap.update it (W.F n) }) hS1 rfl ?_)
      refine wpAny_bind (wpAny_letGo ?_)
      rw [hname]
      refine wpAny_pure ⟨plainId_quiet F.plain_max_loop _, next _ e (by simp only [maxV, hb]) (by rw [upd_size, hz1]) (lsmaxSet hS1) fun b o hb hg => (upd_other _ hb).trans hg⟩
    | false =>
      simp only [Bool.false_eq_true, if_false]
      refine wpAny_bind (wpAny_letGo ?_)
      rw [hname]
      exact wpAny_pure ⟨plainId_quiet F.plain_max_loop _, next _ b (by simp only [maxV, hb]) hz1 hS1 fun b o hb hg => hg⟩
/-- the loop of max -/
noncomputable def smaxL (i j it S c : Nat) (x : Int × Nat) (vals : List (Int × Nat)) (O : Nat → Obj) (Oe : Obj) (fp : List (Nat × Obj)) (jf : Nat) : Summ :=
  { code := .builtin "max.loop" ⟨[.ref it, .none, .ref S], []⟩, res := .ok (.ret (.int (maxV vals x).1 (maxV vals x).2)), pre := (i, it, O 0) :: (j, S, lsObj [] c) :: fp.map fun q => (jf, q.1, q.2),
    post := [(i, it, Oe), (j, S, lsObj [] (c + 1 + 1))], dl := 2 }
theorem smaxL_ok {K : Nat → Option Obj} {i j it S c : Nat} {x : Int × Nat} {vals : List (Int × Nat)} {O : Nat → Obj} {Oe : Obj} {fp : List (Nat × Obj)} {jf : Nat} (W : Src p w it (x :: vals) O Oe fp) (hSi : it ≠ S) (hfi : ∀ q ∈ fp, q.1 ≠ it) (hfS : ∀ q ∈ fp, q.1 ≠ S) (sz tok : Nat) :
    (smaxL i j it S c x vals O Oe fp jf).Valid (mdl p w) K sz tok := by
  refine Summ.ofCode rfl (fun _ => True) (fun _ _ => trivial) fun s hpre _ _ hs ht A hA _ => ?_
  have h0 : s.heap.get? it = some (O 0) := hpre (i, it, O 0) List.mem_cons_self
  have h1 : s.heap.get? S = some (lsObj [] c) := hpre (j, S, lsObj [] c) (List.mem_cons_of_mem _ List.mem_cons_self)
  have h2 : ∀ q ∈ fp, s.heap.get? q.1 = some q.2 := fun q hq => hpre (jf, q.1, q.2) (List.mem_cons_of_mem _ (List.mem_cons_of_mem _ (List.mem_map.mpr ⟨q, hq, rfl⟩)))
  subst hs ht
  show codeAny (model p w) A (.builtin "max.loop" ⟨[.ref it, .none, .ref S], []⟩) _ s
  have hname : (toString "max" ++ toString ".loop" : String) = "max.loop" := by decide
  refine codeAny_builtin F.entry_max_loop ?_
  rw [Around.under_plainId F.plain_max_loop _]
  show wpAny _ A.in1 (seqItems? (.ref S) >>= _) _ _ s
  refine wpAny_bind (wpAny_seqItems h1 rfl ?_)
  show wpAny _ A.in1 (tryCatch (pyNext (.ref it)) _ >>= _) _ _ s
  refine wpAny_bind (wpAny_tryCatch (W.next A.in1 _ s 0 x _ rfl h0 h2 ?_))
  have hS1 : (s.heap.update it (W.F 0)).get? S = some (lsObj [] c) := (upd_other _ (Ne.symm hSi)).trans h1
  have hz1 := upd_size s.heap it (W.F 0)
  have up : ∀ b o, b ≠ S → (s.heap.update it (W.F 0)).get? b = some o → ((s.heap.update it (W.F 0)).update S (Obj.mapSeq fun _ => #[Value.int x.1 x.2, Value.int x.1 x.2])).get? b = some o := fun b o hb hg => (upd_other _ hb).trans hg
  show wpAny _ A.in1 (updateSeq S (fun _ => #[Value.int x.1 x.2, Value.int x.1 x.2]) >>= _) _ _ _
  refine wpAny_bind (wpAny_updateSeq (s := { s with heap := s.heap.update it (W.F 0) }) hS1 rfl ?_)
  rw [hname]
  refine wpAny_pure ⟨plainId_quiet F.plain_max_loop _, ?_⟩
  refine maxLoop W hA hSi hfi hfS vals 1 { s with heap := (s.heap.update it (W.F 0)).update S (Obj.mapSeq fun _ => #[Value.int x.1 x.2, Value.int x.1 x.2]) } x (c + 1) rfl (by simp; omega) (up _ _ hSi (W.upd 0 _ h0)) (fun q hq => up _ _ (hfS q hq) ((upd_other _ (hfi q hq)).trans (h2 q hq))) (get_upd _ hS1 rfl rfl)
    fun h' q1 q2 q5 q4 => ⟨rfl, h', rfl, ?_, ?_, (fun q hq => nomatch hq), (fun q hq => nomatch hq), ?_⟩
  · rw [q1]; show (Heap.update _ _ _).objs.size + 2 = 0 + s.heap.objs.size + 2; rw [upd_size, hz1]; omega
  · intro q hq
    rcases List.mem_cons.mp hq with rfl | hq
    · exact q5
    · rw [List.mem_singleton.mp hq]
      exact q2
  · intro b o hb hn
    have n1 : b ≠ it := fun z => hn _ List.mem_cons_self z.symm
    have n2 : b ≠ S := fun z => hn _ (List.mem_cons_of_mem _ List.mem_cons_self) z.symm
    exact q4 b o n1 n2 (up b o n2 ((upd_other _ n1).trans hb))
end
end Mine
namespace Mine
open PySem PySem.W

/-- list's extension by what is neither a list nor a tuple: the start -/
noncomputable def extX (l v : Nat) (r : Value) : Sem PySem.Fin := Builtin.List.listExtendWith (.ref l) (.ref v) r
/-- behind the question whether it is the list itself -/
noncomputable def extY (l v : Nat) (r : Value) (b : Bool) : Sem PySem.Fin := do
  let iter ← pyIter (.ref v)
  let room ← holding [iter] (Builtin.List.listLengthHint (.ref v))
  if room || b then rule "list.extend.makes-room"; Builtin.List.listTouch (.ref l)
  again (.builtin "list.extend.loop" ⟨[.ref l, iter, r], []⟩)
end Mine
lay_quick Mine.extX
lay_quick Mine.extY
namespace Mine
open PySem PySem.W
theorem ext_comes {p : Program} {w : World} {s : Shared} {l v : Nat} {r : Value} {o : Obj} {b : Bool} (code : Code) (pos : Pos) (st : List Frame) (ho : s.heap.get? v = some o) (hne : l ≠ v)
    (h1 : (o.cls == .type "list" || o.cls == .type "tuple") = false) (h2 : (["set", "frozenset", "dict", "dict_keys", "dict_values", "dict_items"].any (o.cls == .type ·)) = b) :
    Comes (mdl p w) s ⟨extX l v r, code, pos, st⟩ s ⟨extY l v r b, code, pos, st⟩ := by
  refine Comes.step (step_load (M := mdl p w) _ _ _ _ none _ ho) ?_
  have hs : (Builtin.List.listSameRef (.ref l) (.ref v) || o.cls == .type "list" || o.cls == .type "tuple") = false := by
    rw [Bool.or_assoc, h1, Bool.or_false]
    show (l == v) = false
    simpa using hne
  subst h2
  show Comes (mdl p w) s ⟨if (Builtin.List.listSameRef (.ref l) (.ref v) || o.cls == .type "list" || o.cls == .type "tuple") = true then _ else _, code, pos, st⟩ s _
  rw [if_neg (by rw [hs]; exact Bool.false_ne_true)]
  exact Comes.refl _ _
noncomputable abbrev tExtX := PySem.W.Fast.tw52672456572025752
noncomputable abbrev tExtY := PySem.W.Fast.tw7827945706206845217
theorem tExtX_eq : tExtX = extX := PySem.W.Fast.te52672456572025752.symm
theorem tExtY_eq : tExtY = extY := PySem.W.Fast.te7827945706206845217.symm
/-- the extension goes on behind its first question -/
noncomputable def mExt (i l v : Nat) (r : Value) (o : Obj) (b : Bool) : Mid := { X := tExtX l v r, Y := tExtY l v r b, pre := [(i, v, o)] }
theorem mExt_ok {p : Program} {w : World} {K : Nat → Option Obj} {i l v : Nat} {r : Value} {o : Obj} {b : Bool} (hne : l ≠ v) (h1 : (o.cls == .type "list" || o.cls == .type "tuple") = false)
    (h2 : (["set", "frozenset", "dict", "dict_keys", "dict_values", "dict_items"].any (o.cls == .type ·)) = b) (sz tok : Nat) : (mExt i l v r o b).Valid (mdl p w) K sz tok := by
  intro s code pos st hK hpre hpo hs ht hb
  have ho : s.heap.get? v = some o := hpre (i, v, o) (List.mem_singleton.mpr rfl)
  refine ⟨s.heap, ?_, hs, (fun q hq => nomatch hq), fun b o h _ => h⟩
  have hX : (mExt i l v r o b).X = extX l v r := by unfold mExt; rw [← tExtX_eq]
  have hY : (mExt i l v r o b).Y = extY l v r b := by unfold mExt; rw [← tExtY_eq]
  rw [hX, hY]
  exact ext_comes code pos st ho hne h1 h2
end Mine
namespace Mine
open PySem PySem.W
/-- list + list -/
noncomputable def sLsAdd (i j a b : Nat) (xs ys zs : List Value) (ep ep' : Nat) (sz : Nat) : Summ :=
  { code := .builtin "list.__add__" ⟨[.ref a, .ref b], []⟩, res := .ok (.ret (.ref sz)), pre := [(i, a, lsObj xs ep), (j, b, lsObj ys ep')], new := [(0, lsObj zs 0)], dl := 1 }
theorem sLsAdd_ok {p : Program} {w : World} {K : Nat → Option Obj} {i j a b : Nat} {xs ys zs : List Value} {ep ep' : Nat} (hz : zs = xs ++ ys) (hn : zs.length ≤ 64) (sz tok : Nat) : (sLsAdd i j a b xs ys zs ep ep' sz).Valid (mdl p w) K sz tok := by
  subst hz
  refine Summ.ofAny rfl rfl fun s hpre hs ht => ?_
  have h1 : s.heap.get? a = some (lsObj xs ep) := hpre (i, a, lsObj xs ep) List.mem_cons_self
  have h2 : s.heap.get? b = some (lsObj ys ep') := hpre (j, b, lsObj ys ep') (List.mem_cons_of_mem _ List.mem_cons_self)
  have hT : s.TypeIs (.ref b) "list" := ⟨_, h2, rfl⟩
  refine ⟨s.heap.push (lsObj (xs ++ ys) 0), fun A hA => any_builtin F.entry_list_add ?_, ?_, (fun q hq => nomatch hq), fun q hq => ?_, fun b o hb _ => Heap.get?_push_of_some _ hb⟩
  · unfold Builtin.«list.__add__»
    refine wpAny_bind (wpAny_pure ?_)
    refine wpAny_bind (wpAny_isInstance (T := "list") (b := true) hT AutoSeq1.sub_list_list ?_)
    simp only [Bool.not_true, Bool.false_eq_true, if_false]
    show wpAny _ _ (Builtin.List.listItems (.ref a) >>= _) _ _ _
    refine wpAny_bind ?_
    unfold Builtin.List.listItems
    refine wpAny_bind (wpAny_seqItems h1 rfl (wpAny_pure ?_))
    refine wpAny_bind ?_
    refine wpAny_bind (wpAny_seqItems h2 rfl (wpAny_pure ?_))
    refine wpAny_bind (wpAny_newObj_type ?_ ?_)
    · refine wpAny_pure ⟨_, rfl, ?_, ?_⟩
      · rw [hs]; rfl
      · subst ht
        simp [lsObj, sLsAdd]
    · have hz : ((⟨xs⟩ : Array Value) ++ (⟨ys⟩ : Array Value)).size ≤ 64 := by
        rw [List.length_append] at hn
        simpa using hn
      exact Nat.le_trans hz (by size_fits)
  · rw [Heap.size_push, hs]; show sz + 1 = 0 + sz + 1; omega
  · rw [List.mem_singleton.mp hq]
    show Heap.get? _ (sz + 0) = _
    rw [Nat.add_zero, ← hs]
    exact Heap.get?_push_size _ rfl

noncomputable def ptS : Stmt := tstm (sBody lawS) 4
noncomputable def cPT (it : Nat) : Code := sFor ptS (.ref it) envL
/-- the law's frame behind its first lines -/
structure FrL where
  (t0 t1 tb tw ta : Nat)
  v1 : Value
  (pb pw pa : Nat)
noncomputable def frL (P : Params) (f : FrL) : Option (Nat × Value) → Obj
  | none => frObj P [(str "script", f.t0, .ref 1103), (str "x", f.t1, f.v1), (str "bag", f.tb, .ref f.pb), (str "below", f.tw, .ref f.pw), (str "above", f.ta, .ref f.pa)] 5
  | some (t, v) => frObj P [(str "script", f.t0, .ref 1103), (str "x", f.t1, f.v1), (str "bag", f.tb, .ref f.pb), (str "below", f.tw, .ref f.pw), (str "above", f.ta, .ref f.pa), (str "twin", t, v)] 6
end Mine
namespace Mine
open PySem PySem.W
noncomputable def exD : PySem.Expr := .Tuple [] default default
noncomputable def ifTest : Stmt → PySem.Expr
  | .If t _ _ _ => t
  | _ => exD
noncomputable def boolV : PySem.Expr → Nat → PySem.Expr
  | .BoolOp _ l _, i => l.getD i exD
  | e, _ => e
noncomputable def cmpR : PySem.Expr → PySem.Expr
  | .Compare _ _ l _ => l.headD exD
  | e => e
noncomputable def callA : PySem.Expr → PySem.Expr
  | .Call _ l _ _ => l.headD exD
  | e => e
noncomputable def compSc : PySem.Expr → Scope
  | .ListComp _ _ s _ => s
  | _ => default
noncomputable def pushL (acc : List Value) (v : Value) : List Value := ((⟨acc⟩ : Array Value).push v).toList
noncomputable def pushE (acc : List Value) (v : Value) (ep : Nat) : Nat := if ((⟨acc⟩ : Array Value).push v).size == (⟨acc⟩ : Array Value).size then ep else ep + 1
/-- the names of a comprehension -/
noncomputable def cmObj (P : Params) (nm : String) : Option (Nat × Value) → Obj
  | none => ⟨.type "dict", none, .dict ⟨[]⟩ 0, #[]⟩
  | some (t, v) => ⟨.type "dict", none, .dict ⟨[de P (str nm) t v]⟩ 1, #[]⟩
noncomputable def cmSet (t : Nat) (v : Value) : Option (Nat × Value) → Option (Nat × Value)
  | none => some (t, v)
  | some (a, _) => some (a, v)
noncomputable def ptCE : PySem.Expr := cmpR (boolV (ifTest (tstm (fbody ptS) 1)) 1)
/-- a comprehension's scope, the enclosing function's cells as its own -/
noncomputable def scCell (sc : Scope) : Scope := { sc with names := sc.names.map fun (n, k) => if k == .free then (n, .cell) else (n, k) }
noncomputable def envCmp (L : Nat) : Env := ⟨scCell (compSc ptCE), L, 3, [(str "part", 1106)], str "law.<locals>.", none, .ref 1101, some 1104, 0⟩
noncomputable def cCmp (it acc L : Nat) : Code := .compLoop ptCE 0 (.ref it) (.ref acc) (envCmp L)
end Mine
namespace Mine
open PySem PySem.W
/-- the address of an object among a call's arguments -/
noncomputable def argRef : Code → Nat → Nat
  | .builtin _ ⟨l, _⟩, i => (match l[i]? with | some (.ref a) => a | _ => 0)
  | _, _ => 0
end Mine
namespace Mine
open PySem PySem.W
/-- list.append -/
noncomputable def sApp (i a : Nat) (acc : List Value) (v : Value) (ep : Nat) : Summ :=
  { code := .builtin "list.append" ⟨[.ref a, v], []⟩, res := .ok (.ret .none), pre := [(i, a, lsObj acc ep)], post := [(i, a, lsObj (acc ++ [v]) (ep + 1))] }
theorem sApp_ok {p : Program} {w : World} {K : Nat → Option Obj} {i a : Nat} {acc : List Value} {v : Value} {ep : Nat} (hn : acc.length ≤ 64) (sz tok : Nat) : (sApp i a acc v ep).Valid (mdl p w) K sz tok := by
  refine Summ.ofAny rfl rfl fun s hpre hs ht => ?_
  have h1 : s.heap.get? a = some (lsObj acc ep) := hpre (i, a, lsObj acc ep) List.mem_cons_self
  have hsz : acc.length ≤ sizeLine := Nat.le_trans hn (by size_fits)
  have hsz2 : ((⟨acc⟩ : Array Value).push v).size ≤ sizeLine + 1 := by
    rw [Array.size_push]
    exact Nat.add_le_add_right hsz 1
  refine ⟨s.heap.update a (Obj.mapSeq (·.push v)), fun A hA => any_builtin F.entry_list_append ?_, ?_, fun q hq => ?_, (fun q hq => nomatch hq), fun b o hb hn => (upd_other _ fun z => hn _ List.mem_cons_self z.symm).trans hb⟩
  · refine wpAny_bind (wpAny_pure ?_)
    refine wpAny_bind (m := Builtin.List.listUpdate (.ref a) (·.push v)) ?_
    refine wpAny_updateSeq h1 rfl (wpAny_pure ⟨_, rfl, rfl, ?_⟩) hsz hsz2
    subst ht
    rfl
  · rw [upd_size, hs]; exact (Nat.zero_add _).symm
  · rw [List.mem_singleton.mp hq]
    exact lsPush h1 v
end Mine
namespace Mine
open PySem PySem.W
variable {b c : Bool} {w : World}
structure cmpSt where
  acc : List Value
  aep : Nat
  lo : Option (Nat × Value)
noncomputable def cmpL (P : Params) (i0 i1 i2 i3 i4 i5 : Nat) (it a L pa da rp ep : Nat) (es rs : List E) : Loop cmpSt E where
  code := cCmp it a L
  res := .ok .next
  slots n st := [(i0, it, kiObj 1107 n (eln es) ep), (i1, 1107, dObj clsD none es ep), (i2, a, lsObj st.acc st.aep), (i3, L, cmObj P "key" st.lo), (i4, 1106, ceObj (some (.ref (pa + 1103)))), (i5, pa + 1103, dObj clsC (some da) rs rp)]
  fin n st := [(it, KiEnd (kiObj 1107 n (eln es) ep)), (1107, dObj clsD none es ep), (a, lsObj st.acc st.aep), (L, cmObj P "key" st.lo), (1106, ceObj (some (.ref (pa + 1103)))), (pa + 1103, dObj clsC (some da) rs rp)]
  post n st := [(i0, it, KiEnd (kiObj 1107 n (eln es) ep)), (i2, a, lsObj st.acc st.aep), (i3, L, cmObj P "key" st.lo)]
  edl := 2
  edt := 0
  step e st t := match (esFind rs e.k).isSome with
    | true => ⟨st.acc ++ [.int e.k e.t], st.aep + 1, cmSet t (.int e.k e.t) st.lo⟩
    | false => ⟨st.acc, st.aep, cmSet t (.int e.k e.t) st.lo⟩
  sdl e st t := match (esFind rs e.k).isSome with
    | true => 0
    | false => 0
  sdt e st t := match (esFind rs e.k).isSome with
    | true => 2
    | false => 2
noncomputable def slcmp (P : Params) (it a L pa da rp ep : Nat) (es rs : List E) (n : Nat) (acc : List Value) (aep : Nat) (lo : Option (Nat × Value)) : List (Nat × Obj) := [(it, kiObj 1107 n (eln es) ep), (1107, dObj clsD none es ep), (a, lsObj acc aep), (L, cmObj P "key" lo), (1106, ceObj (some (.ref (pa + 1103)))), (pa + 1103, dObj clsC (some da) rs rp)]
noncomputable def ocmp0 (it a L pa da rp ep : Nat) (es rs : List E) (n : Nat) (acc : List Value) (aep : Nat) (lo : Option (Nat × Value)) (e : E)  : List Op := [.s 0, .k 0, .s 0, .a (fun _ _ _ => sKiNext 0 1 it 1107 n clsD none es ep e), .s 3, .s 3, .s 3, .s 4, .s 5, .k 2, .s 5, .k 3, .s 5, .k 0, .a (fun _ _ _ => sHas clsC (some da) 5 (pa + 1103) rs rp e.k e.t true), .s 3, .k 0, .s 2, .a (fun _ _ _ => sApp 2 a acc (.int e.k e.t) aep)]
theorem tcmp0 (it a L pa da rp ep : Nat) (es rs : List E) (n : Nat) (acc : List Value) (aep : Nat) (lo : Option (Nat × Value)) (e : E)  (sz tok : Nat) (k : Result → Sem PySem.Fin) (g : Bool) (l : List Value) (code : Code) (pos pos' : Pos) (kp : List Value) (W : List (Code × Pos)) (gens : List GenState) :
    chk (tR tP (tW b c w) (KK (tW b c w)) W 35 (ocmp0 it a L pa da rp ep es rs n acc aep lo e ) (mkT (slcmp (tW b c w).params it a L pa da rp ep es rs n acc aep lo)) 6 (sz + 1103) gens tok [] (tD (cCmp it a L)) (cCmp it a L) pos' [.ret k none g l code pos kp] [] []) (turns 6) =
    chk' (tR tP (tW b c w) (KK (tW b c w)) W 35 (ocmp0 it a L pa da rp ep es rs n acc aep lo e ) (mkT (slcmp (tW b c w).params it a L pa da rp ep es rs n acc aep lo)) 6 (sz + 1103) gens tok [] (tD (cCmp it a L)) (cCmp it a L) pos' [.ret k none g l code pos kp] [] [])
      (tD (cCmp it a L), cCmp it a L, [.ret k none g l code pos kp], sz + 1103 + 0, tok + 2, appG gens [], (slcmp (tW b c w).params it a L pa da rp ep es rs (n + 1) (acc ++ [.int e.k e.t]) (aep + 1) (cmSet tok (.int e.k e.t) lo)).map some) := by
  cases lo <;> cases b <;> kernel_rfl
noncomputable def ocmp1 (it a L pa da rp ep : Nat) (es rs : List E) (n : Nat) (acc : List Value) (aep : Nat) (lo : Option (Nat × Value)) (e : E)  : List Op := [.s 0, .k 0, .s 0, .a (fun _ _ _ => sKiNext 0 1 it 1107 n clsD none es ep e), .s 3, .s 3, .s 3, .s 4, .s 5, .k 2, .s 5, .k 3, .s 5, .k 0, .a (fun _ _ _ => sHas clsC (some da) 5 (pa + 1103) rs rp e.k e.t false)]
theorem tcmp1 (it a L pa da rp ep : Nat) (es rs : List E) (n : Nat) (acc : List Value) (aep : Nat) (lo : Option (Nat × Value)) (e : E)  (sz tok : Nat) (k : Result → Sem PySem.Fin) (g : Bool) (l : List Value) (code : Code) (pos pos' : Pos) (kp : List Value) (W : List (Code × Pos)) (gens : List GenState) :
    chk (tR tP (tW b c w) (KK (tW b c w)) W 30 (ocmp1 it a L pa da rp ep es rs n acc aep lo e ) (mkT (slcmp (tW b c w).params it a L pa da rp ep es rs n acc aep lo)) 6 (sz + 1103) gens tok [] (tD (cCmp it a L)) (cCmp it a L) pos' [.ret k none g l code pos kp] [] []) (turns 6) =
    chk' (tR tP (tW b c w) (KK (tW b c w)) W 30 (ocmp1 it a L pa da rp ep es rs n acc aep lo e ) (mkT (slcmp (tW b c w).params it a L pa da rp ep es rs n acc aep lo)) 6 (sz + 1103) gens tok [] (tD (cCmp it a L)) (cCmp it a L) pos' [.ret k none g l code pos kp] [] [])
      (tD (cCmp it a L), cCmp it a L, [.ret k none g l code pos kp], sz + 1103 + 0, tok + 2, appG gens [], (slcmp (tW b c w).params it a L pa da rp ep es rs (n + 1) (acc) (aep) (cmSet tok (.int e.k e.t) lo)).map some) := by
  cases lo <;> cases b <;> kernel_rfl
noncomputable def ocmpE (it a L pa da rp ep : Nat) (es rs : List E) (n : Nat) (acc : List Value) (aep : Nat) (lo : Option (Nat × Value)) : List Op := [.s 0, .k 0, .s 0, .a (fun _ sz _ => sKiEnd 0 1 it 1107 n clsD none es ep sz), .s 7]
theorem ecmp (it a L pa da rp ep : Nat) (es rs : List E) (n : Nat) (acc : List Value) (aep : Nat) (lo : Option (Nat × Value)) (sz tok : Nat) (k : Result → Sem PySem.Fin) (g : Bool) (l : List Value) (code : Code) (pos pos' : Pos) (kp : List Value) (W : List (Code × Pos)) (gens : List GenState) :
    chk (tR tP (tW b c w) (KK (tW b c w)) W 7 (ocmpE it a L pa da rp ep es rs n acc aep lo) (mkT (slcmp (tW b c w).params it a L pa da rp ep es rs n acc aep lo)) 6 (sz + 1103) gens tok [] (tD (cCmp it a L)) (cCmp it a L) pos' [.ret k none g l code pos kp] [] []) (ends 6 []) =
    chk' (tR tP (tW b c w) (KK (tW b c w)) W 7 (ocmpE it a L pa da rp ep es rs n acc aep lo) (mkT (slcmp (tW b c w).params it a L pa da rp ep es rs n acc aep lo)) 6 (sz + 1103) gens tok [] (tD (cCmp it a L)) (cCmp it a L) pos' [.ret k none g l code pos kp] [] [])
      (k (.ok .next), code, pos, [], sz + 1103 + 2, tok + 0, appG gens [], [], [(it, KiEnd (kiObj 1107 n (eln es) ep)), (1107, dObj clsD none es ep), (a, lsObj acc aep), (L, cmObj (tW b c w).params "key" lo), (1106, ceObj (some (.ref (pa + 1103)))), (pa + 1103, dObj clsC (some da) rs rp)].map some, []) := by
  cases lo <;> cases b <;> kernel_rfl
theorem cmpL_ok {i0 i1 i2 i3 i4 i5 : Nat} {it a L pa da rp ep : Nat} {es rs : List E} (els : List E) (h8 : els.length ≤ 8) (hels : es.length = els.length) (nd : [it, 1107, a, L, 1106, pa + 1103].Nodup) (hge : ∀ x ∈ [it, 1107, a, L, 1106, pa + 1103], 1103 ≤ x) (hel : ∀ (n : Nat) (e : E), els[n]? = some e → es[n]? = some e) (st : cmpSt) (hst : st.acc.length ≤ 0) (sz tok : Nat) (hsz : 1103 ≤ sz) :
    ((cmpL (tW b c w).params i0 i1 i2 i3 i4 i5 it a L pa da rp ep es rs).S 0 els st tok).Valid (mdl tP (tW b c w)) (KK (tW b c w)) sz tok := by
  refine Loop.valid _ [it, 1107, a, L, 1106, pa + 1103] [it, a, L] 6 (fun n st => st.acc.length ≤ n) (fun n e => es[n]? = some e) (fun n => n = els.length) 1103 (fun _ _ => rfl) rfl (fun _ _ => rfl) nd (fun x hx => KK_none (hge x hx)) (fun _ _ => rfl) (fun n st n' st' q hq => ?_)
    (fun n st e sz tok hs hI he => ?_) (fun n st sz tok hs hI hl => ?_) (fun _ _ => rfl) (fun n st q hq => ?_) (fun n st q hq => ?_) els 0 st sz tok hsz (fun i e h => by rw [Nat.zero_add]; exact hel i e h) (by rw [Nat.zero_add]) hst
  · simp only [cmpL, List.mem_cons, List.not_mem_nil, or_false] at hq
    rcases hq with rfl | rfl | rfl | rfl | rfl | rfl <;> simp [cmpL]
  · obtain ⟨sz, rfl⟩ : ∃ s', sz = s' + 1103 := ⟨sz - 1103, by omega⟩
    have hn : n < es.length := (List.getElem?_eq_some_iff.mp he).1
    cases h0 : (esFind rs e.k).isSome with
    | true =>
      have hs : (cmpL (tW b c w).params i0 i1 i2 i3 i4 i5 it a L pa da rp ep es rs).step e st tok = ⟨st.acc ++ [.int e.k e.t], st.aep + 1, cmSet tok (.int e.k e.t) st.lo⟩ := by simp only [cmpL, h0]
      have hd : (cmpL (tW b c w).params i0 i1 i2 i3 i4 i5 it a L pa da rp ep es rs).sdl e st tok = 0 := by simp only [cmpL, h0]
      have ht : (cmpL (tW b c w).params i0 i1 i2 i3 i4 i5 it a L pa da rp ep es rs).sdt e st tok = 2 := by simp only [cmpL, h0]
      rw [hs, hd, ht]
      refine ⟨by have := hI; simp only [List.length_append, List.length_singleton]; omega, 35, ocmp0 it a L pa da rp ep es rs n st.acc st.aep st.lo e , ⟨fun cc sz tok _ _ => ⟨sKiNext_ok he sz tok, by simp [sKiNext]⟩, fun cc sz tok _ _ => ⟨sHas_ok h0 (notSys (hge (pa + 1103) (by simp))) sz tok, by simp [sHas]⟩, fun cc sz tok _ _ => ⟨sApp_ok (by have := hI; omega) sz tok, by simp [sApp]⟩, trivial⟩, fun k g l code pos pos' kp W gens hsh => ?_⟩
      exact tcmp0 it a L pa da rp ep es rs n st.acc st.aep st.lo e  sz tok k g l code pos pos' kp W gens
    | false =>
      have hs : (cmpL (tW b c w).params i0 i1 i2 i3 i4 i5 it a L pa da rp ep es rs).step e st tok = ⟨st.acc, st.aep, cmSet tok (.int e.k e.t) st.lo⟩ := by simp only [cmpL, h0]
      have hd : (cmpL (tW b c w).params i0 i1 i2 i3 i4 i5 it a L pa da rp ep es rs).sdl e st tok = 0 := by simp only [cmpL, h0]
      have ht : (cmpL (tW b c w).params i0 i1 i2 i3 i4 i5 it a L pa da rp ep es rs).sdt e st tok = 2 := by simp only [cmpL, h0]
      rw [hs, hd, ht]
      refine ⟨Nat.le_succ_of_le hI, 30, ocmp1 it a L pa da rp ep es rs n st.acc st.aep st.lo e , ⟨fun cc sz tok _ _ => ⟨sKiNext_ok he sz tok, by simp [sKiNext]⟩, fun cc sz tok _ _ => ⟨sHas_ok h0 (notSys (hge (pa + 1103) (by simp))) sz tok, by simp [sHas]⟩, trivial⟩, fun k g l code pos pos' kp W gens hsh => ?_⟩
      exact tcmp1 it a L pa da rp ep es rs n st.acc st.aep st.lo e  sz tok k g l code pos pos' kp W gens
  · subst hl
    obtain ⟨sz, rfl⟩ : ∃ s', sz = s' + 1103 := ⟨sz - 1103, by omega⟩
    refine ⟨7, ocmpE it a L pa da rp ep es rs els.length st.acc st.aep st.lo, ⟨fun cc sz tok _ _ => ⟨sKiEnd_ok (by rw [← hels]; simp) sz tok, by simp [sKiEnd]⟩, trivial⟩, fun k g l code pos pos' kp W gens hsh => ?_⟩
    exact ecmp it a L pa da rp ep es rs els.length st.acc st.aep st.lo sz tok k g l code pos pos' kp W gens
  · simp only [cmpL, List.mem_cons, List.not_mem_nil, or_false] at hq
    rcases hq with rfl | rfl | rfl <;> simp [cmpL]
  · simp only [cmpL, List.mem_cons, List.not_mem_nil, or_false] at hq
    rcases hq with rfl | rfl | rfl | rfl | rfl | rfl <;> simp [cmpL]
end Mine
namespace Mine
open PySem PySem.W
/-- a summary from a run that turns the tokens alone, and then the library's rules -/
theorem Summ.ofPreT {p : Program} {w : World} {K : Nat → Option Obj} {S : Summ} {sz tok : Nat} (dt0 : Nat) (ini : List (Nat × Obj)) (X : Sem Fin) (n : Nat) (ops : List Op) (N : Nat)
    (hg : S.newg = []) (hfa : S.facts = []) (hini : S.pre.map (·.2) = ini) (hN : ini.length = N) (nd : (ini.map (·.1)).Nodup) (hK' : ∀ q ∈ ini, K q.1 = none) (hi : iniOk ini .nil 0 = true)
    (ok : OpsOk (mdl p w) K ops)
    (e : ∀ (k : Result → Sem Fin) (g : Bool) (l : List Value) (code : Code) (pos pos' : Pos) (kp : List Value) (W : List (Code × Pos)) (gens : List GenState), S.shape ((code, pos) :: W) = true →
      chk (tR p w K W n ops (mkT ini) N sz gens tok [] (tD S.code) S.code pos' [.ret k none g l code pos kp] [] []) (mids N) =
      chk' (tR p w K W n ops (mkT ini) N sz gens tok [] (tD S.code) S.code pos' [.ret k none g l code pos kp] [] [])
        (X, S.code, [.ret k none g l code pos kp], sz, tok + dt0, gens, ini.map some))
    (H : ∀ s : Shared, (∀ q ∈ S.pre, s.heap.get? q.2.1 = some q.2.2) → s.heap.objs.size = sz → s.toks = tok + dt0 → ∃ h' : Heap,
      (∀ A : Around, A.handled = none → wpAny (model p w) A X (fun fin s' => ∃ f, fin = .done f ∧ S.res = .ok f ∧ s' = { s with heap := h', toks := tok + S.dtok }) (fun e s' => S.res = .error e ∧ s' = { s with heap := h', toks := tok + S.dtok }) s) ∧
      h'.objs.size = S.dsz.getD 0 + sz + S.dl ∧ (∀ q ∈ S.post, h'.get? q.2.1 = some q.2.2) ∧ (∀ q ∈ S.new, h'.get? (sz + q.1) = some q.2) ∧
      ∀ b o, s.heap.get? b = some o → (∀ q ∈ S.post, q.2.1 ≠ b) → h'.get? b = some o) : S.Valid (mdl p w) K sz tok := by
  intro s k g l code pos pos' kp st hK hpre hpo hne1 hne' hs ht hb hsh
  obtain ⟨h, ⟨gens⟩, d, toks, os⟩ := s
  replace ht : toks = tok := ht
  subst ht hini hN
  obtain ⟨out, h1, e1, C, c1, c2, c3, c4⟩ := go (d := d) (os := os) (bot := st) rfl hb hK hK' (fun q hq => by
      obtain ⟨x, hx, rfl⟩ := List.mem_map.mp hq
      exact hpre x hx) nd (fun x hx => absurd hx (List.not_mem_nil)) hs rfl hi ok (e k g l code pos pos' kp (st.map Frame.where_) gens hsh)
  simp only [mids, Prod.mk.injEq] at e1
  obtain ⟨e1, e2, e3, e4, e5, e6, e7⟩ := e1
  rw [tD_eq] at C
  rw [e1, e2, e3, e5, e6] at C
  have hini : ∀ q ∈ S.pre, h1.get? q.2.1 = some q.2.2 := fun q hq => by
    have : some q.2 ∈ (S.pre.map (·.2)).map some := List.mem_map.mpr ⟨q.2, List.mem_map.mpr ⟨q, hq, rfl⟩, rfl⟩
    rw [← e7] at this
    obtain ⟨i, _, hi⟩ := List.mem_map.mp this
    exact c2 i q.2.1 q.2.2 hi
  have keep : ∀ b o, h.get? b = some o → h1.get? b = some o := fun b o hb' => by
    by_cases hm : b ∈ (S.pre.map (·.2)).map (·.1)
    · obtain ⟨x, hx, rfl⟩ := List.mem_map.mp hm
      obtain ⟨q, hq, rfl⟩ := List.mem_map.mp hx
      have := hpre q hq
      rw [show (Shared.heap ⟨h, ⟨gens⟩, d, toks, os⟩).get? q.2.1 = h.get? q.2.1 from rfl, hb'] at this
      cases this
      exact hini q hq
    · exact c4 b o hb' hm
  obtain ⟨h', w1, w2, w3, w4, w5⟩ := H ⟨h1, ⟨gens⟩, d, toks + dt0, os⟩ hini (c1.trans e4) rfl
  have C2 := comes_tree (c := S.code) (code := code) (k := k) (g := g) (l := l) (kp := kp) (pos := pos) (pos' := out.pos) hb w1
  refine ⟨h', ?_, w2, w3, w4, (by rw [hfa]; exact fun _ z => nomatch z), fun b o hb' hn => w5 b o (keep b o hb') hn⟩
  rw [hg]
  have C3 := C.trans C2
  simpa using C3
/-- the end of len -/
noncomputable def lenX (n : Int) : Sem PySem.Fin := do
  if n < 0 then rule "len.negative"; raiseError "ValueError" "__len__() should return >= 0"
  if n ≥ 2 ^ 63 then
    rule "len.overflow"; raiseError "OverflowError" "cannot fit 'int' into an index-sized integer"
  retInt n
end Mine
lay_quick Mine.lenX
namespace Mine
open PySem PySem.W
noncomputable abbrev tLenX := PySem.W.Fast.tw6974716749724759948
theorem tLenX_eq : tLenX = lenX := PySem.W.Fast.te6974716749724759948.symm
variable {b c : Bool} {w : World}
/-- len of a Counter -/
noncomputable def sLenC (i d dd : Nat) (es : List E) (ep tok : Nat) : Summ :=
  { code := .builtin "len" ⟨[.ref d], []⟩, res := .ok (.ret (.int (eln es : Int) (tok + 1))), pre := [(i, d, dObj clsC (some dd) es ep)], dtok := 2 }
theorem lenX_any {p : Program} {A : Around} {EE : Value → Shared → Prop} {s : Shared} {n : Nat} {Q : PySem.Fin → Shared → Prop} (hn : n ≤ 8) (h : Q (Fin.done (.ret (.int (n : Int) s.toks))) { s with toks := s.toks + 1 }) : wpAny (model p w) A (lenX n) Q EE s := by
  unfold lenX
  rw [if_neg (by omega), if_neg (by omega)]
  exact wpAny_bind (wpAny_mkInt (wpAny_pure h))
theorem sLenC_run (d dd ep : Nat) (es : List E) (sz tok : Nat) (k : Result → Sem PySem.Fin) (g : Bool) (l : List Value) (code : Code) (pos pos' : Pos) (kp : List Value) (W : List (Code × Pos)) (gens : List GenState) :
    chk (tR tP (tW b c w) (KK (tW b c w)) W 12 [.s 0, .k 3, .s 0, .k 0, .s 0] (mkT [(d + 1103, dObj clsC (some dd) es ep)]) 1 sz gens tok [] (tD (.builtin "len" ⟨[.ref (d + 1103)], []⟩)) (.builtin "len" ⟨[.ref (d + 1103)], []⟩) pos' [.ret k none g l code pos kp] [] []) (mids 1) =
    chk' (tR tP (tW b c w) (KK (tW b c w)) W 12 [.s 0, .k 3, .s 0, .k 0, .s 0] (mkT [(d + 1103, dObj clsC (some dd) es ep)]) 1 sz gens tok [] (tD (.builtin "len" ⟨[.ref (d + 1103)], []⟩)) (.builtin "len" ⟨[.ref (d + 1103)], []⟩) pos' [.ret k none g l code pos kp] [] [])
      (tLenX (eln es : Int), .builtin "len" ⟨[.ref (d + 1103)], []⟩, [.ret k none g l code pos kp], sz, tok + 1, gens, [(d + 1103, dObj clsC (some dd) es ep)].map some) := by
  kernel_rfl
theorem sLenC_ok {i d dd : Nat} {es : List E} {ep : Nat} (h8 : es.length ≤ 8) (hd : 1103 ≤ d) (sz tok : Nat) : (sLenC i d dd es ep tok).Valid (mdl tP (tW b c w)) (KK (tW b c w)) sz tok := by
  obtain ⟨d, rfl⟩ : ∃ d', d = d' + 1103 := ⟨d - 1103, by omega⟩
  refine Summ.ofPreT 1 [(d + 1103, dObj clsC (some dd) es ep)] (tLenX (eln es : Int)) 12 [.s 0, .k 3, .s 0, .k 0, .s 0] 1 rfl rfl rfl rfl (by simp) (fun q hq => by rw [List.mem_singleton.mp hq]; exact KK_none hd) rfl trivial
    (fun k g l code pos pos' kp W gens _ => sLenC_run d dd ep es sz tok k g l code pos pos' kp W gens) fun s hpre hs ht => ⟨s.heap, fun A hA => ?_, by rw [hs]; exact (Nat.zero_add _).symm, (fun q hq => nomatch hq), (fun q hq => nomatch hq), fun b o hb _ => hb⟩
  rw [tLenX_eq]
  refine lenX_any (by rw [eln_eq]; exact h8) ⟨_, rfl, ?_, ?_⟩
  · rw [ht]; rfl
  · rw [ht]; rfl
end Mine
namespace Mine
open PySem PySem.W
noncomputable def itemsO (d : Nat) : Obj := ⟨.type "dict_items", none, .fields ⟨[.ref d]⟩, #[]⟩
noncomputable def valuesO (d : Nat) : Obj := ⟨.type "dict_values", none, .fields ⟨[.ref d]⟩, #[]⟩
noncomputable def tch : List E → Nat
  | [] => 0
  | _ :: _ => 2
noncomputable abbrev W1 (a3 : Args) (p3 : Pos) : List (Code × Pos) := [(.builtin "claim.caller" a3, p3)]
/-- a for loop that waits in the law's body -/
noncomputable def shFn1 : List (Code × Pos) → Bool
  | [(.func .., _), (.builtin id _, _)] => id == "claim.caller"
  | _ => false
theorem shFn1_spec {code : Code} {pos : Pos} {W : List (Code × Pos)} (h : shFn1 ((code, pos) :: W) = true) : ∃ b1 e1 a3 p3, code = .func b1 e1 ∧ W = W1 a3 p3 := by
  unfold shFn1 at h
  split at h
  · rename_i heq
    simp only [List.cons.injEq, Prod.mk.injEq] at heq
    obtain ⟨⟨rfl, rfl⟩, rfl⟩ := heq
    have := eq_of_beq h
    subst this
    exact ⟨_, _, _, _, rfl, rfl⟩
  · cases h
end Mine
namespace Mine
open PySem PySem.W
variable {b c : Bool} {w : World}
noncomputable def oPT (c : Bool) (P : Params) (it Lst tu pa tw n da dw rp rp' ep aep' zc dc : Nat) (xs : List Value) (es rs rs' : List E) (y0 : Int × Nat) (vc : Nat × Value) (ys accs : List (Int × Nat)) (s0 t0 : Nat) : List Op := match rs, c with
  | r0 :: rr, true => [.s 0, .k 0, .s 0, .a (fun _ _ _ => sLiNext 0 1 it Lst n xs 0 (.ref tu)), .s 0, .s 2, .s 2, .s 2, .k 0, .s 2, .s 11, .s 11, .k 0, .s 11, .s 11, .s 11, .s 2, .s 11, .s 11, .s 11, .k 0, .s 11, .s 11, .s 11, .s 2, .s 11, .s 11, .s 11, .k 0, .s 11, .s 11, .s 11, .s 2, .s 11, .s 11, .s 13, .s 4, .s 4, .s 3, .s 3, .k 1, .s 4, .k 0, .s 7, .k 2, .s 3, .k 0, .s 8, .k 2, .s 4, .s 7, .k 2, .s 7, .k 2, .s 7, .k 2, .s 7, .s 9, .k 0, .s 7, .k 0, .s 7, .s 7, .k 2, .s 15, .s 15, .k 0, .s 15, .s 15, .s 15, .s 15, .s 15, .m (fun _ _ => mExt 14 (s0 + 1113) (s0 + 1112) .none (itemsO (pa + 1103)) true), .s 14, .s 14, .k 0, .s 14, .s 14, .s 7, .s 7, .s 16, .s 14, .s 14, .s 14, .s 15, .s 15, .s 15, .s 15, .s 15, .s 15, .a (fun _ sz _ => sItems 15 16 7 (s0 + 1113) (s0 + 1114) (pa + 1103) 2 clsC (some da) (r0 :: rr) rp .none .none sz), .k 1, .s 3, .s 8, .k 2, .s 8, .k 2, .s 8, .k 2, .s 8, .s 10, .k 0, .s 8, .k 0, .s 8, .s 8, .k 2, .s 18, .s 18, .k 0, .s 18, .s 18, .s 18, .s 18, .s 18, .m (fun _ _ => mExt 17 (((r0 :: rr).length + (s0 + 1115)) + 3) (((r0 :: rr).length + (s0 + 1115)) + 2) .none (itemsO (tw + 1103)) true), .s 17, .s 17, .k 0, .s 17, .s 17, .s 8, .s 8, .s 19, .s 17, .s 17, .s 17, .s 18, .s 18, .s 18, .s 18, .s 18, .s 18, .a (fun _ sz _ => sItems 18 19 8 (((r0 :: rr).length + (s0 + 1115)) + 3) (((r0 :: rr).length + (s0 + 1115)) + 4) (tw + 1103) 2 clsC (some dw) rs' rp' .none .none sz), .s 15, .s 18, .s 15, .k 0, .s 15, .a (fun _ _ _ => sLsCmp "list.__ne__" 15 18 (s0 + 1113) (((r0 :: rr).length + (s0 + 1115)) + 3) (refs (s0 + 1115) (r0 :: rr)) (refs (((r0 :: rr).length + (s0 + 1115)) + 5) rs') (2 + (r0 :: rr).length) (2 + rs'.length) [(1, tupF (s0 + 1115) (r0 :: rr)), (0, tupF (((r0 :: rr).length + (s0 + 1115)) + 5) rs')] false), .k 3, .s 4, .s 7, .k 2, .s 7, .k 2, .s 7, .k 2, .s 7, .s 9, .k 0, .s 7, .k 0, .s 7, .s 7, .k 2, .s 21, .s 21, .k 0, .s 21, .s 21, .s 21, .s 21, .s 21, .m (fun _ _ => mExt 20 ((rs'.length + ((r0 :: rr).length + (s0 + 1115) + 5)) + 3) ((rs'.length + ((r0 :: rr).length + (s0 + 1115) + 5)) + 2) .none (valuesO (pa + 1103)) true), .s 20, .s 20, .k 0, .s 20, .s 20, .s 7, .s 7, .s 22, .s 20, .s 20, .s 20, .s 21, .s 21, .s 21, .s 21, .s 21, .s 21, .a (fun _ _ _ => sViList 21 22 7 ((rs'.length + ((r0 :: rr).length + (s0 + 1115) + 5)) + 3) ((rs'.length + ((r0 :: rr).length + (s0 + 1115) + 5)) + 4) (pa + 1103) 2 clsC (some da) (r0 :: rr) rp), .s 21, .s 23, .s 21, .k 0, .s 21, .a (fun _ sz _ => sLsAdd 21 23 ((rs'.length + ((r0 :: rr).length + (s0 + 1115) + 5)) + 3) ((rs'.length + ((r0 :: rr).length + (s0 + 1115) + 5)) + 7) ((r0 :: rr).map fVi) [.int 1 (t0 + 1)] (nvs (y0 :: ys)) (2 + (r0 :: rr).length) 0 sz), .k 0, .s 24, .s 24, .k 0, .s 24, .s 25, .a (fun _ _ _ => sminL 25 26 ((rs'.length + ((r0 :: rr).length + (s0 + 1115) + 5)) + 9) ((rs'.length + ((r0 :: rr).length + (s0 + 1115) + 5)) + 10) 0 y0 ys (fun n => liObj ((rs'.length + ((r0 :: rr).length + (s0 + 1115) + 5)) + 8) n) (liEnd (liObj ((rs'.length + ((r0 :: rr).length + (s0 + 1115) + 5)) + 8) (y0 :: ys).length)) [((rs'.length + ((r0 :: rr).length + (s0 + 1115) + 5)) + 8, lsObj (nvs (y0 :: ys)) 0)] 24), .k 0, .a (fun cc _ _ => sCmp "int.__lt__" (minV ys y0).1 1 false cc), .k 1, .s 4, .k 1, .s 27, .s 27, .k 0, .s 27, .s 27, .s 27, .s 27, .s 27, .m (fun _ _ => mExt 7 ((rs'.length + ((r0 :: rr).length + (s0 + 1115) + 5)) + 13) (pa + 1103) .none (dObj clsC (some da) (r0 :: rr) rp) false), .s 7, .k 2, .s 7, .k 3, .s 7, .k 0, .s 7, .s 7, .k 0, .s 7, .s 7, .s 28, .s 7, .k 2, .s 7, .k 0, .s 7, .k 0, .a (fun _ _ tok => sLenC 7 (pa + 1103) da (r0 :: rr) rp tok), .s 27, .s 27, .s 27, .s 27, .s 27, .s 27, .a (fun _ _ _ => sKiList 27 28 7 ((rs'.length + ((r0 :: rr).length + (s0 + 1115) + 5)) + 13) ((rs'.length + ((r0 :: rr).length + (s0 + 1115) + 5)) + 14) (pa + 1103) (tch (r0 :: rr)) clsC (some da) (r0 :: rr) rp), .s 5, .s 6, .s 6, .k 0, .s 6, .s 6, .s 6, .s 6, .s 29, .k 0, .a (fun _ _ _ => ((cmpL P 29 6 30 31 4 7 ((rs'.length + ((r0 :: rr).length + (s0 + 1115) + 5)) + 17) ((rs'.length + ((r0 :: rr).length + (s0 + 1115) + 5)) + 18) ((rs'.length + ((r0 :: rr).length + (s0 + 1115) + 5)) + 19) pa da rp ep es (r0 :: rr)).T 0 es.length ⟨[], 0, none⟩ ⟨nvs accs, aep', some vc⟩ zc dc).at ((rs'.length + ((r0 :: rr).length + (s0 + 1115) + 5)) + 20) (t0 + 5)), .s 31, .s 31, .s 31, .s 27, .s 30, .s 27, .k 0, .s 27, .a (fun cc _ _ => sLsCmp "list.__ne__" 27 30 (argRef cc 0) (argRef cc 1) ((r0 :: rr).map fKi) (nvs accs) (tch (r0 :: rr) + (r0 :: rr).length) aep' [] false)]
  | r0 :: rr, false => [.s 0, .k 0, .s 0, .a (fun _ _ _ => sLiNext 0 1 it Lst n xs 0 (.ref tu)), .s 0, .s 2, .s 2, .s 2, .k 0, .s 2, .s 11, .s 11, .k 0, .s 11, .s 11, .s 11, .s 2, .s 11, .s 11, .s 11, .k 0, .s 11, .s 11, .s 11, .s 2, .s 11, .s 11, .s 11, .k 0, .s 11, .s 11, .s 11, .s 2, .s 11, .s 11, .s 13, .s 4, .s 4, .s 3, .s 3, .k 1, .s 4, .k 0, .s 7, .k 2, .s 3, .k 0, .s 8, .k 2, .s 4, .s 7, .k 2, .s 7, .k 2, .s 7, .k 2, .s 7, .s 9, .k 0, .s 7, .k 0, .s 7, .s 7, .k 2, .s 15, .s 15, .k 0, .s 15, .s 15, .s 15, .s 15, .s 15, .m (fun _ _ => mExt 14 (s0 + 1113) (s0 + 1112) .none (itemsO (pa + 1103)) true), .s 14, .s 14, .k 0, .s 14, .s 14, .s 7, .s 7, .s 16, .s 14, .s 14, .s 14, .s 15, .s 15, .s 15, .s 15, .s 15, .s 15, .a (fun _ sz _ => sItems 15 16 7 (s0 + 1113) (s0 + 1114) (pa + 1103) 2 clsC (some da) (r0 :: rr) rp .none .none sz), .k 1, .s 3, .s 8, .k 2, .s 8, .k 2, .s 8, .k 2, .s 8, .s 10, .k 0, .s 8, .k 0, .s 8, .s 8, .k 2, .s 18, .s 18, .k 0, .s 18, .s 18, .s 18, .s 18, .s 18, .m (fun _ _ => mExt 17 (((r0 :: rr).length + (s0 + 1115)) + 3) (((r0 :: rr).length + (s0 + 1115)) + 2) .none (itemsO (tw + 1103)) true), .s 17, .s 17, .k 0, .s 17, .s 17, .s 8, .s 8, .s 19, .s 17, .s 17, .s 17, .s 18, .s 18, .s 18, .s 18, .s 18, .s 18, .a (fun _ sz _ => sItems 18 19 8 (((r0 :: rr).length + (s0 + 1115)) + 3) (((r0 :: rr).length + (s0 + 1115)) + 4) (tw + 1103) 2 clsC (some dw) rs' rp' .none .none sz), .s 15, .s 18, .s 15, .k 0, .s 15, .a (fun _ _ _ => sLsCmp "list.__ne__" 15 18 (s0 + 1113) (((r0 :: rr).length + (s0 + 1115)) + 3) (refs (s0 + 1115) (r0 :: rr)) (refs (((r0 :: rr).length + (s0 + 1115)) + 5) rs') (2 + (r0 :: rr).length) (2 + rs'.length) [(1, tupF (s0 + 1115) (r0 :: rr)), (0, tupF (((r0 :: rr).length + (s0 + 1115)) + 5) rs')] false), .k 3, .s 4, .s 7, .k 2, .s 7, .k 2, .s 7, .k 2, .s 7, .s 9, .k 0, .s 7, .k 0, .s 7, .s 7, .k 2, .s 21, .s 21, .k 0, .s 21, .s 21, .s 21, .s 21, .s 21, .m (fun _ _ => mExt 20 ((rs'.length + ((r0 :: rr).length + (s0 + 1115) + 5)) + 3) ((rs'.length + ((r0 :: rr).length + (s0 + 1115) + 5)) + 2) .none (valuesO (pa + 1103)) true), .s 20, .s 20, .k 0, .s 20, .s 20, .s 7, .s 7, .s 22, .s 20, .s 20, .s 20, .s 21, .s 21, .s 21, .s 21, .s 21, .s 21, .a (fun _ _ _ => sViList 21 22 7 ((rs'.length + ((r0 :: rr).length + (s0 + 1115) + 5)) + 3) ((rs'.length + ((r0 :: rr).length + (s0 + 1115) + 5)) + 4) (pa + 1103) 2 clsC (some da) (r0 :: rr) rp), .s 21, .s 23, .s 21, .k 0, .s 21, .a (fun _ sz _ => sLsAdd 21 23 ((rs'.length + ((r0 :: rr).length + (s0 + 1115) + 5)) + 3) ((rs'.length + ((r0 :: rr).length + (s0 + 1115) + 5)) + 7) ((r0 :: rr).map fVi) [.int 1 (t0 + 1)] (nvs (y0 :: ys)) (2 + (r0 :: rr).length) 0 sz), .k 0, .s 24, .s 24, .k 0, .s 24, .s 25, .a (fun _ _ _ => sminL 25 26 ((rs'.length + ((r0 :: rr).length + (s0 + 1115) + 5)) + 9) ((rs'.length + ((r0 :: rr).length + (s0 + 1115) + 5)) + 10) 0 y0 ys (fun n => liObj ((rs'.length + ((r0 :: rr).length + (s0 + 1115) + 5)) + 8) n) (liEnd (liObj ((rs'.length + ((r0 :: rr).length + (s0 + 1115) + 5)) + 8) (y0 :: ys).length)) [((rs'.length + ((r0 :: rr).length + (s0 + 1115) + 5)) + 8, lsObj (nvs (y0 :: ys)) 0)] 24), .k 0, .a (fun cc _ _ => sCmp "int.__lt__" (minV ys y0).1 1 false cc), .k 1, .s 4, .k 1, .s 27, .s 27, .k 0, .s 27, .s 27, .s 27, .s 27, .s 27, .m (fun _ _ => mExt 7 ((rs'.length + ((r0 :: rr).length + (s0 + 1115) + 5)) + 13) (pa + 1103) .none (dObj clsC (some da) (r0 :: rr) rp) false), .s 7, .k 2, .s 7, .k 3, .s 7, .k 0, .s 7, .s 7, .k 0, .s 7, .s 7, .s 28, .s 7, .k 2, .s 7, .k 0, .s 7, .k 0, .a (fun _ _ tok => sLenC 7 (pa + 1103) da (r0 :: rr) rp tok), .s 27, .s 27, .s 27, .s 27, .s 27, .s 27, .a (fun _ _ _ => sKiList 27 28 7 ((rs'.length + ((r0 :: rr).length + (s0 + 1115) + 5)) + 13) ((rs'.length + ((r0 :: rr).length + (s0 + 1115) + 5)) + 14) (pa + 1103) (tch (r0 :: rr)) clsC (some da) (r0 :: rr) rp), .s 5, .s 6, .s 6, .k 0, .s 6, .s 6, .s 6, .s 6, .s 29, .k 0, .s 29, .s 29, .k 0, .s 29, .s 29, .a (fun _ _ _ => ((cmpL P 29 6 30 31 4 7 ((rs'.length + ((r0 :: rr).length + (s0 + 1115) + 5)) + 17) ((rs'.length + ((r0 :: rr).length + (s0 + 1115) + 5)) + 18) ((rs'.length + ((r0 :: rr).length + (s0 + 1115) + 5)) + 19) pa da rp ep es (r0 :: rr)).T 0 es.length ⟨[], 0, none⟩ ⟨nvs accs, aep', some vc⟩ zc dc).at ((rs'.length + ((r0 :: rr).length + (s0 + 1115) + 5)) + 20) (t0 + 5)), .s 31, .s 31, .s 31, .s 27, .s 30, .s 27, .k 0, .s 27, .a (fun cc _ _ => sLsCmp "list.__ne__" 27 30 (argRef cc 0) (argRef cc 1) ((r0 :: rr).map fKi) (nvs accs) (tch (r0 :: rr) + (r0 :: rr).length) aep' [] false)]
  | [], true => [.s 0, .k 0, .s 0, .a (fun _ _ _ => sLiNext 0 1 it Lst n xs 0 (.ref tu)), .s 0, .s 2, .s 2, .s 2, .k 0, .s 2, .s 11, .s 11, .k 0, .s 11, .s 11, .s 11, .s 2, .s 11, .s 11, .s 11, .k 0, .s 11, .s 11, .s 11, .s 2, .s 11, .s 11, .s 11, .k 0, .s 11, .s 11, .s 11, .s 2, .s 11, .s 11, .s 13, .s 4, .s 4, .s 3, .s 3, .k 1, .s 4, .k 0, .s 7, .k 2, .s 3, .k 0, .s 8, .k 2, .s 4, .s 7, .k 2, .s 7, .k 2, .s 7, .k 2, .s 7, .s 9, .k 0, .s 7, .k 0, .s 7, .s 7, .k 2, .s 15, .s 15, .k 0, .s 15, .s 15, .s 15, .s 15, .s 15, .m (fun _ _ => mExt 14 (s0 + 1113) (s0 + 1112) .none (itemsO (pa + 1103)) true), .s 14, .s 14, .k 0, .s 14, .s 14, .s 7, .s 7, .s 16, .s 14, .s 14, .s 14, .s 15, .s 15, .s 15, .s 15, .s 15, .s 15, .a (fun _ sz _ => sItems 15 16 7 (s0 + 1113) (s0 + 1114) (pa + 1103) 2 clsC (some da) ([] : List E) rp .none .none sz), .k 1, .s 3, .s 8, .k 2, .s 8, .k 2, .s 8, .k 2, .s 8, .s 10, .k 0, .s 8, .k 0, .s 8, .s 8, .k 2, .s 18, .s 18, .k 0, .s 18, .s 18, .s 18, .s 18, .s 18, .m (fun _ _ => mExt 17 ((([] : List E).length + (s0 + 1115)) + 3) ((([] : List E).length + (s0 + 1115)) + 2) .none (itemsO (tw + 1103)) true), .s 17, .s 17, .k 0, .s 17, .s 17, .s 8, .s 8, .s 19, .s 17, .s 17, .s 17, .s 18, .s 18, .s 18, .s 18, .s 18, .s 18, .a (fun _ sz _ => sItems 18 19 8 ((([] : List E).length + (s0 + 1115)) + 3) ((([] : List E).length + (s0 + 1115)) + 4) (tw + 1103) 2 clsC (some dw) rs' rp' .none .none sz), .s 15, .s 18, .s 15, .k 0, .s 15, .a (fun _ _ _ => sLsCmp "list.__ne__" 15 18 (s0 + 1113) ((([] : List E).length + (s0 + 1115)) + 3) (refs (s0 + 1115) ([] : List E)) (refs ((([] : List E).length + (s0 + 1115)) + 5) rs') (2 + ([] : List E).length) (2 + rs'.length) [(1, tupF (s0 + 1115) ([] : List E)), (0, tupF ((([] : List E).length + (s0 + 1115)) + 5) rs')] false), .k 3, .s 4, .s 7, .k 2, .s 7, .k 2, .s 7, .k 2, .s 7, .s 9, .k 0, .s 7, .k 0, .s 7, .s 7, .k 2, .s 21, .s 21, .k 0, .s 21, .s 21, .s 21, .s 21, .s 21, .m (fun _ _ => mExt 20 ((rs'.length + (([] : List E).length + (s0 + 1115) + 5)) + 3) ((rs'.length + (([] : List E).length + (s0 + 1115) + 5)) + 2) .none (valuesO (pa + 1103)) true), .s 20, .s 20, .k 0, .s 20, .s 20, .s 7, .s 7, .s 22, .s 20, .s 20, .s 20, .s 21, .s 21, .s 21, .s 21, .s 21, .s 21, .a (fun _ _ _ => sViList 21 22 7 ((rs'.length + (([] : List E).length + (s0 + 1115) + 5)) + 3) ((rs'.length + (([] : List E).length + (s0 + 1115) + 5)) + 4) (pa + 1103) 2 clsC (some da) ([] : List E) rp), .s 21, .s 23, .s 21, .k 0, .s 21, .a (fun _ sz _ => sLsAdd 21 23 ((rs'.length + (([] : List E).length + (s0 + 1115) + 5)) + 3) ((rs'.length + (([] : List E).length + (s0 + 1115) + 5)) + 7) (([] : List E).map fVi) [.int 1 (t0 + 1)] (nvs (y0 :: ys)) (2 + ([] : List E).length) 0 sz), .k 0, .s 24, .s 24, .k 0, .s 24, .s 25, .a (fun _ _ _ => sminL 25 26 ((rs'.length + (([] : List E).length + (s0 + 1115) + 5)) + 9) ((rs'.length + (([] : List E).length + (s0 + 1115) + 5)) + 10) 0 y0 ys (fun n => liObj ((rs'.length + (([] : List E).length + (s0 + 1115) + 5)) + 8) n) (liEnd (liObj ((rs'.length + (([] : List E).length + (s0 + 1115) + 5)) + 8) (y0 :: ys).length)) [((rs'.length + (([] : List E).length + (s0 + 1115) + 5)) + 8, lsObj (nvs (y0 :: ys)) 0)] 24), .k 0, .a (fun cc _ _ => sCmp "int.__lt__" (minV ys y0).1 1 false cc), .k 1, .s 4, .k 1, .s 27, .s 27, .k 0, .s 27, .s 27, .s 27, .s 27, .s 27, .m (fun _ _ => mExt 7 ((rs'.length + (([] : List E).length + (s0 + 1115) + 5)) + 13) (pa + 1103) .none (dObj clsC (some da) ([] : List E) rp) false), .s 7, .k 2, .s 7, .k 3, .s 7, .k 0, .s 7, .s 7, .k 0, .s 7, .s 7, .s 28, .s 7, .k 2, .s 7, .k 0, .s 7, .k 0, .a (fun _ _ tok => sLenC 7 (pa + 1103) da ([] : List E) rp tok), .a (fun _ _ _ => sKiList 27 28 7 ((rs'.length + (([] : List E).length + (s0 + 1115) + 5)) + 13) ((rs'.length + (([] : List E).length + (s0 + 1115) + 5)) + 14) (pa + 1103) (tch ([] : List E)) clsC (some da) ([] : List E) rp), .s 5, .s 6, .s 6, .k 0, .s 6, .s 6, .s 6, .s 6, .s 29, .k 0, .a (fun _ _ _ => ((cmpL P 29 6 30 31 4 7 ((rs'.length + (([] : List E).length + (s0 + 1115) + 5)) + 17) ((rs'.length + (([] : List E).length + (s0 + 1115) + 5)) + 18) ((rs'.length + (([] : List E).length + (s0 + 1115) + 5)) + 19) pa da rp ep es ([] : List E)).T 0 es.length ⟨[], 0, none⟩ ⟨nvs accs, aep', some vc⟩ zc dc).at ((rs'.length + (([] : List E).length + (s0 + 1115) + 5)) + 20) (t0 + 5)), .s 31, .s 31, .s 31, .s 27, .s 30, .s 27, .k 0, .s 27, .a (fun cc _ _ => sLsCmp "list.__ne__" 27 30 (argRef cc 0) (argRef cc 1) (([] : List E).map fKi) (nvs accs) (tch ([] : List E) + ([] : List E).length) aep' [] false)]
  | [], false => [.s 0, .k 0, .s 0, .a (fun _ _ _ => sLiNext 0 1 it Lst n xs 0 (.ref tu)), .s 0, .s 2, .s 2, .s 2, .k 0, .s 2, .s 11, .s 11, .k 0, .s 11, .s 11, .s 11, .s 2, .s 11, .s 11, .s 11, .k 0, .s 11, .s 11, .s 11, .s 2, .s 11, .s 11, .s 11, .k 0, .s 11, .s 11, .s 11, .s 2, .s 11, .s 11, .s 13, .s 4, .s 4, .s 3, .s 3, .k 1, .s 4, .k 0, .s 7, .k 2, .s 3, .k 0, .s 8, .k 2, .s 4, .s 7, .k 2, .s 7, .k 2, .s 7, .k 2, .s 7, .s 9, .k 0, .s 7, .k 0, .s 7, .s 7, .k 2, .s 15, .s 15, .k 0, .s 15, .s 15, .s 15, .s 15, .s 15, .m (fun _ _ => mExt 14 (s0 + 1113) (s0 + 1112) .none (itemsO (pa + 1103)) true), .s 14, .s 14, .k 0, .s 14, .s 14, .s 7, .s 7, .s 16, .s 14, .s 14, .s 14, .s 15, .s 15, .s 15, .s 15, .s 15, .s 15, .a (fun _ sz _ => sItems 15 16 7 (s0 + 1113) (s0 + 1114) (pa + 1103) 2 clsC (some da) ([] : List E) rp .none .none sz), .k 1, .s 3, .s 8, .k 2, .s 8, .k 2, .s 8, .k 2, .s 8, .s 10, .k 0, .s 8, .k 0, .s 8, .s 8, .k 2, .s 18, .s 18, .k 0, .s 18, .s 18, .s 18, .s 18, .s 18, .m (fun _ _ => mExt 17 ((([] : List E).length + (s0 + 1115)) + 3) ((([] : List E).length + (s0 + 1115)) + 2) .none (itemsO (tw + 1103)) true), .s 17, .s 17, .k 0, .s 17, .s 17, .s 8, .s 8, .s 19, .s 17, .s 17, .s 17, .s 18, .s 18, .s 18, .s 18, .s 18, .s 18, .a (fun _ sz _ => sItems 18 19 8 ((([] : List E).length + (s0 + 1115)) + 3) ((([] : List E).length + (s0 + 1115)) + 4) (tw + 1103) 2 clsC (some dw) rs' rp' .none .none sz), .s 15, .s 18, .s 15, .k 0, .s 15, .a (fun _ _ _ => sLsCmp "list.__ne__" 15 18 (s0 + 1113) ((([] : List E).length + (s0 + 1115)) + 3) (refs (s0 + 1115) ([] : List E)) (refs ((([] : List E).length + (s0 + 1115)) + 5) rs') (2 + ([] : List E).length) (2 + rs'.length) [(1, tupF (s0 + 1115) ([] : List E)), (0, tupF ((([] : List E).length + (s0 + 1115)) + 5) rs')] false), .k 3, .s 4, .s 7, .k 2, .s 7, .k 2, .s 7, .k 2, .s 7, .s 9, .k 0, .s 7, .k 0, .s 7, .s 7, .k 2, .s 21, .s 21, .k 0, .s 21, .s 21, .s 21, .s 21, .s 21, .m (fun _ _ => mExt 20 ((rs'.length + (([] : List E).length + (s0 + 1115) + 5)) + 3) ((rs'.length + (([] : List E).length + (s0 + 1115) + 5)) + 2) .none (valuesO (pa + 1103)) true), .s 20, .s 20, .k 0, .s 20, .s 20, .s 7, .s 7, .s 22, .s 20, .s 20, .s 20, .s 21, .s 21, .s 21, .s 21, .s 21, .s 21, .a (fun _ _ _ => sViList 21 22 7 ((rs'.length + (([] : List E).length + (s0 + 1115) + 5)) + 3) ((rs'.length + (([] : List E).length + (s0 + 1115) + 5)) + 4) (pa + 1103) 2 clsC (some da) ([] : List E) rp), .s 21, .s 23, .s 21, .k 0, .s 21, .a (fun _ sz _ => sLsAdd 21 23 ((rs'.length + (([] : List E).length + (s0 + 1115) + 5)) + 3) ((rs'.length + (([] : List E).length + (s0 + 1115) + 5)) + 7) (([] : List E).map fVi) [.int 1 (t0 + 1)] (nvs (y0 :: ys)) (2 + ([] : List E).length) 0 sz), .k 0, .s 24, .s 24, .k 0, .s 24, .s 25, .a (fun _ _ _ => sminL 25 26 ((rs'.length + (([] : List E).length + (s0 + 1115) + 5)) + 9) ((rs'.length + (([] : List E).length + (s0 + 1115) + 5)) + 10) 0 y0 ys (fun n => liObj ((rs'.length + (([] : List E).length + (s0 + 1115) + 5)) + 8) n) (liEnd (liObj ((rs'.length + (([] : List E).length + (s0 + 1115) + 5)) + 8) (y0 :: ys).length)) [((rs'.length + (([] : List E).length + (s0 + 1115) + 5)) + 8, lsObj (nvs (y0 :: ys)) 0)] 24), .k 0, .a (fun cc _ _ => sCmp "int.__lt__" (minV ys y0).1 1 false cc), .k 1, .s 4, .k 1, .s 27, .s 27, .k 0, .s 27, .s 27, .s 27, .s 27, .s 27, .m (fun _ _ => mExt 7 ((rs'.length + (([] : List E).length + (s0 + 1115) + 5)) + 13) (pa + 1103) .none (dObj clsC (some da) ([] : List E) rp) false), .s 7, .k 2, .s 7, .k 3, .s 7, .k 0, .s 7, .s 7, .k 0, .s 7, .s 7, .s 28, .s 7, .k 2, .s 7, .k 0, .s 7, .k 0, .a (fun _ _ tok => sLenC 7 (pa + 1103) da ([] : List E) rp tok), .a (fun _ _ _ => sKiList 27 28 7 ((rs'.length + (([] : List E).length + (s0 + 1115) + 5)) + 13) ((rs'.length + (([] : List E).length + (s0 + 1115) + 5)) + 14) (pa + 1103) (tch ([] : List E)) clsC (some da) ([] : List E) rp), .s 5, .s 6, .s 6, .k 0, .s 6, .s 6, .s 6, .s 6, .s 29, .k 0, .s 29, .s 29, .k 0, .s 29, .s 29, .a (fun _ _ _ => ((cmpL P 29 6 30 31 4 7 ((rs'.length + (([] : List E).length + (s0 + 1115) + 5)) + 17) ((rs'.length + (([] : List E).length + (s0 + 1115) + 5)) + 18) ((rs'.length + (([] : List E).length + (s0 + 1115) + 5)) + 19) pa da rp ep es ([] : List E)).T 0 es.length ⟨[], 0, none⟩ ⟨nvs accs, aep', some vc⟩ zc dc).at ((rs'.length + (([] : List E).length + (s0 + 1115) + 5)) + 20) (t0 + 5)), .s 31, .s 31, .s 31, .s 27, .s 30, .s 27, .k 0, .s 27, .a (fun cc _ _ => sLsCmp "list.__ne__" 27 30 (argRef cc 0) (argRef cc 1) (([] : List E).map fKi) (nvs accs) (tch ([] : List E) + ([] : List E).length) aep' [] false)]
noncomputable def nPT (c : Bool) (rs : List E) : Nat := match rs, c with
  | _ :: _, true => 465
  | _ :: _, false => 475
  | [], true => 458
  | [], false => 468
noncomputable def slPT (P : Params) (it Lst tu pa tw n da dw rp rp' ep : Nat) (f : FrL) (ft : Option (Nat × Value)) (vpart : Option Value) (xs : List Value) (es rs rs' : List E) : List (Nat × Obj) :=
  [(it, liObj Lst n), (Lst, lsObj xs 0), (tu, tupObj [.ref (pa + 1103), .ref (tw + 1103)]), (1104, frL P f ft), (1106, ceObj vpart), (1105, ceObj (some (.ref 1107))), (1107, dObj clsD none es ep), (pa + 1103, dObj clsC (some da) rs rp), (tw + 1103, dObj clsC (some dw) rs' rp'), (da, dObj clsD none [] 0), (dw, dObj clsD none [] 0)]
theorem turnPT (it Lst tu pa tw n da dw rp rp' ep aep' zc dc : Nat) (f : FrL) (ft : Option (Nat × Value)) (vpart : Option Value) (xs : List Value) (es rs rs' : List E) (y0 : Int × Nat) (vc : Nat × Value) (ys accs : List (Int × Nat)) (sz tok : Nat) (k : Result → Sem PySem.Fin) (g : Bool) (l : List Value) (b1 : List Stmt) (e1 : Env) (pos pos' : Pos) (kp : List Value) (a3 : Args) (p3 : Pos) (gens : List GenState) :
    chk (tR tP (tW b c w) (KK (tW b c w)) (W1 a3 p3) (nPT c rs) (oPT c (tW b c w).params it Lst tu pa tw n da dw rp rp' ep aep' zc dc xs es rs rs' y0 vc ys accs sz tok) (mkT (slPT (tW b c w).params it Lst tu pa tw n da dw rp rp' ep f ft vpart xs es rs rs')) 11 (sz + 1109) gens tok [] (tD (cPT it)) (cPT it) pos' [.ret k none g l (.func b1 e1) pos kp] [] []) (turns 11) =
    chk' (tR tP (tW b c w) (KK (tW b c w)) (W1 a3 p3) (nPT c rs) (oPT c (tW b c w).params it Lst tu pa tw n da dw rp rp' ep aep' zc dc xs es rs rs' y0 vc ys accs sz tok) (mkT (slPT (tW b c w).params it Lst tu pa tw n da dw rp rp' ep f ft vpart xs es rs rs')) 11 (sz + 1109) gens tok [] (tD (cPT it)) (cPT it) pos' [.ret k none g l (.func b1 e1) pos kp] [] [])
      (tD (cPT it), cPT it, [.ret k none g l (.func b1 e1) pos kp], zc + (rs'.length + (rs.length + (sz + 1115) + 5) + 20) + 2, tok + 5 + dc, appG gens [], (slPT (tW b c w).params it Lst tu pa tw (n + 1) da dw rp rp' ep f (cmSet tok (.ref (tw + 1103)) ft) (some (.ref (pa + 1103))) xs es rs rs').map some) := by
  cases ft <;> cases rs <;> cases b <;> cases c <;> kernel_rfl
/-- what a turn asks -/
structure PTok (P : Params) (it Lst tu pa tw n da dw rp rp' ep aep' zc dc : Nat) (xs : List Value) (es rs rs' : List E) (y0 : Int × Nat) (vc : Nat × Value) (ys accs : List (Int × Nat)) (s0 t0 : Nat) : Prop where
  hx : xs[n]? = some (.ref tu)
  hpa : pa < s0 + 6
  hpa2 : 6 ≤ pa
  htw : tw < s0 + 6
  l1 : rs.length ≤ 8
  l2 : rs'.length ≤ 8
  l3 : es.length ≤ 8
  same : rs.map (fun e => (e.k, e.v)) = rs'.map (fun e => (e.k, e.v))
  ys_ : nvs (y0 :: ys) = rs.map fVi ++ [.int 1 (t0 + 1)]
  min_ : decide ((minV ys y0).1 < 1) = false
  ks_ : rs.map (·.k) = accs.map (·.1)
  go_ : (cmpL P 29 6 30 31 4 7 ((rs'.length + (rs.length + (s0 + 1115) + 5)) + 17) ((rs'.length + (rs.length + (s0 + 1115) + 5)) + 18) ((rs'.length + (rs.length + (s0 + 1115) + 5)) + 19) pa da rp ep es rs).go es ⟨[], 0, none⟩ (t0 + 5) = (⟨nvs accs, aep', some vc⟩, zc, dc)
theorem nvs_ks (es : List E) : es.map fKi = nvs (es.map fun e => (e.k, e.t)) := by
  unfold nvs
  rw [List.map_map]
  rfl
theorem oPT_ok {it Lst tu pa tw n da dw rp rp' ep aep' zc dc : Nat} {xs : List Value} {es rs rs' : List E} {y0 : Int × Nat} {vc : Nat × Value} {ys accs : List (Int × Nat)} {s0 t0 : Nat}
    (H : PTok (tW b c w).params it Lst tu pa tw n da dw rp rp' ep aep' zc dc xs es rs rs' y0 vc ys accs s0 t0) (h1109 : 6 ≤ s0 + 6) : OpsOk (mdl tP (tW b c w)) (KK (tW b c w)) (oPT c (tW b c w).params it Lst tu pa tw n da dw rp rp' ep aep' zc dc xs es rs rs' y0 vc ys accs s0 t0) := by
  obtain ⟨hx, hpa, hpa2, htw, l1, l2, l3, same, ys_, min_, ks_, go_⟩ := H
  have c1 : ∀ cc sz tok, ((fun _ _ _ => sLiNext 0 1 it Lst n xs 0 (.ref tu) : Code → Nat → Nat → Summ) cc sz tok).Valid (mdl tP (tW b c w)) (KK (tW b c w)) sz tok := fun cc sz tok => sLiNext_ok hx sz tok
  have c2 : ∀ sz tok, (sItems 15 16 7 (s0 + 1113) (s0 + 1114) (pa + 1103) 2 clsC (some da) rs rp .none .none sz).Valid (mdl tP (tW b c w)) (KK (tW b c w)) sz tok := fun sz tok => sItems_ok (by omega) (by omega) (by omega) l1 sz tok
  have c3 : ∀ sz tok, (sItems 18 19 8 ((rs.length + (s0 + 1115)) + 3) ((rs.length + (s0 + 1115)) + 4) (tw + 1103) 2 clsC (some dw) rs' rp' .none .none sz).Valid (mdl tP (tW b c w)) (KK (tW b c w)) sz tok := fun sz tok => sItems_ok (by omega) (by omega) (by omega) l2 sz tok
  have c4 : ∀ sz tok, (sLsCmp "list.__ne__" 15 18 (s0 + 1113) ((rs.length + (s0 + 1115)) + 3) (refs (s0 + 1115) rs) (refs ((rs.length + (s0 + 1115)) + 5) rs') (2 + rs.length) (2 + rs'.length) [(1, tupF (s0 + 1115) rs), (0, tupF ((rs.length + (s0 + 1115)) + 5) rs')] false).Valid (mdl tP (tW b c w)) (KK (tW b c w)) sz tok := fun sz tok =>
    sLsNe_ok (rdKV (i := 1) List.mem_cons_self) (rdKV (i := 0) (List.mem_cons_of_mem _ List.mem_cons_self)) (by rw [eqvKV, decide_eq_true same]; rfl) sz tok
  have c5 : ∀ sz tok, (sViList 21 22 7 ((rs'.length + (rs.length + (s0 + 1115) + 5)) + 3) ((rs'.length + (rs.length + (s0 + 1115) + 5)) + 4) (pa + 1103) 2 clsC (some da) rs rp).Valid (mdl tP (tW b c w)) (KK (tW b c w)) sz tok := fun sz tok => sViList_ok (by omega) (by omega) (by omega) l1 sz tok
  have hyl : (nvs (y0 :: ys)).length ≤ 64 := by rw [ys_]; simp; omega
  have c6 : ∀ sz tok, (sLsAdd 21 23 ((rs'.length + (rs.length + (s0 + 1115) + 5)) + 3) ((rs'.length + (rs.length + (s0 + 1115) + 5)) + 7) (rs.map fVi) [.int 1 (t0 + 1)] (nvs (y0 :: ys)) (2 + rs.length) 0 sz).Valid (mdl tP (tW b c w)) (KK (tW b c w)) sz tok := fun sz tok => sLsAdd_ok ys_ hyl sz tok
  have c7 : ∀ sz tok, (sminL 25 26 ((rs'.length + (rs.length + (s0 + 1115) + 5)) + 9) ((rs'.length + (rs.length + (s0 + 1115) + 5)) + 10) 0 y0 ys (fun n => liObj ((rs'.length + (rs.length + (s0 + 1115) + 5)) + 8) n) (liEnd (liObj ((rs'.length + (rs.length + (s0 + 1115) + 5)) + 8) (y0 :: ys).length)) [((rs'.length + (rs.length + (s0 + 1115) + 5)) + 8, lsObj (nvs (y0 :: ys)) 0)] 24).Valid (mdl tP (tW b c w)) (KK (tW b c w)) sz tok := fun sz tok =>
    sminL_ok (srcLi ((rs'.length + (rs.length + (s0 + 1115) + 5)) + 9) ((rs'.length + (rs.length + (s0 + 1115) + 5)) + 8) 0 (y0 :: ys)) (by omega) (fun q hq => by rw [List.mem_singleton.mp hq]; show (rs'.length + (rs.length + (s0 + 1115) + 5)) + 8 ≠ (rs'.length + (rs.length + (s0 + 1115) + 5)) + 9; omega) (fun q hq => by rw [List.mem_singleton.mp hq]; show (rs'.length + (rs.length + (s0 + 1115) + 5)) + 8 ≠ (rs'.length + (rs.length + (s0 + 1115) + 5)) + 10; omega) sz tok
  have c8 : ∀ cc sz tok, (sCmp "int.__lt__" (minV ys y0).1 1 false cc).Valid (mdl tP (tW b c w)) (KK (tW b c w)) sz tok := fun cc sz tok => sLt_ok min_ cc sz tok
  have c9 : ∀ sz tok, (sLenC 7 (pa + 1103) da rs rp tok).Valid (mdl tP (tW b c w)) (KK (tW b c w)) sz tok := fun sz tok => sLenC_ok l1 (by omega) sz tok
  have c10 : ∀ sz tok, (sKiList 27 28 7 ((rs'.length + (rs.length + (s0 + 1115) + 5)) + 13) ((rs'.length + (rs.length + (s0 + 1115) + 5)) + 14) (pa + 1103) (tch rs) clsC (some da) rs rp).Valid (mdl tP (tW b c w)) (KK (tW b c w)) sz tok := fun sz tok => sKiList_ok (by omega) (by omega) (by omega) l1 sz tok
  have c11 : ((cmpL (tW b c w).params 29 6 30 31 4 7 ((rs'.length + (rs.length + (s0 + 1115) + 5)) + 17) ((rs'.length + (rs.length + (s0 + 1115) + 5)) + 18) ((rs'.length + (rs.length + (s0 + 1115) + 5)) + 19) pa da rp ep es rs).T 0 es.length ⟨[], 0, none⟩ ⟨nvs accs, aep', some vc⟩ zc dc).Valid (mdl tP (tW b c w)) (KK (tW b c w)) ((rs'.length + (rs.length + (s0 + 1115) + 5)) + 20) (t0 + 5) := by
    refine Loop.T_ok (rem := es) (cmpL_ok es l3 rfl ?_ ?_ (fun n e h => h) ⟨[], 0, none⟩ (Nat.zero_le _) ((rs'.length + (rs.length + (s0 + 1115) + 5)) + 20) (t0 + 5) (by omega)) (Nat.zero_add _).symm go_
    · simp only [List.nodup_cons, List.mem_cons, List.not_mem_nil, or_false, not_or, not_false_eq_true, List.nodup_nil, and_true]
      refine ⟨⟨?_, ?_, ?_, ?_, ?_⟩, ⟨?_, ?_, ?_, ?_⟩, ⟨?_, ?_, ?_⟩, ⟨?_, ?_⟩, ?_⟩ <;> omega
    · intro x hx
      simp only [List.mem_cons, List.not_mem_nil, or_false] at hx
      rcases hx with rfl | rfl | rfl | rfl | rfl | rfl <;> omega
  have c12 : ∀ cc sz tok, (sLsCmp "list.__ne__" 27 30 (argRef cc 0) (argRef cc 1) (rs.map fKi) (nvs accs) (tch rs + rs.length) aep' [] false).Valid (mdl tP (tW b c w)) (KK (tW b c w)) sz tok := fun cc sz tok => by
    refine sLsNe_ok (xs := (rs.map fun e => (e.k, e.t)).map fun x => .int x.1) (ys := accs.map fun x => .int x.1) (by rw [nvs_ks]; exact rdN) rdN ?_ sz tok
    rw [eqvN, decide_eq_true (by rw [List.map_map]; exact ks_)]
    rfl
  have m1 : ∀ sz tok, (mExt 14 (s0 + 1113) (s0 + 1112) .none (itemsO (pa + 1103)) true).Valid (mdl tP (tW b c w)) (KK (tW b c w)) sz tok := fun sz tok => mExt_ok (by omega) rfl rfl sz tok
  have m2 : ∀ sz tok, (mExt 17 ((rs.length + (s0 + 1115)) + 3) ((rs.length + (s0 + 1115)) + 2) .none (itemsO (tw + 1103)) true).Valid (mdl tP (tW b c w)) (KK (tW b c w)) sz tok := fun sz tok => mExt_ok (by omega) rfl rfl sz tok
  have m3 : ∀ sz tok, (mExt 20 ((rs'.length + (rs.length + (s0 + 1115) + 5)) + 3) ((rs'.length + (rs.length + (s0 + 1115) + 5)) + 2) .none (valuesO (pa + 1103)) true).Valid (mdl tP (tW b c w)) (KK (tW b c w)) sz tok := fun sz tok => mExt_ok (by omega) rfl rfl sz tok
  have m4 : ∀ sz tok, (mExt 7 ((rs'.length + (rs.length + (s0 + 1115) + 5)) + 13) (pa + 1103) .none (dObj clsC (some da) rs rp) false).Valid (mdl tP (tW b c w)) (KK (tW b c w)) sz tok := fun sz tok => mExt_ok (by omega) rfl rfl sz tok
  have all : ∀ rs0, rs0 = rs → OpsOk (mdl tP (tW b c w)) (KK (tW b c w)) (oPT c (tW b c w).params it Lst tu pa tw n da dw rp rp' ep aep' zc dc xs es rs0 rs' y0 vc ys accs s0 t0) := by
    intro rs0 hr
    cases rs0 with
    | nil =>
      subst hr
      cases c
      · exact ⟨fun cc sz tok _ _ => ⟨c1 cc sz tok, List.nodup_nil⟩, m1, fun cc sz tok _ _ => ⟨c2 sz tok, List.nodup_nil⟩, m2, fun cc sz tok _ _ => ⟨c3 sz tok, List.nodup_nil⟩, fun cc sz tok _ _ => ⟨c4 sz tok, List.nodup_nil⟩, m3, fun cc sz tok _ _ => ⟨c5 sz tok, List.nodup_nil⟩, fun cc sz tok _ _ => ⟨c6 sz tok, by simp [sLsAdd]⟩, fun cc sz tok _ _ => ⟨c7 sz tok, List.nodup_nil⟩, fun cc sz tok _ _ => ⟨c8 cc sz tok, List.nodup_nil⟩, m4, fun cc sz tok _ _ => ⟨c9 sz tok, List.nodup_nil⟩, fun cc sz tok _ _ => ⟨c10 sz tok, List.nodup_nil⟩, fun cc sz tok h1 h2 => ⟨Summ.at_ok c11 sz tok h1 h2, List.nodup_nil⟩, fun cc sz tok _ _ => ⟨c12 cc sz tok, List.nodup_nil⟩, trivial⟩
      · exact ⟨fun cc sz tok _ _ => ⟨c1 cc sz tok, List.nodup_nil⟩, m1, fun cc sz tok _ _ => ⟨c2 sz tok, List.nodup_nil⟩, m2, fun cc sz tok _ _ => ⟨c3 sz tok, List.nodup_nil⟩, fun cc sz tok _ _ => ⟨c4 sz tok, List.nodup_nil⟩, m3, fun cc sz tok _ _ => ⟨c5 sz tok, List.nodup_nil⟩, fun cc sz tok _ _ => ⟨c6 sz tok, by simp [sLsAdd]⟩, fun cc sz tok _ _ => ⟨c7 sz tok, List.nodup_nil⟩, fun cc sz tok _ _ => ⟨c8 cc sz tok, List.nodup_nil⟩, m4, fun cc sz tok _ _ => ⟨c9 sz tok, List.nodup_nil⟩, fun cc sz tok _ _ => ⟨c10 sz tok, List.nodup_nil⟩, fun cc sz tok h1 h2 => ⟨Summ.at_ok c11 sz tok h1 h2, List.nodup_nil⟩, fun cc sz tok _ _ => ⟨c12 cc sz tok, List.nodup_nil⟩, trivial⟩
    | cons r0 rr =>
      subst hr
      cases c
      · exact ⟨fun cc sz tok _ _ => ⟨c1 cc sz tok, List.nodup_nil⟩, m1, fun cc sz tok _ _ => ⟨c2 sz tok, List.nodup_nil⟩, m2, fun cc sz tok _ _ => ⟨c3 sz tok, List.nodup_nil⟩, fun cc sz tok _ _ => ⟨c4 sz tok, List.nodup_nil⟩, m3, fun cc sz tok _ _ => ⟨c5 sz tok, List.nodup_nil⟩, fun cc sz tok _ _ => ⟨c6 sz tok, by simp [sLsAdd]⟩, fun cc sz tok _ _ => ⟨c7 sz tok, List.nodup_nil⟩, fun cc sz tok _ _ => ⟨c8 cc sz tok, List.nodup_nil⟩, m4, fun cc sz tok _ _ => ⟨c9 sz tok, List.nodup_nil⟩, fun cc sz tok _ _ => ⟨c10 sz tok, List.nodup_nil⟩, fun cc sz tok h1 h2 => ⟨Summ.at_ok c11 sz tok h1 h2, List.nodup_nil⟩, fun cc sz tok _ _ => ⟨c12 cc sz tok, List.nodup_nil⟩, trivial⟩
      · exact ⟨fun cc sz tok _ _ => ⟨c1 cc sz tok, List.nodup_nil⟩, m1, fun cc sz tok _ _ => ⟨c2 sz tok, List.nodup_nil⟩, m2, fun cc sz tok _ _ => ⟨c3 sz tok, List.nodup_nil⟩, fun cc sz tok _ _ => ⟨c4 sz tok, List.nodup_nil⟩, m3, fun cc sz tok _ _ => ⟨c5 sz tok, List.nodup_nil⟩, fun cc sz tok _ _ => ⟨c6 sz tok, by simp [sLsAdd]⟩, fun cc sz tok _ _ => ⟨c7 sz tok, List.nodup_nil⟩, fun cc sz tok _ _ => ⟨c8 cc sz tok, List.nodup_nil⟩, m4, fun cc sz tok _ _ => ⟨c9 sz tok, List.nodup_nil⟩, fun cc sz tok _ _ => ⟨c10 sz tok, List.nodup_nil⟩, fun cc sz tok h1 h2 => ⟨Summ.at_ok c11 sz tok h1 h2, List.nodup_nil⟩, fun cc sz tok _ _ => ⟨c12 cc sz tok, List.nodup_nil⟩, trivial⟩
  exact all rs rfl
end Mine
namespace Mine
open PySem PySem.W
/-- one turn of a loop that touches a part of the slots, and then the rest of it -/
theorem Summ.ofTurnF {p : Program} {w : World} {K : Nat → Option Obj} {S : Summ} {sz tok : Nat} (pre' : List (Nat × Nat × Obj)) (dsz' : Option Nat) (dl' dtok' : Nat) (sz1 tok1 : Nat) (ini fin : List (Nat × Obj)) (n : Nat) (ops : List Op) (N : Nat)
    (hnew : S.new = []) (hfacts : S.facts = []) (hg : S.newg = []) (hne : S.needs = []) (hini : ∀ q ∈ ini, ∃ r ∈ S.pre, r.2 = q) (hN : ini.length = N) (hfin : fin.map (·.1) = ini.map (·.1))
    (hpre' : ∀ q ∈ pre', q.2 ∈ fin ∨ ((∃ r ∈ S.pre, r.2 = q.2) ∧ q.2.1 ∉ ini.map (·.1)))
    (hsame : ∀ q ∈ fin, q ∈ ini ∨ ∃ r ∈ S.post, r.2.1 = q.1) (nd : (ini.map (·.1)).Nodup) (hK' : ∀ q ∈ ini, K q.1 = none) (hi : iniOk ini .nil 0 = true)
    (hsz : S.dsz.getD 0 + sz + S.dl = dsz'.getD 0 + sz1 + dl') (htok : tok + S.dtok = tok1 + dtok')
    (ok : OpsOk (mdl p w) K ops)
    (e : ∀ (k : Result → Sem Fin) (g : Bool) (l : List Value) (code : Code) (pos pos' : Pos) (kp : List Value) (W : List (Code × Pos)) (gens : List GenState), S.shape ((code, pos) :: W) = true →
      chk (tR p w K W n ops (mkT ini) N sz gens tok [] (tD S.code) S.code pos' [.ret k none g l code pos kp] [] []) (turns N) =
      chk' (tR p w K W n ops (mkT ini) N sz gens tok [] (tD S.code) S.code pos' [.ret k none g l code pos kp] [] [])
        (tD S.code, S.code, [.ret k none g l code pos kp], sz1, tok1, appG gens [], fin.map some))
    (next : Summ.Valid (mdl p w) K { S with pre := pre', dsz := dsz', dl := dl', dtok := dtok' } sz1 tok1) : S.Valid (mdl p w) K sz tok := by
  intro s k g l code pos pos' kp st hK hpre hpo hne1 hne' hs ht hb hsh
  obtain ⟨h, ⟨gens⟩, d, toks, os⟩ := s
  replace ht : toks = tok := ht
  subst ht hN
  have hini0 : ∀ q ∈ ini, h.get? q.1 = some q.2 := fun q hq => by
    obtain ⟨r, hr, e⟩ := hini q hq
    have := hpre r hr
    rw [e] at this
    exact this
  obtain ⟨out, h1, e1, C, c1, c2, c3, c4⟩ := go (d := d) (os := os) (bot := st) rfl hb hK hK' hini0 nd (fun x hx => absurd hx (List.not_mem_nil)) hs rfl hi ok (e k g l code pos pos' kp (st.map Frame.where_) gens hsh)
  simp only [turns, Prod.mk.injEq, appG_eq, List.append_nil] at e1
  obtain ⟨e1, e2, e3, e4, e5, e6, e7⟩ := e1
  rw [tD_eq] at C e1
  rw [e1, e2, e3, e5, e6] at C
  have hfinget : ∀ q ∈ fin, h1.get? q.1 = some q.2 := fun q hq => by
    have : some q ∈ fin.map some := List.mem_map.mpr ⟨q, hq, rfl⟩
    rw [← e7] at this
    obtain ⟨i, _, hi⟩ := List.mem_map.mp this
    exact c2 i q.1 q.2 hi
  have keep : ∀ b o, h.get? b = some o → (∀ q ∈ S.post, q.2.1 ≠ b) → h1.get? b = some o := fun b o hb' hn => by
    by_cases hm : b ∈ ini.map (·.1)
    · have hm2 := hm
      rw [← hfin] at hm2
      obtain ⟨q, hq, rfl⟩ := List.mem_map.mp hm2
      rcases hsame q hq with z | ⟨r, hr, z⟩
      · have := hini0 q z
        rw [this] at hb'
        cases hb'
        exact hfinget q hq
      · exact absurd z (hn r hr)
    · exact c4 b o hb' hm
  obtain ⟨h', C2, w1, w2, w3, w4, w5⟩ := next ⟨h1, ⟨gens⟩, d, tok1, os⟩ k g l code pos out.pos kp st (fun a o q => by
      by_cases hm : a ∈ ini.map (·.1)
      · obtain ⟨x, hx, rfl⟩ := List.mem_map.mp hm
        rw [hK' x hx] at q; cases q
      · exact c4 a o (hK a o q) hm) (fun q hq => by
      rcases hpre' q hq with z | ⟨⟨r, hr, z⟩, hn⟩
      · exact hfinget _ z
      · have := hpre r hr
        rw [z] at this
        exact c4 _ _ this hn) (fun q hq => by
      obtain ⟨o, ho⟩ := hpo q hq
      by_cases hm : q.2.1 ∈ ini.map (·.1)
      · rw [← hfin] at hm
        obtain ⟨x, hx, z⟩ := List.mem_map.mp hm
        exact ⟨x.2, z ▸ hfinget x hx⟩
      · exact ⟨o, c4 _ o ho hm⟩) (fun n hn => by rw [hne] at hn; cases hn) (fun n hn => by rw [hne] at hn; cases hn) (c1.trans e4) rfl hb hsh
  refine ⟨h', ?_, w1.trans hsz.symm, w2, (by rw [hnew]; exact fun _ z => nomatch z), (by rw [hfacts]; exact fun _ z => nomatch z), fun b o hb' hn => w5 b o (keep b o hb' hn) hn⟩
  have C3 := C.trans C2
  rw [htok, hg]
  rw [hg] at C3
  exact C3
/-- the end of a loop, by a part of the slots -/
theorem Summ.ofRunF {p : Program} {w : World} {K : Nat → Option Obj} {S : Summ} {sz tok : Nat} (ini fin : List (Nat × Obj)) (n : Nat) (ops : List Op) (N : Nat)
    (hnew : S.new = []) (hfacts : S.facts = []) (hg : S.newg = []) (hini : ∀ q ∈ ini, ∃ r ∈ S.pre, r.2 = q) (hN : ini.length = N) (hfin : fin.map (·.1) = ini.map (·.1))
    (hpost : ∀ q ∈ S.post, q.2 ∈ fin ∨ ((∃ r ∈ S.pre, r.2 = q.2) ∧ q.2.1 ∉ ini.map (·.1)))
    (hsame : ∀ q ∈ fin, q ∈ ini ∨ ∃ r ∈ S.post, r.2.1 = q.1) (nd : (ini.map (·.1)).Nodup) (hK' : ∀ q ∈ ini, K q.1 = none) (hi : iniOk ini .nil 0 = true)
    (ok : OpsOk (mdl p w) K ops)
    (e : ∀ (k : Result → Sem Fin) (g : Bool) (l : List Value) (code : Code) (pos pos' : Pos) (kp : List Value) (W : List (Code × Pos)) (gens : List GenState), S.shape ((code, pos) :: W) = true →
      chk (tR p w K W n ops (mkT ini) N sz gens tok [] (tD S.code) S.code pos' [.ret k none g l code pos kp] [] []) (ends N []) =
      chk' (tR p w K W n ops (mkT ini) N sz gens tok [] (tD S.code) S.code pos' [.ret k none g l code pos kp] [] [])
        (k S.res, code, pos, [], addZ S.dsz sz + S.dl, tok + S.dtok, appG gens [], [], fin.map some, [])) : S.Valid (mdl p w) K sz tok := by
  intro s k g l code pos pos' kp st hK hpre hpo hne1 hne' hs ht hb hsh
  obtain ⟨h, ⟨gens⟩, d, toks, os⟩ := s
  replace ht : toks = tok := ht
  subst ht hN
  have hini0 : ∀ q ∈ ini, h.get? q.1 = some q.2 := fun q hq => by
    obtain ⟨r, hr, e⟩ := hini q hq
    have := hpre r hr
    rw [e] at this
    exact this
  obtain ⟨out, h1, e1, C, c1, c2, c3, c4⟩ := go (d := d) (os := os) (bot := st) rfl hb hK hK' hini0 nd (fun x hx => absurd hx (List.not_mem_nil)) hs rfl hi ok (e k g l code pos pos' kp (st.map Frame.where_) gens hsh)
  simp only [ends, Prod.mk.injEq, appG_eq, addZ_eq, List.append_nil] at e1
  obtain ⟨e1, e2, e3, e4, e5, e6, e7, e8, e9, e10⟩ := e1
  rw [tD_eq] at C
  rw [e1, e2, e3, e4, e6, e7] at C
  have hfinget : ∀ q ∈ fin, h1.get? q.1 = some q.2 := fun q hq => by
    have : some q ∈ fin.map some := List.mem_map.mpr ⟨q, hq, rfl⟩
    rw [← e9] at this
    obtain ⟨i, _, hi⟩ := List.mem_map.mp this
    exact c2 i q.1 q.2 hi
  refine ⟨h1, ?_, c1.trans e5, fun q hq => ?_, (by rw [hnew]; exact fun _ z => nomatch z), (by rw [hfacts]; exact fun _ z => nomatch z), fun b o hb' hn => ?_⟩
  · rw [hg]
    simpa using C
  · rcases hpost q hq with z | ⟨⟨r, hr, z⟩, hn⟩
    · exact hfinget _ z
    · have := hpre r hr
      rw [z] at this
      exact c4 _ _ this hn
  · by_cases hm : b ∈ ini.map (·.1)
    · have hm2 := hm
      rw [← hfin] at hm2
      obtain ⟨q, hq, rfl⟩ := List.mem_map.mp hm2
      rcases hsame q hq with z | ⟨r, hr, z⟩
      · have := hini0 q z
        rw [show (Shared.heap ⟨h, ⟨gens⟩, d, toks, os⟩).get? q.1 = h.get? q.1 from rfl, this] at hb'
        cases hb'
        exact hfinget q hq
      · exact absurd z (hn r hr)
    · exact c4 b o hb' hm
end Mine
namespace Mine
open PySem PySem.W
variable {b c : Bool} {w : World}
noncomputable def sPT (P : Params) (i0 i1 i2 i3 i4 i5 i6 i7 i8 i9 i10 i11 i12 i13 i14 i15 it Lst tu0 tu1 pa0 tw0 pa1 tw1 da0 dw0 da1 dw1 rpa rpa' rpb rpb' ep t0 Z D : Nat) (f : FrL) (es ra ra' rb rb' : List E) : Summ :=
  { code := cPT it, res := .ok .next, pre := [(i0, it, liObj Lst 0), (i1, Lst, lsObj [.ref tu0, .ref tu1] 0), (i2, tu0, tupObj [.ref (pa0), .ref (tw0)]), (i3, tu1, tupObj [.ref (pa1), .ref (tw1)]), (i4, 1104, frL P f none), (i5, 1106, ceObj none), (i6, 1105, ceObj (some (.ref 1107))), (i7, 1107, dObj clsD none es ep), (i8, pa0, dObj clsC (some da0) ra rpa), (i9, tw0, dObj clsC (some dw0) ra' rpa'), (i10, pa1, dObj clsC (some da1) rb rpb), (i11, tw1, dObj clsC (some dw1) rb' rpb'), (i12, da0, dObj clsD none [] 0), (i13, dw0, dObj clsD none [] 0), (i14, da1, dObj clsD none [] 0), (i15, dw1, dObj clsD none [] 0)],
    post := [(i0, it, liEnd (liObj Lst 2)), (i4, 1104, frL P f (some (t0, .ref tw1))), (i5, 1106, ceObj (some (.ref pa1)))], dsz := some Z, dtok := D, shape := shFn1 }
noncomputable def Inc : List Nat → Prop
  | [] => True
  | [_] => True
  | a :: b :: r => a < b ∧ Inc (b :: r)
theorem Inc.lt : ∀ {l : List Nat} {a : Nat}, Inc (a :: l) → ∀ x ∈ l, a < x
  | [], _, _, _, hx => nomatch hx
  | b :: r, a, h, x, hx => by
    rcases List.mem_cons.mp hx with rfl | hx
    · exact h.1
    · exact Nat.lt_trans h.1 (Inc.lt h.2 x hx)
theorem Inc.pw : ∀ {l : List Nat}, Inc l → l.Pairwise (· < ·)
  | [], _ => .nil
  | [_], _ => .cons (fun _ hx => nomatch hx) .nil
  | _ :: _ :: _, h => .cons (Inc.lt h) (Inc.pw h.2)
theorem pwne {l : List Nat} (h : Inc l) (i j : Nat) {a b : Nat} (ha : l[i]? = some a) (hb : l[j]? = some b) (hij : i ≠ j) : a ≠ b := by
  obtain ⟨l1, g1⟩ := List.getElem?_eq_some_iff.mp ha
  obtain ⟨l2, g2⟩ := List.getElem?_eq_some_iff.mp hb
  rcases Nat.lt_or_gt_of_ne hij with z | z
  · have x := List.pairwise_iff_getElem.mp h.pw i j l1 l2 z
    rw [g1, g2] at x
    exact Nat.ne_of_lt x
  · have x := List.pairwise_iff_getElem.mp h.pw j i l2 l1 z
    rw [g1, g2] at x
    exact Nat.ne_of_gt x
theorem incge {r : List Nat} (h : Inc (1104 :: r)) (i : Nat) {a : Nat} (ha : (1104 :: r)[i]? = some a) : 1103 ≤ a := by
  rcases List.mem_cons.mp (List.mem_of_getElem? ha) with rfl | hx
  · decide
  · exact Nat.le_trans (by decide) (Nat.le_of_lt (Inc.lt h a hx))
theorem endPT (it Lst : Nat) (xs : List Value) (n sz tok : Nat) (k : Result → Sem PySem.Fin) (g : Bool) (l : List Value) (code : Code) (pos pos' : Pos) (kp : List Value) (W : List (Code × Pos)) (gens : List GenState) :
    chk (tR tP (tW b c w) (KK (tW b c w)) W 8 [.s 0, .k 0, .s 0, .a fun _ sz _ => sLiEnd 0 1 it Lst n xs 0 sz, .s 3] (mkT [(it, liObj Lst n), (Lst, lsObj xs 0)]) 2 sz gens tok [] (tD (cPT it)) (cPT it) pos' [.ret k none g l code pos kp] [] []) (ends 2 []) =
    chk' (tR tP (tW b c w) (KK (tW b c w)) W 8 [.s 0, .k 0, .s 0, .a fun _ sz _ => sLiEnd 0 1 it Lst n xs 0 sz, .s 3] (mkT [(it, liObj Lst n), (Lst, lsObj xs 0)]) 2 sz gens tok [] (tD (cPT it)) (cPT it) pos' [.ret k none g l code pos kp] [] [])
      (k (.ok .next), code, pos, [], sz + 2, tok, gens, [], [(it, liEnd (liObj Lst n)), (Lst, lsObj xs 0)].map some, []) := by
  cases b <;> kernel_rfl
theorem sPT_ok {i0 i1 i2 i3 i4 i5 i6 i7 i8 i9 i10 i11 i12 i13 i14 i15 it Lst tu0 tu1 pa0 tw0 pa1 tw1 da0 dw0 da1 dw1 rpa rpa' rpb rpb' ep t0 Z D : Nat} {f : FrL} {es ra ra' rb rb' : List E} {aepa zca dca aepb zcb dcb s0 s1 : Nat} {y0 y1 : Int × Nat} {vca vcb : Nat × Value} {ys0 ys1 acca accb : List (Int × Nat)}
    (q0 : 1107 < da0)    (q1 : da0 < pa0 + 1103)    (q2 : pa0 + 1103 < da1)    (q3 : da1 < pa1 + 1103)    (q4 : pa1 + 1103 < dw0)    (q5 : dw0 < tw0 + 1103)    (q6 : tw0 + 1103 < tu0)    (q7 : tu0 < dw1)    (q8 : dw1 < tw1 + 1103)    (q9 : tw1 + 1103 < tu1)    (q10 : tu1 < Lst)    (q11 : Lst < it)    (q12 : it < s0 + 1109)
    (H0 : PTok (tW b c w).params it Lst tu0 pa0 tw0 0 da0 dw0 rpa rpa' ep aepa zca dca [.ref tu0, .ref tu1] es ra ra' y0 vca ys0 acca s0 t0)
    (H1 : PTok (tW b c w).params it Lst tu1 pa1 tw1 1 da1 dw1 rpb rpb' ep aepb zcb dcb [.ref tu0, .ref tu1] es rb rb' y1 vcb ys1 accb s1 (t0 + 5 + dca))
    (hs1 : zca + ((ra'.length + (ra.length + (s0 + 1115) + 5)) + 20) + 2 = s1 + 1109) (hZ : Z + (s0 + 1109) = zcb + ((rb'.length + (rb.length + (s1 + 1115) + 5)) + 20) + 4) (hD : D = 5 + dca + (5 + dcb)) :
    (sPT (tW b c w).params i0 i1 i2 i3 i4 i5 i6 i7 i8 i9 i10 i11 i12 i13 i14 i15 it Lst tu0 tu1 (pa0 + 1103) (tw0 + 1103) (pa1 + 1103) (tw1 + 1103) da0 dw0 da1 dw1 rpa rpa' rpb rpb' ep t0 Z D f es ra ra' rb rb').Valid (mdl tP (tW b c w)) (KK (tW b c w)) (s0 + 1109) t0 := by
  have SI : Inc [1104, 1105, 1106, 1107, da0, pa0 + 1103, da1, pa1 + 1103, dw0, tw0 + 1103, tu0, dw1, tw1 + 1103, tu1, Lst, it] := ⟨by decide, by decide, by decide, q0, q1, q2, q3, q4, q5, q6, q7, q8, q9, q10, q11, trivial⟩
  refine Summ.ofTurnF [(i0, it, liObj Lst 1), (i1, Lst, lsObj [.ref tu0, .ref tu1] 0), (i2, tu0, tupObj [.ref (pa0 + 1103), .ref (tw0 + 1103)]), (i3, tu1, tupObj [.ref (pa1 + 1103), .ref (tw1 + 1103)]), (i4, 1104, frL (tW b c w).params f (some (t0, .ref (tw0 + 1103)))), (i5, 1106, ceObj (some (.ref (pa0 + 1103)))), (i6, 1105, ceObj (some (.ref 1107))), (i7, 1107, dObj clsD none es ep), (i8, pa0 + 1103, dObj clsC (some da0) ra rpa), (i9, tw0 + 1103, dObj clsC (some dw0) ra' rpa'), (i10, pa1 + 1103, dObj clsC (some da1) rb rpb), (i11, tw1 + 1103, dObj clsC (some dw1) rb' rpb'), (i12, da0, dObj clsD none [] 0), (i13, dw0, dObj clsD none [] 0), (i14, da1, dObj clsD none [] 0), (i15, dw1, dObj clsD none [] 0)] (some (Z + (s0 + 1109) - (s1 + 1109))) 0 (5 + dcb) (s1 + 1109) (t0 + 5 + dca) [(it, liObj Lst 0), (Lst, lsObj [.ref tu0, .ref tu1] 0), (tu0, tupObj [.ref (pa0 + 1103), .ref (tw0 + 1103)]), (1104, frL (tW b c w).params f none), (1106, ceObj none), (1105, ceObj (some (.ref 1107))), (1107, dObj clsD none es ep), (pa0 + 1103, dObj clsC (some da0) ra rpa), (tw0 + 1103, dObj clsC (some dw0) ra' rpa'), (da0, dObj clsD none [] 0), (dw0, dObj clsD none [] 0)] [(it, liObj Lst 1), (Lst, lsObj [.ref tu0, .ref tu1] 0), (tu0, tupObj [.ref (pa0 + 1103), .ref (tw0 + 1103)]), (1104, frL (tW b c w).params f (some (t0, .ref (tw0 + 1103)))), (1106, ceObj (some (.ref (pa0 + 1103)))), (1105, ceObj (some (.ref 1107))), (1107, dObj clsD none es ep), (pa0 + 1103, dObj clsC (some da0) ra rpa), (tw0 + 1103, dObj clsC (some dw0) ra' rpa'), (da0, dObj clsD none [] 0), (dw0, dObj clsD none [] 0)] (nPT c ra) (oPT c (tW b c w).params it Lst tu0 pa0 tw0 0 da0 dw0 rpa rpa' ep aepa zca dca [.ref tu0, .ref tu1] es ra ra' y0 vca ys0 acca s0 t0) 11 rfl rfl rfl rfl (fun q hq => ?_) rfl rfl (fun q hq => ?_) (fun q hq => ?_) ?_ (fun q hq => KK_none ?_) rfl ?_ ?_ (oPT_ok H0 (by omega)) (fun k g l code pos pos' kp W gens hsh => ?_) ?_
  · rcases List.mem_cons.mp hq with rfl | hq
    · exact ⟨_, List.mem_cons_self, rfl⟩
    rcases List.mem_cons.mp hq with rfl | hq
    · exact ⟨_, (List.mem_cons_of_mem _ List.mem_cons_self), rfl⟩
    rcases List.mem_cons.mp hq with rfl | hq
    · exact ⟨_, (List.mem_cons_of_mem _ (List.mem_cons_of_mem _ List.mem_cons_self)), rfl⟩
    rcases List.mem_cons.mp hq with rfl | hq
    · exact ⟨_, (List.mem_cons_of_mem _ (List.mem_cons_of_mem _ (List.mem_cons_of_mem _ (List.mem_cons_of_mem _ List.mem_cons_self)))), rfl⟩
    rcases List.mem_cons.mp hq with rfl | hq
    · exact ⟨_, (List.mem_cons_of_mem _ (List.mem_cons_of_mem _ (List.mem_cons_of_mem _ (List.mem_cons_of_mem _ (List.mem_cons_of_mem _ List.mem_cons_self))))), rfl⟩
    rcases List.mem_cons.mp hq with rfl | hq
    · exact ⟨_, (List.mem_cons_of_mem _ (List.mem_cons_of_mem _ (List.mem_cons_of_mem _ (List.mem_cons_of_mem _ (List.mem_cons_of_mem _ (List.mem_cons_of_mem _ List.mem_cons_self)))))), rfl⟩
    rcases List.mem_cons.mp hq with rfl | hq
    · exact ⟨_, (List.mem_cons_of_mem _ (List.mem_cons_of_mem _ (List.mem_cons_of_mem _ (List.mem_cons_of_mem _ (List.mem_cons_of_mem _ (List.mem_cons_of_mem _ (List.mem_cons_of_mem _ List.mem_cons_self))))))), rfl⟩
    rcases List.mem_cons.mp hq with rfl | hq
    · exact ⟨_, (List.mem_cons_of_mem _ (List.mem_cons_of_mem _ (List.mem_cons_of_mem _ (List.mem_cons_of_mem _ (List.mem_cons_of_mem _ (List.mem_cons_of_mem _ (List.mem_cons_of_mem _ (List.mem_cons_of_mem _ List.mem_cons_self)))))))), rfl⟩
    rcases List.mem_cons.mp hq with rfl | hq
    · exact ⟨_, (List.mem_cons_of_mem _ (List.mem_cons_of_mem _ (List.mem_cons_of_mem _ (List.mem_cons_of_mem _ (List.mem_cons_of_mem _ (List.mem_cons_of_mem _ (List.mem_cons_of_mem _ (List.mem_cons_of_mem _ (List.mem_cons_of_mem _ List.mem_cons_self))))))))), rfl⟩
    rcases List.mem_cons.mp hq with rfl | hq
    · exact ⟨_, (List.mem_cons_of_mem _ (List.mem_cons_of_mem _ (List.mem_cons_of_mem _ (List.mem_cons_of_mem _ (List.mem_cons_of_mem _ (List.mem_cons_of_mem _ (List.mem_cons_of_mem _ (List.mem_cons_of_mem _ (List.mem_cons_of_mem _ (List.mem_cons_of_mem _ (List.mem_cons_of_mem _ (List.mem_cons_of_mem _ List.mem_cons_self)))))))))))), rfl⟩
    obtain rfl := List.mem_singleton.mp hq
    exact ⟨_, (List.mem_cons_of_mem _ (List.mem_cons_of_mem _ (List.mem_cons_of_mem _ (List.mem_cons_of_mem _ (List.mem_cons_of_mem _ (List.mem_cons_of_mem _ (List.mem_cons_of_mem _ (List.mem_cons_of_mem _ (List.mem_cons_of_mem _ (List.mem_cons_of_mem _ (List.mem_cons_of_mem _ (List.mem_cons_of_mem _ (List.mem_cons_of_mem _ List.mem_cons_self))))))))))))), rfl⟩
  · rcases List.mem_cons.mp hq with rfl | hq
    · exact .inl List.mem_cons_self
    rcases List.mem_cons.mp hq with rfl | hq
    · exact .inl (List.mem_cons_of_mem _ List.mem_cons_self)
    rcases List.mem_cons.mp hq with rfl | hq
    · exact .inl (List.mem_cons_of_mem _ (List.mem_cons_of_mem _ List.mem_cons_self))
    rcases List.mem_cons.mp hq with rfl | hq
    · exact .inr ⟨⟨_, (List.mem_cons_of_mem _ (List.mem_cons_of_mem _ (List.mem_cons_of_mem _ List.mem_cons_self))), rfl⟩, by simp only [List.map_cons, List.map_nil, List.mem_cons, List.not_mem_nil, or_false, not_or]; exact ⟨pwne SI 13 15 rfl rfl (by decide), pwne SI 13 14 rfl rfl (by decide), pwne SI 13 10 rfl rfl (by decide), pwne SI 13 0 rfl rfl (by decide), pwne SI 13 2 rfl rfl (by decide), pwne SI 13 1 rfl rfl (by decide), pwne SI 13 3 rfl rfl (by decide), pwne SI 13 5 rfl rfl (by decide), pwne SI 13 9 rfl rfl (by decide), pwne SI 13 4 rfl rfl (by decide), pwne SI 13 8 rfl rfl (by decide)⟩⟩
    rcases List.mem_cons.mp hq with rfl | hq
    · exact .inl (List.mem_cons_of_mem _ (List.mem_cons_of_mem _ (List.mem_cons_of_mem _ List.mem_cons_self)))
    rcases List.mem_cons.mp hq with rfl | hq
    · exact .inl (List.mem_cons_of_mem _ (List.mem_cons_of_mem _ (List.mem_cons_of_mem _ (List.mem_cons_of_mem _ List.mem_cons_self))))
    rcases List.mem_cons.mp hq with rfl | hq
    · exact .inl (List.mem_cons_of_mem _ (List.mem_cons_of_mem _ (List.mem_cons_of_mem _ (List.mem_cons_of_mem _ (List.mem_cons_of_mem _ List.mem_cons_self)))))
    rcases List.mem_cons.mp hq with rfl | hq
    · exact .inl (List.mem_cons_of_mem _ (List.mem_cons_of_mem _ (List.mem_cons_of_mem _ (List.mem_cons_of_mem _ (List.mem_cons_of_mem _ (List.mem_cons_of_mem _ List.mem_cons_self))))))
    rcases List.mem_cons.mp hq with rfl | hq
    · exact .inl (List.mem_cons_of_mem _ (List.mem_cons_of_mem _ (List.mem_cons_of_mem _ (List.mem_cons_of_mem _ (List.mem_cons_of_mem _ (List.mem_cons_of_mem _ (List.mem_cons_of_mem _ List.mem_cons_self)))))))
    rcases List.mem_cons.mp hq with rfl | hq
    · exact .inl (List.mem_cons_of_mem _ (List.mem_cons_of_mem _ (List.mem_cons_of_mem _ (List.mem_cons_of_mem _ (List.mem_cons_of_mem _ (List.mem_cons_of_mem _ (List.mem_cons_of_mem _ (List.mem_cons_of_mem _ List.mem_cons_self))))))))
    rcases List.mem_cons.mp hq with rfl | hq
    · exact .inr ⟨⟨_, (List.mem_cons_of_mem _ (List.mem_cons_of_mem _ (List.mem_cons_of_mem _ (List.mem_cons_of_mem _ (List.mem_cons_of_mem _ (List.mem_cons_of_mem _ (List.mem_cons_of_mem _ (List.mem_cons_of_mem _ (List.mem_cons_of_mem _ (List.mem_cons_of_mem _ List.mem_cons_self)))))))))), rfl⟩, by simp only [List.map_cons, List.map_nil, List.mem_cons, List.not_mem_nil, or_false, not_or]; exact ⟨pwne SI 7 15 rfl rfl (by decide), pwne SI 7 14 rfl rfl (by decide), pwne SI 7 10 rfl rfl (by decide), pwne SI 7 0 rfl rfl (by decide), pwne SI 7 2 rfl rfl (by decide), pwne SI 7 1 rfl rfl (by decide), pwne SI 7 3 rfl rfl (by decide), pwne SI 7 5 rfl rfl (by decide), pwne SI 7 9 rfl rfl (by decide), pwne SI 7 4 rfl rfl (by decide), pwne SI 7 8 rfl rfl (by decide)⟩⟩
    rcases List.mem_cons.mp hq with rfl | hq
    · exact .inr ⟨⟨_, (List.mem_cons_of_mem _ (List.mem_cons_of_mem _ (List.mem_cons_of_mem _ (List.mem_cons_of_mem _ (List.mem_cons_of_mem _ (List.mem_cons_of_mem _ (List.mem_cons_of_mem _ (List.mem_cons_of_mem _ (List.mem_cons_of_mem _ (List.mem_cons_of_mem _ (List.mem_cons_of_mem _ List.mem_cons_self))))))))))), rfl⟩, by simp only [List.map_cons, List.map_nil, List.mem_cons, List.not_mem_nil, or_false, not_or]; exact ⟨pwne SI 12 15 rfl rfl (by decide), pwne SI 12 14 rfl rfl (by decide), pwne SI 12 10 rfl rfl (by decide), pwne SI 12 0 rfl rfl (by decide), pwne SI 12 2 rfl rfl (by decide), pwne SI 12 1 rfl rfl (by decide), pwne SI 12 3 rfl rfl (by decide), pwne SI 12 5 rfl rfl (by decide), pwne SI 12 9 rfl rfl (by decide), pwne SI 12 4 rfl rfl (by decide), pwne SI 12 8 rfl rfl (by decide)⟩⟩
    rcases List.mem_cons.mp hq with rfl | hq
    · exact .inl (List.mem_cons_of_mem _ (List.mem_cons_of_mem _ (List.mem_cons_of_mem _ (List.mem_cons_of_mem _ (List.mem_cons_of_mem _ (List.mem_cons_of_mem _ (List.mem_cons_of_mem _ (List.mem_cons_of_mem _ (List.mem_cons_of_mem _ List.mem_cons_self)))))))))
    rcases List.mem_cons.mp hq with rfl | hq
    · exact .inl (List.mem_cons_of_mem _ (List.mem_cons_of_mem _ (List.mem_cons_of_mem _ (List.mem_cons_of_mem _ (List.mem_cons_of_mem _ (List.mem_cons_of_mem _ (List.mem_cons_of_mem _ (List.mem_cons_of_mem _ (List.mem_cons_of_mem _ (List.mem_cons_of_mem _ List.mem_cons_self))))))))))
    rcases List.mem_cons.mp hq with rfl | hq
    · exact .inr ⟨⟨_, (List.mem_cons_of_mem _ (List.mem_cons_of_mem _ (List.mem_cons_of_mem _ (List.mem_cons_of_mem _ (List.mem_cons_of_mem _ (List.mem_cons_of_mem _ (List.mem_cons_of_mem _ (List.mem_cons_of_mem _ (List.mem_cons_of_mem _ (List.mem_cons_of_mem _ (List.mem_cons_of_mem _ (List.mem_cons_of_mem _ (List.mem_cons_of_mem _ (List.mem_cons_of_mem _ List.mem_cons_self)))))))))))))), rfl⟩, by simp only [List.map_cons, List.map_nil, List.mem_cons, List.not_mem_nil, or_false, not_or]; exact ⟨pwne SI 6 15 rfl rfl (by decide), pwne SI 6 14 rfl rfl (by decide), pwne SI 6 10 rfl rfl (by decide), pwne SI 6 0 rfl rfl (by decide), pwne SI 6 2 rfl rfl (by decide), pwne SI 6 1 rfl rfl (by decide), pwne SI 6 3 rfl rfl (by decide), pwne SI 6 5 rfl rfl (by decide), pwne SI 6 9 rfl rfl (by decide), pwne SI 6 4 rfl rfl (by decide), pwne SI 6 8 rfl rfl (by decide)⟩⟩
    obtain rfl := List.mem_singleton.mp hq
    exact .inr ⟨⟨_, (List.mem_cons_of_mem _ (List.mem_cons_of_mem _ (List.mem_cons_of_mem _ (List.mem_cons_of_mem _ (List.mem_cons_of_mem _ (List.mem_cons_of_mem _ (List.mem_cons_of_mem _ (List.mem_cons_of_mem _ (List.mem_cons_of_mem _ (List.mem_cons_of_mem _ (List.mem_cons_of_mem _ (List.mem_cons_of_mem _ (List.mem_cons_of_mem _ (List.mem_cons_of_mem _ (List.mem_cons_of_mem _ List.mem_cons_self))))))))))))))), rfl⟩, by simp only [List.map_cons, List.map_nil, List.mem_cons, List.not_mem_nil, or_false, not_or]; exact ⟨pwne SI 11 15 rfl rfl (by decide), pwne SI 11 14 rfl rfl (by decide), pwne SI 11 10 rfl rfl (by decide), pwne SI 11 0 rfl rfl (by decide), pwne SI 11 2 rfl rfl (by decide), pwne SI 11 1 rfl rfl (by decide), pwne SI 11 3 rfl rfl (by decide), pwne SI 11 5 rfl rfl (by decide), pwne SI 11 9 rfl rfl (by decide), pwne SI 11 4 rfl rfl (by decide), pwne SI 11 8 rfl rfl (by decide)⟩⟩
  · rcases List.mem_cons.mp hq with rfl | hq
    · exact .inr ⟨_, List.mem_cons_self, rfl⟩
    rcases List.mem_cons.mp hq with rfl | hq
    · exact .inl (List.mem_cons_of_mem _ List.mem_cons_self)
    rcases List.mem_cons.mp hq with rfl | hq
    · exact .inl (List.mem_cons_of_mem _ (List.mem_cons_of_mem _ List.mem_cons_self))
    rcases List.mem_cons.mp hq with rfl | hq
    · exact .inr ⟨_, (List.mem_cons_of_mem _ List.mem_cons_self), rfl⟩
    rcases List.mem_cons.mp hq with rfl | hq
    · exact .inr ⟨_, (List.mem_cons_of_mem _ (List.mem_cons_of_mem _ List.mem_cons_self)), rfl⟩
    rcases List.mem_cons.mp hq with rfl | hq
    · exact .inl (List.mem_cons_of_mem _ (List.mem_cons_of_mem _ (List.mem_cons_of_mem _ (List.mem_cons_of_mem _ (List.mem_cons_of_mem _ List.mem_cons_self)))))
    rcases List.mem_cons.mp hq with rfl | hq
    · exact .inl (List.mem_cons_of_mem _ (List.mem_cons_of_mem _ (List.mem_cons_of_mem _ (List.mem_cons_of_mem _ (List.mem_cons_of_mem _ (List.mem_cons_of_mem _ List.mem_cons_self))))))
    rcases List.mem_cons.mp hq with rfl | hq
    · exact .inl (List.mem_cons_of_mem _ (List.mem_cons_of_mem _ (List.mem_cons_of_mem _ (List.mem_cons_of_mem _ (List.mem_cons_of_mem _ (List.mem_cons_of_mem _ (List.mem_cons_of_mem _ List.mem_cons_self)))))))
    rcases List.mem_cons.mp hq with rfl | hq
    · exact .inl (List.mem_cons_of_mem _ (List.mem_cons_of_mem _ (List.mem_cons_of_mem _ (List.mem_cons_of_mem _ (List.mem_cons_of_mem _ (List.mem_cons_of_mem _ (List.mem_cons_of_mem _ (List.mem_cons_of_mem _ List.mem_cons_self))))))))
    rcases List.mem_cons.mp hq with rfl | hq
    · exact .inl (List.mem_cons_of_mem _ (List.mem_cons_of_mem _ (List.mem_cons_of_mem _ (List.mem_cons_of_mem _ (List.mem_cons_of_mem _ (List.mem_cons_of_mem _ (List.mem_cons_of_mem _ (List.mem_cons_of_mem _ (List.mem_cons_of_mem _ List.mem_cons_self)))))))))
    obtain rfl := List.mem_singleton.mp hq
    exact .inl (List.mem_cons_of_mem _ (List.mem_cons_of_mem _ (List.mem_cons_of_mem _ (List.mem_cons_of_mem _ (List.mem_cons_of_mem _ (List.mem_cons_of_mem _ (List.mem_cons_of_mem _ (List.mem_cons_of_mem _ (List.mem_cons_of_mem _ (List.mem_cons_of_mem _ List.mem_cons_self))))))))))
  · simp only [List.map_cons, List.map_nil, List.nodup_cons, List.mem_cons, List.not_mem_nil, or_false, not_or, not_false_eq_true, List.nodup_nil, and_true]
    exact ⟨⟨pwne SI 15 14 rfl rfl (by decide), pwne SI 15 10 rfl rfl (by decide), pwne SI 15 0 rfl rfl (by decide), pwne SI 15 2 rfl rfl (by decide), pwne SI 15 1 rfl rfl (by decide), pwne SI 15 3 rfl rfl (by decide), pwne SI 15 5 rfl rfl (by decide), pwne SI 15 9 rfl rfl (by decide), pwne SI 15 4 rfl rfl (by decide), pwne SI 15 8 rfl rfl (by decide)⟩, ⟨pwne SI 14 10 rfl rfl (by decide), pwne SI 14 0 rfl rfl (by decide), pwne SI 14 2 rfl rfl (by decide), pwne SI 14 1 rfl rfl (by decide), pwne SI 14 3 rfl rfl (by decide), pwne SI 14 5 rfl rfl (by decide), pwne SI 14 9 rfl rfl (by decide), pwne SI 14 4 rfl rfl (by decide), pwne SI 14 8 rfl rfl (by decide)⟩, ⟨pwne SI 10 0 rfl rfl (by decide), pwne SI 10 2 rfl rfl (by decide), pwne SI 10 1 rfl rfl (by decide), pwne SI 10 3 rfl rfl (by decide), pwne SI 10 5 rfl rfl (by decide), pwne SI 10 9 rfl rfl (by decide), pwne SI 10 4 rfl rfl (by decide), pwne SI 10 8 rfl rfl (by decide)⟩, ⟨pwne SI 0 2 rfl rfl (by decide), pwne SI 0 1 rfl rfl (by decide), pwne SI 0 3 rfl rfl (by decide), pwne SI 0 5 rfl rfl (by decide), pwne SI 0 9 rfl rfl (by decide), pwne SI 0 4 rfl rfl (by decide), pwne SI 0 8 rfl rfl (by decide)⟩, ⟨pwne SI 2 1 rfl rfl (by decide), pwne SI 2 3 rfl rfl (by decide), pwne SI 2 5 rfl rfl (by decide), pwne SI 2 9 rfl rfl (by decide), pwne SI 2 4 rfl rfl (by decide), pwne SI 2 8 rfl rfl (by decide)⟩, ⟨pwne SI 1 3 rfl rfl (by decide), pwne SI 1 5 rfl rfl (by decide), pwne SI 1 9 rfl rfl (by decide), pwne SI 1 4 rfl rfl (by decide), pwne SI 1 8 rfl rfl (by decide)⟩, ⟨pwne SI 3 5 rfl rfl (by decide), pwne SI 3 9 rfl rfl (by decide), pwne SI 3 4 rfl rfl (by decide), pwne SI 3 8 rfl rfl (by decide)⟩, ⟨pwne SI 5 9 rfl rfl (by decide), pwne SI 5 4 rfl rfl (by decide), pwne SI 5 8 rfl rfl (by decide)⟩, ⟨pwne SI 9 4 rfl rfl (by decide), pwne SI 9 8 rfl rfl (by decide)⟩, pwne SI 4 8 rfl rfl (by decide)⟩
  · rcases List.mem_cons.mp hq with rfl | hq
    · exact incge SI 15 rfl
    rcases List.mem_cons.mp hq with rfl | hq
    · exact incge SI 14 rfl
    rcases List.mem_cons.mp hq with rfl | hq
    · exact incge SI 10 rfl
    rcases List.mem_cons.mp hq with rfl | hq
    · exact incge SI 0 rfl
    rcases List.mem_cons.mp hq with rfl | hq
    · exact incge SI 2 rfl
    rcases List.mem_cons.mp hq with rfl | hq
    · exact incge SI 1 rfl
    rcases List.mem_cons.mp hq with rfl | hq
    · exact incge SI 3 rfl
    rcases List.mem_cons.mp hq with rfl | hq
    · exact incge SI 5 rfl
    rcases List.mem_cons.mp hq with rfl | hq
    · exact incge SI 9 rfl
    rcases List.mem_cons.mp hq with rfl | hq
    · exact incge SI 4 rfl
    obtain rfl := List.mem_singleton.mp hq
    exact incge SI 8 rfl
  · show Z + (s0 + 1109) + 0 = _; simp only [Option.getD_some]; omega
  · show t0 + D = _; omega
  · obtain ⟨b1, e1, a3, p3, rfl, rfl⟩ := shFn1_spec hsh
    rw [← hs1]
    exact turnPT it Lst tu0 pa0 tw0 0 da0 dw0 rpa rpa' ep aepa zca dca f none none [.ref tu0, .ref tu1] es ra ra' y0 vca ys0 acca s0 t0 k g l b1 e1 pos pos' kp a3 p3 gens
  refine Summ.ofTurnF [(i0, it, liObj Lst 2), (i1, Lst, lsObj [.ref tu0, .ref tu1] 0), (i2, tu0, tupObj [.ref (pa0 + 1103), .ref (tw0 + 1103)]), (i3, tu1, tupObj [.ref (pa1 + 1103), .ref (tw1 + 1103)]), (i4, 1104, frL (tW b c w).params f (some (t0, .ref (tw1 + 1103)))), (i5, 1106, ceObj (some (.ref (pa1 + 1103)))), (i6, 1105, ceObj (some (.ref 1107))), (i7, 1107, dObj clsD none es ep), (i8, pa0 + 1103, dObj clsC (some da0) ra rpa), (i9, tw0 + 1103, dObj clsC (some dw0) ra' rpa'), (i10, pa1 + 1103, dObj clsC (some da1) rb rpb), (i11, tw1 + 1103, dObj clsC (some dw1) rb' rpb'), (i12, da0, dObj clsD none [] 0), (i13, dw0, dObj clsD none [] 0), (i14, da1, dObj clsD none [] 0), (i15, dw1, dObj clsD none [] 0)] none 2 (0) (zcb + ((rb'.length + (rb.length + (s1 + 1115) + 5)) + 20) + 2) ((t0 + 5 + dca) + 5 + dcb) [(it, liObj Lst 1), (Lst, lsObj [.ref tu0, .ref tu1] 0), (tu1, tupObj [.ref (pa1 + 1103), .ref (tw1 + 1103)]), (1104, frL (tW b c w).params f (some (t0, .ref (tw0 + 1103)))), (1106, ceObj (some (.ref (pa0 + 1103)))), (1105, ceObj (some (.ref 1107))), (1107, dObj clsD none es ep), (pa1 + 1103, dObj clsC (some da1) rb rpb), (tw1 + 1103, dObj clsC (some dw1) rb' rpb'), (da1, dObj clsD none [] 0), (dw1, dObj clsD none [] 0)] [(it, liObj Lst 2), (Lst, lsObj [.ref tu0, .ref tu1] 0), (tu1, tupObj [.ref (pa1 + 1103), .ref (tw1 + 1103)]), (1104, frL (tW b c w).params f (some (t0, .ref (tw1 + 1103)))), (1106, ceObj (some (.ref (pa1 + 1103)))), (1105, ceObj (some (.ref 1107))), (1107, dObj clsD none es ep), (pa1 + 1103, dObj clsC (some da1) rb rpb), (tw1 + 1103, dObj clsC (some dw1) rb' rpb'), (da1, dObj clsD none [] 0), (dw1, dObj clsD none [] 0)] (nPT c rb) (oPT c (tW b c w).params it Lst tu1 pa1 tw1 1 da1 dw1 rpb rpb' ep aepb zcb dcb [.ref tu0, .ref tu1] es rb rb' y1 vcb ys1 accb s1 (t0 + 5 + dca)) 11 rfl rfl rfl rfl (fun q hq => ?_) rfl rfl (fun q hq => ?_) (fun q hq => ?_) ?_ (fun q hq => KK_none ?_) rfl ?_ ?_ (oPT_ok H1 (by omega)) (fun k g l code pos pos' kp W gens hsh => ?_) ?_
  · rcases List.mem_cons.mp hq with rfl | hq
    · exact ⟨_, List.mem_cons_self, rfl⟩
    rcases List.mem_cons.mp hq with rfl | hq
    · exact ⟨_, (List.mem_cons_of_mem _ List.mem_cons_self), rfl⟩
    rcases List.mem_cons.mp hq with rfl | hq
    · exact ⟨_, (List.mem_cons_of_mem _ (List.mem_cons_of_mem _ (List.mem_cons_of_mem _ List.mem_cons_self))), rfl⟩
    rcases List.mem_cons.mp hq with rfl | hq
    · exact ⟨_, (List.mem_cons_of_mem _ (List.mem_cons_of_mem _ (List.mem_cons_of_mem _ (List.mem_cons_of_mem _ List.mem_cons_self)))), rfl⟩
    rcases List.mem_cons.mp hq with rfl | hq
    · exact ⟨_, (List.mem_cons_of_mem _ (List.mem_cons_of_mem _ (List.mem_cons_of_mem _ (List.mem_cons_of_mem _ (List.mem_cons_of_mem _ List.mem_cons_self))))), rfl⟩
    rcases List.mem_cons.mp hq with rfl | hq
    · exact ⟨_, (List.mem_cons_of_mem _ (List.mem_cons_of_mem _ (List.mem_cons_of_mem _ (List.mem_cons_of_mem _ (List.mem_cons_of_mem _ (List.mem_cons_of_mem _ List.mem_cons_self)))))), rfl⟩
    rcases List.mem_cons.mp hq with rfl | hq
    · exact ⟨_, (List.mem_cons_of_mem _ (List.mem_cons_of_mem _ (List.mem_cons_of_mem _ (List.mem_cons_of_mem _ (List.mem_cons_of_mem _ (List.mem_cons_of_mem _ (List.mem_cons_of_mem _ List.mem_cons_self))))))), rfl⟩
    rcases List.mem_cons.mp hq with rfl | hq
    · exact ⟨_, (List.mem_cons_of_mem _ (List.mem_cons_of_mem _ (List.mem_cons_of_mem _ (List.mem_cons_of_mem _ (List.mem_cons_of_mem _ (List.mem_cons_of_mem _ (List.mem_cons_of_mem _ (List.mem_cons_of_mem _ (List.mem_cons_of_mem _ (List.mem_cons_of_mem _ List.mem_cons_self)))))))))), rfl⟩
    rcases List.mem_cons.mp hq with rfl | hq
    · exact ⟨_, (List.mem_cons_of_mem _ (List.mem_cons_of_mem _ (List.mem_cons_of_mem _ (List.mem_cons_of_mem _ (List.mem_cons_of_mem _ (List.mem_cons_of_mem _ (List.mem_cons_of_mem _ (List.mem_cons_of_mem _ (List.mem_cons_of_mem _ (List.mem_cons_of_mem _ (List.mem_cons_of_mem _ List.mem_cons_self))))))))))), rfl⟩
    rcases List.mem_cons.mp hq with rfl | hq
    · exact ⟨_, (List.mem_cons_of_mem _ (List.mem_cons_of_mem _ (List.mem_cons_of_mem _ (List.mem_cons_of_mem _ (List.mem_cons_of_mem _ (List.mem_cons_of_mem _ (List.mem_cons_of_mem _ (List.mem_cons_of_mem _ (List.mem_cons_of_mem _ (List.mem_cons_of_mem _ (List.mem_cons_of_mem _ (List.mem_cons_of_mem _ (List.mem_cons_of_mem _ (List.mem_cons_of_mem _ List.mem_cons_self)))))))))))))), rfl⟩
    obtain rfl := List.mem_singleton.mp hq
    exact ⟨_, (List.mem_cons_of_mem _ (List.mem_cons_of_mem _ (List.mem_cons_of_mem _ (List.mem_cons_of_mem _ (List.mem_cons_of_mem _ (List.mem_cons_of_mem _ (List.mem_cons_of_mem _ (List.mem_cons_of_mem _ (List.mem_cons_of_mem _ (List.mem_cons_of_mem _ (List.mem_cons_of_mem _ (List.mem_cons_of_mem _ (List.mem_cons_of_mem _ (List.mem_cons_of_mem _ (List.mem_cons_of_mem _ List.mem_cons_self))))))))))))))), rfl⟩
  · rcases List.mem_cons.mp hq with rfl | hq
    · exact .inl List.mem_cons_self
    rcases List.mem_cons.mp hq with rfl | hq
    · exact .inl (List.mem_cons_of_mem _ List.mem_cons_self)
    rcases List.mem_cons.mp hq with rfl | hq
    · exact .inr ⟨⟨_, (List.mem_cons_of_mem _ (List.mem_cons_of_mem _ List.mem_cons_self)), rfl⟩, by simp only [List.map_cons, List.map_nil, List.mem_cons, List.not_mem_nil, or_false, not_or]; exact ⟨pwne SI 10 15 rfl rfl (by decide), pwne SI 10 14 rfl rfl (by decide), pwne SI 10 13 rfl rfl (by decide), pwne SI 10 0 rfl rfl (by decide), pwne SI 10 2 rfl rfl (by decide), pwne SI 10 1 rfl rfl (by decide), pwne SI 10 3 rfl rfl (by decide), pwne SI 10 7 rfl rfl (by decide), pwne SI 10 12 rfl rfl (by decide), pwne SI 10 6 rfl rfl (by decide), pwne SI 10 11 rfl rfl (by decide)⟩⟩
    rcases List.mem_cons.mp hq with rfl | hq
    · exact .inl (List.mem_cons_of_mem _ (List.mem_cons_of_mem _ List.mem_cons_self))
    rcases List.mem_cons.mp hq with rfl | hq
    · exact .inl (List.mem_cons_of_mem _ (List.mem_cons_of_mem _ (List.mem_cons_of_mem _ List.mem_cons_self)))
    rcases List.mem_cons.mp hq with rfl | hq
    · exact .inl (List.mem_cons_of_mem _ (List.mem_cons_of_mem _ (List.mem_cons_of_mem _ (List.mem_cons_of_mem _ List.mem_cons_self))))
    rcases List.mem_cons.mp hq with rfl | hq
    · exact .inl (List.mem_cons_of_mem _ (List.mem_cons_of_mem _ (List.mem_cons_of_mem _ (List.mem_cons_of_mem _ (List.mem_cons_of_mem _ List.mem_cons_self)))))
    rcases List.mem_cons.mp hq with rfl | hq
    · exact .inl (List.mem_cons_of_mem _ (List.mem_cons_of_mem _ (List.mem_cons_of_mem _ (List.mem_cons_of_mem _ (List.mem_cons_of_mem _ (List.mem_cons_of_mem _ List.mem_cons_self))))))
    rcases List.mem_cons.mp hq with rfl | hq
    · exact .inr ⟨⟨_, (List.mem_cons_of_mem _ (List.mem_cons_of_mem _ (List.mem_cons_of_mem _ (List.mem_cons_of_mem _ (List.mem_cons_of_mem _ (List.mem_cons_of_mem _ (List.mem_cons_of_mem _ (List.mem_cons_of_mem _ List.mem_cons_self)))))))), rfl⟩, by simp only [List.map_cons, List.map_nil, List.mem_cons, List.not_mem_nil, or_false, not_or]; exact ⟨pwne SI 5 15 rfl rfl (by decide), pwne SI 5 14 rfl rfl (by decide), pwne SI 5 13 rfl rfl (by decide), pwne SI 5 0 rfl rfl (by decide), pwne SI 5 2 rfl rfl (by decide), pwne SI 5 1 rfl rfl (by decide), pwne SI 5 3 rfl rfl (by decide), pwne SI 5 7 rfl rfl (by decide), pwne SI 5 12 rfl rfl (by decide), pwne SI 5 6 rfl rfl (by decide), pwne SI 5 11 rfl rfl (by decide)⟩⟩
    rcases List.mem_cons.mp hq with rfl | hq
    · exact .inr ⟨⟨_, (List.mem_cons_of_mem _ (List.mem_cons_of_mem _ (List.mem_cons_of_mem _ (List.mem_cons_of_mem _ (List.mem_cons_of_mem _ (List.mem_cons_of_mem _ (List.mem_cons_of_mem _ (List.mem_cons_of_mem _ (List.mem_cons_of_mem _ List.mem_cons_self))))))))), rfl⟩, by simp only [List.map_cons, List.map_nil, List.mem_cons, List.not_mem_nil, or_false, not_or]; exact ⟨pwne SI 9 15 rfl rfl (by decide), pwne SI 9 14 rfl rfl (by decide), pwne SI 9 13 rfl rfl (by decide), pwne SI 9 0 rfl rfl (by decide), pwne SI 9 2 rfl rfl (by decide), pwne SI 9 1 rfl rfl (by decide), pwne SI 9 3 rfl rfl (by decide), pwne SI 9 7 rfl rfl (by decide), pwne SI 9 12 rfl rfl (by decide), pwne SI 9 6 rfl rfl (by decide), pwne SI 9 11 rfl rfl (by decide)⟩⟩
    rcases List.mem_cons.mp hq with rfl | hq
    · exact .inl (List.mem_cons_of_mem _ (List.mem_cons_of_mem _ (List.mem_cons_of_mem _ (List.mem_cons_of_mem _ (List.mem_cons_of_mem _ (List.mem_cons_of_mem _ (List.mem_cons_of_mem _ List.mem_cons_self)))))))
    rcases List.mem_cons.mp hq with rfl | hq
    · exact .inl (List.mem_cons_of_mem _ (List.mem_cons_of_mem _ (List.mem_cons_of_mem _ (List.mem_cons_of_mem _ (List.mem_cons_of_mem _ (List.mem_cons_of_mem _ (List.mem_cons_of_mem _ (List.mem_cons_of_mem _ List.mem_cons_self))))))))
    rcases List.mem_cons.mp hq with rfl | hq
    · exact .inr ⟨⟨_, (List.mem_cons_of_mem _ (List.mem_cons_of_mem _ (List.mem_cons_of_mem _ (List.mem_cons_of_mem _ (List.mem_cons_of_mem _ (List.mem_cons_of_mem _ (List.mem_cons_of_mem _ (List.mem_cons_of_mem _ (List.mem_cons_of_mem _ (List.mem_cons_of_mem _ (List.mem_cons_of_mem _ (List.mem_cons_of_mem _ List.mem_cons_self)))))))))))), rfl⟩, by simp only [List.map_cons, List.map_nil, List.mem_cons, List.not_mem_nil, or_false, not_or]; exact ⟨pwne SI 4 15 rfl rfl (by decide), pwne SI 4 14 rfl rfl (by decide), pwne SI 4 13 rfl rfl (by decide), pwne SI 4 0 rfl rfl (by decide), pwne SI 4 2 rfl rfl (by decide), pwne SI 4 1 rfl rfl (by decide), pwne SI 4 3 rfl rfl (by decide), pwne SI 4 7 rfl rfl (by decide), pwne SI 4 12 rfl rfl (by decide), pwne SI 4 6 rfl rfl (by decide), pwne SI 4 11 rfl rfl (by decide)⟩⟩
    rcases List.mem_cons.mp hq with rfl | hq
    · exact .inr ⟨⟨_, (List.mem_cons_of_mem _ (List.mem_cons_of_mem _ (List.mem_cons_of_mem _ (List.mem_cons_of_mem _ (List.mem_cons_of_mem _ (List.mem_cons_of_mem _ (List.mem_cons_of_mem _ (List.mem_cons_of_mem _ (List.mem_cons_of_mem _ (List.mem_cons_of_mem _ (List.mem_cons_of_mem _ (List.mem_cons_of_mem _ (List.mem_cons_of_mem _ List.mem_cons_self))))))))))))), rfl⟩, by simp only [List.map_cons, List.map_nil, List.mem_cons, List.not_mem_nil, or_false, not_or]; exact ⟨pwne SI 8 15 rfl rfl (by decide), pwne SI 8 14 rfl rfl (by decide), pwne SI 8 13 rfl rfl (by decide), pwne SI 8 0 rfl rfl (by decide), pwne SI 8 2 rfl rfl (by decide), pwne SI 8 1 rfl rfl (by decide), pwne SI 8 3 rfl rfl (by decide), pwne SI 8 7 rfl rfl (by decide), pwne SI 8 12 rfl rfl (by decide), pwne SI 8 6 rfl rfl (by decide), pwne SI 8 11 rfl rfl (by decide)⟩⟩
    rcases List.mem_cons.mp hq with rfl | hq
    · exact .inl (List.mem_cons_of_mem _ (List.mem_cons_of_mem _ (List.mem_cons_of_mem _ (List.mem_cons_of_mem _ (List.mem_cons_of_mem _ (List.mem_cons_of_mem _ (List.mem_cons_of_mem _ (List.mem_cons_of_mem _ (List.mem_cons_of_mem _ List.mem_cons_self)))))))))
    obtain rfl := List.mem_singleton.mp hq
    exact .inl (List.mem_cons_of_mem _ (List.mem_cons_of_mem _ (List.mem_cons_of_mem _ (List.mem_cons_of_mem _ (List.mem_cons_of_mem _ (List.mem_cons_of_mem _ (List.mem_cons_of_mem _ (List.mem_cons_of_mem _ (List.mem_cons_of_mem _ (List.mem_cons_of_mem _ List.mem_cons_self))))))))))
  · rcases List.mem_cons.mp hq with rfl | hq
    · exact .inr ⟨_, List.mem_cons_self, rfl⟩
    rcases List.mem_cons.mp hq with rfl | hq
    · exact .inl (List.mem_cons_of_mem _ List.mem_cons_self)
    rcases List.mem_cons.mp hq with rfl | hq
    · exact .inl (List.mem_cons_of_mem _ (List.mem_cons_of_mem _ List.mem_cons_self))
    rcases List.mem_cons.mp hq with rfl | hq
    · exact .inr ⟨_, (List.mem_cons_of_mem _ List.mem_cons_self), rfl⟩
    rcases List.mem_cons.mp hq with rfl | hq
    · exact .inr ⟨_, (List.mem_cons_of_mem _ (List.mem_cons_of_mem _ List.mem_cons_self)), rfl⟩
    rcases List.mem_cons.mp hq with rfl | hq
    · exact .inl (List.mem_cons_of_mem _ (List.mem_cons_of_mem _ (List.mem_cons_of_mem _ (List.mem_cons_of_mem _ (List.mem_cons_of_mem _ List.mem_cons_self)))))
    rcases List.mem_cons.mp hq with rfl | hq
    · exact .inl (List.mem_cons_of_mem _ (List.mem_cons_of_mem _ (List.mem_cons_of_mem _ (List.mem_cons_of_mem _ (List.mem_cons_of_mem _ (List.mem_cons_of_mem _ List.mem_cons_self))))))
    rcases List.mem_cons.mp hq with rfl | hq
    · exact .inl (List.mem_cons_of_mem _ (List.mem_cons_of_mem _ (List.mem_cons_of_mem _ (List.mem_cons_of_mem _ (List.mem_cons_of_mem _ (List.mem_cons_of_mem _ (List.mem_cons_of_mem _ List.mem_cons_self)))))))
    rcases List.mem_cons.mp hq with rfl | hq
    · exact .inl (List.mem_cons_of_mem _ (List.mem_cons_of_mem _ (List.mem_cons_of_mem _ (List.mem_cons_of_mem _ (List.mem_cons_of_mem _ (List.mem_cons_of_mem _ (List.mem_cons_of_mem _ (List.mem_cons_of_mem _ List.mem_cons_self))))))))
    rcases List.mem_cons.mp hq with rfl | hq
    · exact .inl (List.mem_cons_of_mem _ (List.mem_cons_of_mem _ (List.mem_cons_of_mem _ (List.mem_cons_of_mem _ (List.mem_cons_of_mem _ (List.mem_cons_of_mem _ (List.mem_cons_of_mem _ (List.mem_cons_of_mem _ (List.mem_cons_of_mem _ List.mem_cons_self)))))))))
    obtain rfl := List.mem_singleton.mp hq
    exact .inl (List.mem_cons_of_mem _ (List.mem_cons_of_mem _ (List.mem_cons_of_mem _ (List.mem_cons_of_mem _ (List.mem_cons_of_mem _ (List.mem_cons_of_mem _ (List.mem_cons_of_mem _ (List.mem_cons_of_mem _ (List.mem_cons_of_mem _ (List.mem_cons_of_mem _ List.mem_cons_self))))))))))
  · simp only [List.map_cons, List.map_nil, List.nodup_cons, List.mem_cons, List.not_mem_nil, or_false, not_or, not_false_eq_true, List.nodup_nil, and_true]
    exact ⟨⟨pwne SI 15 14 rfl rfl (by decide), pwne SI 15 13 rfl rfl (by decide), pwne SI 15 0 rfl rfl (by decide), pwne SI 15 2 rfl rfl (by decide), pwne SI 15 1 rfl rfl (by decide), pwne SI 15 3 rfl rfl (by decide), pwne SI 15 7 rfl rfl (by decide), pwne SI 15 12 rfl rfl (by decide), pwne SI 15 6 rfl rfl (by decide), pwne SI 15 11 rfl rfl (by decide)⟩, ⟨pwne SI 14 13 rfl rfl (by decide), pwne SI 14 0 rfl rfl (by decide), pwne SI 14 2 rfl rfl (by decide), pwne SI 14 1 rfl rfl (by decide), pwne SI 14 3 rfl rfl (by decide), pwne SI 14 7 rfl rfl (by decide), pwne SI 14 12 rfl rfl (by decide), pwne SI 14 6 rfl rfl (by decide), pwne SI 14 11 rfl rfl (by decide)⟩, ⟨pwne SI 13 0 rfl rfl (by decide), pwne SI 13 2 rfl rfl (by decide), pwne SI 13 1 rfl rfl (by decide), pwne SI 13 3 rfl rfl (by decide), pwne SI 13 7 rfl rfl (by decide), pwne SI 13 12 rfl rfl (by decide), pwne SI 13 6 rfl rfl (by decide), pwne SI 13 11 rfl rfl (by decide)⟩, ⟨pwne SI 0 2 rfl rfl (by decide), pwne SI 0 1 rfl rfl (by decide), pwne SI 0 3 rfl rfl (by decide), pwne SI 0 7 rfl rfl (by decide), pwne SI 0 12 rfl rfl (by decide), pwne SI 0 6 rfl rfl (by decide), pwne SI 0 11 rfl rfl (by decide)⟩, ⟨pwne SI 2 1 rfl rfl (by decide), pwne SI 2 3 rfl rfl (by decide), pwne SI 2 7 rfl rfl (by decide), pwne SI 2 12 rfl rfl (by decide), pwne SI 2 6 rfl rfl (by decide), pwne SI 2 11 rfl rfl (by decide)⟩, ⟨pwne SI 1 3 rfl rfl (by decide), pwne SI 1 7 rfl rfl (by decide), pwne SI 1 12 rfl rfl (by decide), pwne SI 1 6 rfl rfl (by decide), pwne SI 1 11 rfl rfl (by decide)⟩, ⟨pwne SI 3 7 rfl rfl (by decide), pwne SI 3 12 rfl rfl (by decide), pwne SI 3 6 rfl rfl (by decide), pwne SI 3 11 rfl rfl (by decide)⟩, ⟨pwne SI 7 12 rfl rfl (by decide), pwne SI 7 6 rfl rfl (by decide), pwne SI 7 11 rfl rfl (by decide)⟩, ⟨pwne SI 12 6 rfl rfl (by decide), pwne SI 12 11 rfl rfl (by decide)⟩, pwne SI 6 11 rfl rfl (by decide)⟩
  · rcases List.mem_cons.mp hq with rfl | hq
    · exact incge SI 15 rfl
    rcases List.mem_cons.mp hq with rfl | hq
    · exact incge SI 14 rfl
    rcases List.mem_cons.mp hq with rfl | hq
    · exact incge SI 13 rfl
    rcases List.mem_cons.mp hq with rfl | hq
    · exact incge SI 0 rfl
    rcases List.mem_cons.mp hq with rfl | hq
    · exact incge SI 2 rfl
    rcases List.mem_cons.mp hq with rfl | hq
    · exact incge SI 1 rfl
    rcases List.mem_cons.mp hq with rfl | hq
    · exact incge SI 3 rfl
    rcases List.mem_cons.mp hq with rfl | hq
    · exact incge SI 7 rfl
    rcases List.mem_cons.mp hq with rfl | hq
    · exact incge SI 12 rfl
    rcases List.mem_cons.mp hq with rfl | hq
    · exact incge SI 6 rfl
    obtain rfl := List.mem_singleton.mp hq
    exact incge SI 11 rfl
  · show Z + (s0 + 1109) - (s1 + 1109) + (s1 + 1109) + 0 = _; simp only [Option.getD_none]; omega
  · show t0 + 5 + dca + (5 + dcb) = _; omega
  · obtain ⟨b1, e1, a3, p3, rfl, rfl⟩ := shFn1_spec hsh
    exact turnPT it Lst tu1 pa1 tw1 1 da1 dw1 rpb rpb' ep aepb zcb dcb f (some (t0, .ref (tw0 + 1103))) (some (.ref (pa0 + 1103))) [.ref tu0, .ref tu1] es rb rb' y1 vcb ys1 accb s1 (t0 + 5 + dca) k g l b1 e1 pos pos' kp a3 p3 gens
  refine Summ.ofRunF [(it, liObj Lst 2), (Lst, lsObj [.ref tu0, .ref tu1] 0)] [(it, liEnd (liObj Lst 2)), (Lst, lsObj [.ref tu0, .ref tu1] 0)] 8 [.s 0, .k 0, .s 0, .a fun _ sz _ => sLiEnd 0 1 it Lst 2 [.ref tu0, .ref tu1] 0 sz, .s 3] 2 rfl rfl rfl (fun q hq => ?_) rfl rfl (fun q hq => ?_) (fun q hq => ?_) ?_ (fun q hq => KK_none ?_) rfl ⟨fun cc sz tok _ _ => ⟨sLiEnd_ok rfl sz tok, by simp [sLiEnd]⟩, trivial⟩ (fun k g l code pos pos' kp W gens hsh => ?_)
  · rcases List.mem_cons.mp hq with rfl | hq
    · exact ⟨_, List.mem_cons_self, rfl⟩
    obtain rfl := List.mem_singleton.mp hq
    exact ⟨_, (List.mem_cons_of_mem _ List.mem_cons_self), rfl⟩
  · rcases List.mem_cons.mp hq with rfl | hq
    · exact .inl List.mem_cons_self
    rcases List.mem_cons.mp hq with rfl | hq
    · exact .inr ⟨⟨_, (List.mem_cons_of_mem _ (List.mem_cons_of_mem _ (List.mem_cons_of_mem _ (List.mem_cons_of_mem _ List.mem_cons_self)))), rfl⟩, by simp only [List.map_cons, List.map_nil, List.mem_cons, List.not_mem_nil, or_false, not_or]; refine ⟨?_, ?_⟩ <;> omega⟩
    obtain rfl := List.mem_singleton.mp hq
    exact .inr ⟨⟨_, (List.mem_cons_of_mem _ (List.mem_cons_of_mem _ (List.mem_cons_of_mem _ (List.mem_cons_of_mem _ (List.mem_cons_of_mem _ List.mem_cons_self))))), rfl⟩, by simp only [List.map_cons, List.map_nil, List.mem_cons, List.not_mem_nil, or_false, not_or]; refine ⟨?_, ?_⟩ <;> omega⟩
  · rcases List.mem_cons.mp hq with rfl | hq
    · exact .inr ⟨_, List.mem_cons_self, rfl⟩
    obtain rfl := List.mem_singleton.mp hq
    exact .inl (List.mem_cons_of_mem _ List.mem_cons_self)
  · simp only [List.map_cons, List.map_nil, List.nodup_cons, List.mem_cons, List.not_mem_nil, or_false, not_or, not_false_eq_true, List.nodup_nil, and_true]
    omega
  · rcases List.mem_cons.mp hq with rfl | hq
    · show 1103 ≤ it; omega
    obtain rfl := List.mem_singleton.mp hq
    show 1103 ≤ Lst; omega
  · have := endPT (b := b) (c := c) (w := w) it Lst [.ref tu0, .ref tu1] 2 (zcb + ((rb'.length + (rb.length + (s1 + 1115) + 5)) + 20) + 2) (t0 + 5 + dca + 5 + dcb) k g l code pos pos' kp W gens
    exact this
end Mine
namespace Mine
open PySem PySem.W
variable {b c : Bool} {w : World}
/-- in a for loop of the law's body -/
noncomputable def shFor1 : List (Code × Pos) → Bool
  | [(.forLoop .., _), (.func .., _), (.builtin id _, _)] => id == "claim.caller"
  | _ => false
theorem shFor1_spec {code : Code} {pos : Pos} {W : List (Code × Pos)} (h : shFor1 ((code, pos) :: W) = true) :
    ∃ T I B O e0 b1 e1 p1 a3 p3, code = .forLoop T I B O e0 ∧ W = [(.func b1 e1, p1), (.builtin "claim.caller" a3, p3)] := by
  unfold shFor1 at h
  split at h
  · rename_i heq
    simp only [List.cons.injEq, Prod.mk.injEq] at heq
    obtain ⟨⟨rfl, rfl⟩, rfl⟩ := heq
    have := eq_of_beq h
    subst this
    exact ⟨_, _, _, _, _, _, _, _, _, _, rfl, rfl⟩
  · cases h
noncomputable def sMissL (dd i d : Nat) (es : List E) (ep : Nat) (x : Int) (t tok : Nat) : Summ :=
  { code := .builtin "dict.__getitem__" ⟨[.ref d, .int x t], []⟩, res := .ok (.ret (.int 0 (tok + 3))), pre := [(i, d, dObj clsC (some dd) es ep)], dl := 1, dtok := 4, shape := shFor1 }
theorem missRunL (d dd : Nat) (x : Int) (es : List E) (ep tx sz tok : Nat) (k : Result → Sem PySem.Fin) (g : Bool) (l : List Value) (pos pos' : Pos) (kp : List Value) (gens : List GenState) (T : Expr) (I : Value) (B O : List Stmt) (e0 : Env) (b1 : List Stmt) (e1 : Env) (p1 : Pos) (a3 : Args) (p3 : Pos) :
    chk (tR tP (tW b c w) (KK (tW b c w)) [(.func b1 e1, p1), (.builtin "claim.caller" a3, p3)] 27 [.s 0, .s 0, .k 6, .s 1, .s 1, .s 1, .s 1, .k 0] (mkT [(d + 1103, dObj clsC (some dd) es ep)]) 1 (sz + 1103) gens (tok + 1) [] (tGetRest (d + 1103) (.int x tx)) (.builtin "dict.__getitem__" ⟨[.ref (d + 1103), .int x tx], []⟩) pos' [.ret k none g l (.forLoop T I B O e0) pos kp] [] []) (ends 1 []) =
    chk' (tR tP (tW b c w) (KK (tW b c w)) [(.func b1 e1, p1), (.builtin "claim.caller" a3, p3)] 27 [.s 0, .s 0, .k 6, .s 1, .s 1, .s 1, .s 1, .k 0] (mkT [(d + 1103, dObj clsC (some dd) es ep)]) 1 (sz + 1103) gens (tok + 1) [] (tGetRest (d + 1103) (.int x tx)) (.builtin "dict.__getitem__" ⟨[.ref (d + 1103), .int x tx], []⟩) pos' [.ret k none g l (.forLoop T I B O e0) pos kp] [] [])
      (k (.ok (.ret (.int 0 (tok + 3)))), .forLoop T I B O e0, pos, [], sz + 1103 + 1, tok + 4, appG gens [], [], [(d + 1103, dObj clsC (some dd) es ep)].map some, []) := by
  cases b <;> kernel_rfl
theorem sMissL_ok {dd i d : Nat} {es : List E} {ep : Nat} {x : Int} {t : Nat} (hf : esFind es x = none) (hd : 1103 ≤ d) (sz tok : Nat) (hs : 1103 ≤ sz) : (sMissL dd i d es ep x t tok).Valid (mdl tP (tW b c w)) (KK (tW b c w)) sz tok := by
  obtain ⟨d, rfl⟩ : ∃ d', d = d' + 1103 := ⟨d - 1103, by omega⟩
  obtain ⟨sz, rfl⟩ : ∃ s', sz = s' + 1103 := ⟨sz - 1103, by omega⟩
  refine Summ.ofMid (dictGet (d + 1103) (.int x t)) (getCont (d + 1103) (.int x t)) none 1 (tGetRest (d + 1103) (.int x t)) [(d + 1103, dObj clsC (some dd) es ep)] [(d + 1103, dObj clsC (some dd) es ep)] [] 27 [.s 0, .s 0, .k 6, .s 1, .s 1, .s 1, .s 1, .k 0] 1
    (getitem_code _ _ _) (by rw [tGetRest_eq]; rfl) (fun s hpre ht A hA => ?_) rfl rfl rfl rfl (fun q hq => nomatch hq) (fun q hq => .inl hq) (by simp) (fun q hq => by rw [List.mem_singleton.mp hq]; exact KK_none hd) rfl (fun l hl => nomatch hl) trivial ?_
  · have h1 : s.heap.get? (d + 1103) = some (dObj clsC (some dd) es ep) := hpre (i, d + 1103, _) (List.mem_singleton.mpr rfl)
    refine any_dictGet h1 ⟨by unfold esVal; rw [hf]; rfl, by subst ht; rfl⟩
  · intro k g l code pos pos' kp W gens hsh
    obtain ⟨T, I, B, O, e0, b1, e1, p1, a3, p3, rfl, rfl⟩ := shFor1_spec hsh
    exact missRunL d dd x es ep t sz tok k g l pos pos' kp gens T I B O e0 b1 e1 p1 a3 p3


noncomputable def riObj (v l : Int) : Obj := ⟨.type "range_iterator", none, .fields ⟨[.int v 0, .int l 0, .int 1 0]⟩, #[]⟩
/-- the next of a short range's iterator -/
noncomputable def sRiNext (i it : Nat) (v l v' l' : Int) (tok : Nat) : Summ :=
  { code := cNext "range_iterator.__next__" it, res := .ok (.ret (.int v tok)), pre := [(i, it, riObj v l)], post := [(i, it, riObj v' l')], dtok := 1 }
noncomputable def sRiEnd (i it : Nat) (v l : Int) (sz : Nat) : Summ :=
  { code := cNext "range_iterator.__next__" it, res := .error (.ref (sz + 1)), pre := [(i, it, riObj v l)], new := [(0, tupObj []), (1, stopObj sz)], dl := 2 }
theorem sRiNext_ok {p : Program} {K : Nat → Option Obj} {i it : Nat} {v l v' l' : Int} (hl : 0 < l) (hv : v' = v + 1) (hl' : l' = l - 1) (sz tok : Nat) : (sRiNext i it v l v' l' tok).Valid (mdl p w) K sz tok := by
  subst hv hl'
  refine Summ.ofAny rfl rfl fun s hpre hs ht => ?_
  have h1 : s.heap.get? it = some (riObj v l) := hpre (i, it, riObj v l) List.mem_cons_self
  have h2 : (s.heap.update it (fset 0 (rawInt (v + 1)))).get? it = some ⟨.type "range_iterator", none, .fields ⟨[.int (v + 1) 0, .int l 0, .int 1 0]⟩, #[]⟩ := get_upd _ h1 rfl rfl
  have h3 : ((s.heap.update it (fset 0 (rawInt (v + 1)))).update it (fset 1 (rawInt (l - 1)))).get? it = some (riObj (v + 1) (l - 1)) := get_upd _ h2 rfl rfl
  refine ⟨(s.heap.update it (fset 0 (rawInt (v + 1)))).update it (fset 1 (rawInt (l - 1))), fun A hA => any_builtin F.entry_range_iterator_next ?_, ?_, fun q hq => ?_, (fun q hq => nomatch hq), fun b o hb hn => ?_⟩
  · unfold Builtin.«range_iterator.__next__»
    refine wpAny_bind (wpAny_pure ?_)
    show wpAny _ _ (field (.ref it) 0 >>= _) _ _ s
    refine wpAny_bind (wpAny_field h1 rfl (x := .int v 0) rfl ?_)
    show wpAny _ _ (field (.ref it) 1 >>= _) _ _ s
    refine wpAny_bind (wpAny_field h1 rfl (x := .int l 0) rfl ?_)
    show wpAny _ _ (field (.ref it) 2 >>= _) _ _ s
    refine wpAny_bind (wpAny_field h1 rfl (x := .int 1 0) rfl ?_)
    show wpAny _ _ (if l ≤ 0 then _ else _) _ _ s
    rw [if_neg (by omega)]
    show wpAny _ _ (setField (.ref it) 0 (rawInt (v + 1)) >>= _) _ _ s
    refine wpAny_bind (wpAny_setField h1 rfl (by simp) ?_)
    refine wpAny_bind (wpAny_setField h2 rfl (by simp) ?_)
    refine wpAny_bind (wpAny_mkInt (wpAny_pure ⟨_, rfl, ?_, ?_⟩))
    · subst ht; rfl
    · subst ht; rfl
  · rw [upd_size, upd_size, hs]; exact (Nat.zero_add _).symm
  · rw [List.mem_singleton.mp hq]
    exact h3
  · have n1 : b ≠ it := fun z => hn _ List.mem_cons_self z.symm
    exact (upd_other _ n1).trans ((upd_other _ n1).trans hb)
theorem sRiEnd_ok {p : Program} {K : Nat → Option Obj} {i it : Nat} {v l : Int} (hl : l ≤ 0) (sz tok : Nat) : (sRiEnd i it v l sz).Valid (mdl p w) K sz tok := by
  refine Summ.ofAny rfl rfl fun s hpre hs ht => ?_
  have h1 : s.heap.get? it = some (riObj v l) := hpre (i, it, riObj v l) List.mem_cons_self
  refine ⟨(s.heap.push (tupObj [])).push (stopObj sz), fun A hA => any_builtin F.entry_range_iterator_next ?_, ?_, (fun q hq => nomatch hq), fun q hq => ?_, fun b o hb hn => Heap.get?_push_of_some _ (Heap.get?_push_of_some _ hb)⟩
  · unfold Builtin.«range_iterator.__next__»
    refine wpAny_bind (wpAny_pure ?_)
    show wpAny _ _ (field (.ref it) 0 >>= _) _ _ s
    refine wpAny_bind (wpAny_field h1 rfl (x := .int v 0) rfl ?_)
    show wpAny _ _ (field (.ref it) 1 >>= _) _ _ s
    refine wpAny_bind (wpAny_field h1 rfl (x := .int l 0) rfl ?_)
    show wpAny _ _ (field (.ref it) 2 >>= _) _ _ s
    refine wpAny_bind (wpAny_field h1 rfl (x := .int 1 0) rfl ?_)
    show wpAny _ _ (if l ≤ 0 then _ else _) _ _ s
    rw [if_pos hl]
    refine wpAny_bind (wpAny_rule ?_)
    refine wpAny_bind ?_
    show wpAny _ _ (newExc (.type "StopIteration") [] >>= _) _ _ _
    refine wpAny_bind ?_
    simp only [newExc, newTuple]
    refine wpAny_bind (wpAny_newObj_type ?_ (by size_fits))
    refine wpAny_bind (m := firstArgMember _ _) (wpAny_of_eq (a := Value.none) (by first | rfl | (simp only [firstArgMember]; rfl)) ?_)
    refine wpAny_newObj_type ?_ (by size_fits)
    simp only [raiseNew]
    refine wpAny_bind (wpAny_handled ?_)
    rw [hA]
    refine wpAny_bind (wpAny_pure (wpAny_throw ⟨?_, ?_⟩))
    · rw [Heap.size_push, hs]; rfl
    · subst ht hs; rfl
  · rw [Heap.size_push, Heap.size_push, hs]; show _ = 0 + sz + 2; omega
  · simp only [sRiEnd, List.mem_cons, List.not_mem_nil, or_false] at hq
    rcases hq with rfl | rfl
    · refine Heap.get?_push_of_some _ ?_
      show Heap.get? _ (sz + 0) = _
      rw [Nat.add_zero, ← hs]
      exact Heap.get?_push_size _ rfl
    · have : sz + 1 = (s.heap.push (tupObj [])).objs.size := by rw [Heap.size_push, hs]
      show Heap.get? _ (sz + 1) = _
      rw [this]
      exact Heap.get?_push_size _ rfl
end Mine
namespace Mine
open PySem PySem.W
noncomputable def rgS : Stmt := tstm (sBody lawS) 5
noncomputable def cRg (it : Nat) : Code := sFor rgS (.ref it) envL
noncomputable def frK (P : Params) (f : FrL) (tt : Nat) (tv : Value) : Option (Nat × Value) → Obj
  | none => frObj P [(str "script", f.t0, .ref 1103), (str "x", f.t1, f.v1), (str "bag", f.tb, .ref f.pb), (str "below", f.tw, .ref f.pw), (str "above", f.ta, .ref f.pa), (str "twin", tt, tv)] 6
  | some (t, v) => frObj P [(str "script", f.t0, .ref 1103), (str "x", f.t1, f.v1), (str "bag", f.tb, .ref f.pb), (str "below", f.tw, .ref f.pw), (str "above", f.ta, .ref f.pa), (str "twin", tt, tv), (str "key", t, v)] 7
noncomputable def gv (es : List E) (x : Int) : Int := match esFind es x with
  | some e => e.v
  | none => 0
noncomputable def gu (es : List E) (x : Int) (t : Nat) : Nat := match esFind es x with
  | some e => e.u
  | none => t
theorem gval (es : List E) (x : Int) (t : Nat) : (esVal es x).getD (.int 0 t) = .int (gv es x) (gu es x t) := by
  unfold esVal gv gu
  cases esFind es x <;> rfl
end Mine
namespace Mine
theorem ri_pos {n : Nat} (h : n < 5) : 0 < 5 - Int.ofNat n := by
  show (0 : Int) < 5 - (n : Int)
  omega
theorem ri_a (n : Nat) : Int.ofNat (n + 1) = Int.ofNat n + 1 := rfl
theorem ri_b (n : Nat) : 5 - Int.ofNat (n + 1) = 5 - Int.ofNat n - 1 := by
  show 5 - ((n + 1 : Nat) : Int) = 5 - (n : Int) - 1
  omega
end Mine
namespace Mine
open PySem PySem.W
variable {b c : Bool} {w : World}
theorem gv_of (es : List E) (x : Int) : gv es x = ((esFind es x).map (·.v)).getD 0 := by
  unfold gv
  cases esFind es x <;> rfl
structure rgSt where
  lo : Option (Nat × Value)
noncomputable def rgL (P : Params) (i0 i1 i2 i3 i4 i5 : Nat) (it A B da db rpa rpb ep tt : Nat) (tv : Value) (f : FrL) (es ra rb : List E) (x0 : E) : Loop rgSt Nat where
  code := cRg it
  res := .ok .next
  slots n st := [(i0, it, riObj (Int.ofNat n) (5 - Int.ofNat n)), (i1, 1104, frK P { f with pw := B + 1103, pa := A + 1103 } tt tv st.lo), (i2, 1105, ceObj (some (.ref 1107))), (i3, 1107, dObj clsD none es ep), (i4, A + 1103, dObj clsC (some da) ra rpa), (i5, B + 1103, dObj clsC (some db) rb rpb)]
  fin n st := [(it, riObj (Int.ofNat n) (5 - Int.ofNat n)), (1104, frK P { f with pw := B + 1103, pa := A + 1103 } tt tv st.lo), (1105, ceObj (some (.ref 1107))), (1107, dObj clsD none es ep), (A + 1103, dObj clsC (some da) ra rpa), (B + 1103, dObj clsC (some db) rb rpb)]
  post n st := [(i0, it, riObj (Int.ofNat n) (5 - Int.ofNat n)), (i1, 1104, frK P { f with pw := B + 1103, pa := A + 1103 } tt tv st.lo)]
  edl := 2
  edt := 0
  step q st t := match esFind ra (Int.ofNat q), esFind rb (Int.ofNat q) with
    | some x1, none => ⟨cmSet (t + 1) (.int (Int.ofNat q) t) st.lo⟩
    | none, some x2 => ⟨cmSet (t + 1) (.int (Int.ofNat q) t) st.lo⟩
    | none, none => ⟨cmSet (t + 1) (.int (Int.ofNat q) t) st.lo⟩
    | _, _ => st
  sdl q st t := match esFind ra (Int.ofNat q), esFind rb (Int.ofNat q) with
    | some x1, none => 1
    | none, some x2 => 1
    | none, none => 2
    | _, _ => 0
  sdt q st t := match esFind ra (Int.ofNat q), esFind rb (Int.ofNat q) with
    | some x1, none => 12
    | none, some x2 => 11
    | none, none => 14
    | _, _ => 0
  shape := shFn1
noncomputable def slrg (P : Params) (it A B da db rpa rpb ep tt : Nat) (tv : Value) (f : FrL) (es ra rb : List E) (x0 : E) (n : Nat) (lo : Option (Nat × Value)) : List (Nat × Obj) := [(it, riObj (Int.ofNat n) (5 - Int.ofNat n)), (1104, frK P { f with pw := B + 1103, pa := A + 1103 } tt tv lo), (1105, ceObj (some (.ref 1107))), (1107, dObj clsD none es ep), (A + 1103, dObj clsC (some da) ra rpa), (B + 1103, dObj clsC (some db) rb rpb)]
noncomputable def org0 (it A B da db rpa rpb ep tt : Nat) (tv : Value) (f : FrL) (es ra rb : List E) (x0 : E) (n : Nat) (lo : Option (Nat × Value)) (q : Nat) (x1 x2 : E) : List Op := [.s 0, .k 0, .s 0, .a (fun _ _ tok => sRiNext 0 it (Int.ofNat n) (5 - Int.ofNat n) (Int.ofNat (n + 1)) (5 - Int.ofNat (n + 1)) tok), .s 1, .s 1, .s 1, .s 1, .s 4, .k 2, .s 4, .k 0, .s 4, .k 3, .s 4, .k 0, .a (fun cc _ _ => sHit clsC (some da) 4 (A + 1103) ra rpa (Int.ofNat n) (argTok cc 1) x1), .s 1, .s 1, .s 5, .k 2, .s 5, .k 0, .s 5, .k 3, .s 5, .k 0, .a (fun cc sz tok => guard sz (sMissL db 5 (B + 1103) rb rpb (Int.ofNat n) (argTok cc 1) tok)), .k 0, .s 2, .s 3, .s 3, .s 3, .s 3, .s 1, .k 0, .s 3, .a (fun cc _ _ => sGetD clsD none 3 1107 es ep (Int.ofNat n) (argTok cc 1) (.int 0 (argTok cc 2)) (.int (gv es (Int.ofNat n)) (gu es (Int.ofNat n) (argTok cc 2)))), .k 0, .a (fun cc _ _ => sCmp "int.__ne__" (x1.v - 0) (gv es (Int.ofNat n)) false cc), .s 1, .s 1, .s 4, .k 2, .s 4, .k 3, .s 4, .k 0, .a (fun cc _ _ => sHas clsC (some da) 4 (A + 1103) ra rpa (Int.ofNat n) (argTok cc 1) true), .s 1, .s 1, .s 5, .k 2, .s 5, .k 3, .s 5, .k 0, .a (fun cc _ _ => sHas clsC (some db) 5 (B + 1103) rb rpb (Int.ofNat n) (argTok cc 1) false)]
theorem trg0 (it A B da db rpa rpb ep tt : Nat) (tv : Value) (f : FrL) (es ra rb : List E) (x0 : E) (n : Nat) (lo : Option (Nat × Value)) (q : Nat) (x1 x2 : E) (sz tok : Nat) (k : Result → Sem PySem.Fin) (g : Bool) (l : List Value) (b1 : List Stmt) (e1 : Env) (pos pos' : Pos) (kp : List Value) (a3 : Args) (p3 : Pos) (gens : List GenState) :
    chk (tR tP (tW b c w) (KK (tW b c w)) (W1 a3 p3) 111 (org0 it A B da db rpa rpb ep tt tv f es ra rb x0 n lo q x1 x2) (mkT (slrg (tW b c w).params it A B da db rpa rpb ep tt tv f es ra rb x0 n lo)) 6 (sz + 1103) gens tok [] (tD (cRg it)) (cRg it) pos' [.ret k none g l (.func b1 e1) pos kp] [] []) (turns 6) =
    chk' (tR tP (tW b c w) (KK (tW b c w)) (W1 a3 p3) 111 (org0 it A B da db rpa rpb ep tt tv f es ra rb x0 n lo q x1 x2) (mkT (slrg (tW b c w).params it A B da db rpa rpb ep tt tv f es ra rb x0 n lo)) 6 (sz + 1103) gens tok [] (tD (cRg it)) (cRg it) pos' [.ret k none g l (.func b1 e1) pos kp] [] [])
      (tD (cRg it), cRg it, [.ret k none g l (.func b1 e1) pos kp], sz + 1103 + 1, tok + 12, appG gens [], (slrg (tW b c w).params it A B da db rpa rpb ep tt tv f es ra rb x0 (n + 1) (cmSet (tok + 1) (.int (Int.ofNat n) tok) lo)).map some) := by
  cases lo <;> cases b <;> kernel_rfl
noncomputable def org1 (it A B da db rpa rpb ep tt : Nat) (tv : Value) (f : FrL) (es ra rb : List E) (x0 : E) (n : Nat) (lo : Option (Nat × Value)) (q : Nat) (x1 x2 : E) : List Op := [.s 0, .k 0, .s 0, .a (fun _ _ tok => sRiNext 0 it (Int.ofNat n) (5 - Int.ofNat n) (Int.ofNat (n + 1)) (5 - Int.ofNat (n + 1)) tok), .s 1, .s 1, .s 1, .s 1, .s 4, .k 2, .s 4, .k 0, .s 4, .k 3, .s 4, .k 0, .a (fun cc sz tok => guard sz (sMissL da 4 (A + 1103) ra rpa (Int.ofNat n) (argTok cc 1) tok)), .s 1, .s 1, .s 5, .k 2, .s 5, .k 0, .s 5, .k 3, .s 5, .k 0, .a (fun cc _ _ => sHit clsC (some db) 5 (B + 1103) rb rpb (Int.ofNat n) (argTok cc 1) x2), .k 0, .s 2, .s 3, .s 3, .s 3, .s 3, .s 1, .k 0, .s 3, .a (fun cc _ _ => sGetD clsD none 3 1107 es ep (Int.ofNat n) (argTok cc 1) (.int 0 (argTok cc 2)) (.int (gv es (Int.ofNat n)) (gu es (Int.ofNat n) (argTok cc 2)))), .k 0, .a (fun cc _ _ => sCmp "int.__ne__" (0 - x2.v) (gv es (Int.ofNat n)) false cc), .s 1, .s 1, .s 4, .k 2, .s 4, .k 3, .s 4, .k 0, .a (fun cc _ _ => sHas clsC (some da) 4 (A + 1103) ra rpa (Int.ofNat n) (argTok cc 1) false)]
theorem trg1 (it A B da db rpa rpb ep tt : Nat) (tv : Value) (f : FrL) (es ra rb : List E) (x0 : E) (n : Nat) (lo : Option (Nat × Value)) (q : Nat) (x1 x2 : E) (sz tok : Nat) (k : Result → Sem PySem.Fin) (g : Bool) (l : List Value) (b1 : List Stmt) (e1 : Env) (pos pos' : Pos) (kp : List Value) (a3 : Args) (p3 : Pos) (gens : List GenState) :
    chk (tR tP (tW b c w) (KK (tW b c w)) (W1 a3 p3) 94 (org1 it A B da db rpa rpb ep tt tv f es ra rb x0 n lo q x1 x2) (mkT (slrg (tW b c w).params it A B da db rpa rpb ep tt tv f es ra rb x0 n lo)) 6 (sz + 1103) gens tok [] (tD (cRg it)) (cRg it) pos' [.ret k none g l (.func b1 e1) pos kp] [] []) (turns 6) =
    chk' (tR tP (tW b c w) (KK (tW b c w)) (W1 a3 p3) 94 (org1 it A B da db rpa rpb ep tt tv f es ra rb x0 n lo q x1 x2) (mkT (slrg (tW b c w).params it A B da db rpa rpb ep tt tv f es ra rb x0 n lo)) 6 (sz + 1103) gens tok [] (tD (cRg it)) (cRg it) pos' [.ret k none g l (.func b1 e1) pos kp] [] [])
      (tD (cRg it), cRg it, [.ret k none g l (.func b1 e1) pos kp], sz + 1103 + 1, tok + 11, appG gens [], (slrg (tW b c w).params it A B da db rpa rpb ep tt tv f es ra rb x0 (n + 1) (cmSet (tok + 1) (.int (Int.ofNat n) tok) lo)).map some) := by
  cases lo <;> cases b <;> kernel_rfl
noncomputable def org2 (it A B da db rpa rpb ep tt : Nat) (tv : Value) (f : FrL) (es ra rb : List E) (x0 : E) (n : Nat) (lo : Option (Nat × Value)) (q : Nat) (x1 x2 : E) : List Op := [.s 0, .k 0, .s 0, .a (fun _ _ tok => sRiNext 0 it (Int.ofNat n) (5 - Int.ofNat n) (Int.ofNat (n + 1)) (5 - Int.ofNat (n + 1)) tok), .s 1, .s 1, .s 1, .s 1, .s 4, .k 2, .s 4, .k 0, .s 4, .k 3, .s 4, .k 0, .a (fun cc sz tok => guard sz (sMissL da 4 (A + 1103) ra rpa (Int.ofNat n) (argTok cc 1) tok)), .s 1, .s 1, .s 5, .k 2, .s 5, .k 0, .s 5, .k 3, .s 5, .k 0, .a (fun cc sz tok => guard sz (sMissL db 5 (B + 1103) rb rpb (Int.ofNat n) (argTok cc 1) tok)), .k 0, .s 2, .s 3, .s 3, .s 3, .s 3, .s 1, .k 0, .s 3, .a (fun cc _ _ => sGetD clsD none 3 1107 es ep (Int.ofNat n) (argTok cc 1) (.int 0 (argTok cc 2)) (.int (gv es (Int.ofNat n)) (gu es (Int.ofNat n) (argTok cc 2)))), .k 0, .a (fun cc _ _ => sCmp "int.__ne__" (0 - 0) (gv es (Int.ofNat n)) false cc), .s 1, .s 1, .s 4, .k 2, .s 4, .k 3, .s 4, .k 0, .a (fun cc _ _ => sHas clsC (some da) 4 (A + 1103) ra rpa (Int.ofNat n) (argTok cc 1) false)]
theorem trg2 (it A B da db rpa rpb ep tt : Nat) (tv : Value) (f : FrL) (es ra rb : List E) (x0 : E) (n : Nat) (lo : Option (Nat × Value)) (q : Nat) (x1 x2 : E) (sz tok : Nat) (k : Result → Sem PySem.Fin) (g : Bool) (l : List Value) (b1 : List Stmt) (e1 : Env) (pos pos' : Pos) (kp : List Value) (a3 : Args) (p3 : Pos) (gens : List GenState) :
    chk (tR tP (tW b c w) (KK (tW b c w)) (W1 a3 p3) 94 (org2 it A B da db rpa rpb ep tt tv f es ra rb x0 n lo q x1 x2) (mkT (slrg (tW b c w).params it A B da db rpa rpb ep tt tv f es ra rb x0 n lo)) 6 (sz + 1103) gens tok [] (tD (cRg it)) (cRg it) pos' [.ret k none g l (.func b1 e1) pos kp] [] []) (turns 6) =
    chk' (tR tP (tW b c w) (KK (tW b c w)) (W1 a3 p3) 94 (org2 it A B da db rpa rpb ep tt tv f es ra rb x0 n lo q x1 x2) (mkT (slrg (tW b c w).params it A B da db rpa rpb ep tt tv f es ra rb x0 n lo)) 6 (sz + 1103) gens tok [] (tD (cRg it)) (cRg it) pos' [.ret k none g l (.func b1 e1) pos kp] [] [])
      (tD (cRg it), cRg it, [.ret k none g l (.func b1 e1) pos kp], sz + 1103 + 2, tok + 14, appG gens [], (slrg (tW b c w).params it A B da db rpa rpb ep tt tv f es ra rb x0 (n + 1) (cmSet (tok + 1) (.int (Int.ofNat n) tok) lo)).map some) := by
  cases lo <;> cases b <;> kernel_rfl
noncomputable def orgE (it A B da db rpa rpb ep tt : Nat) (tv : Value) (f : FrL) (es ra rb : List E) (x0 : E) (n : Nat) (lo : Option (Nat × Value)) : List Op := [.s 0, .k 0, .s 0, .a (fun _ sz _ => sRiEnd 0 it (Int.ofNat n) (5 - Int.ofNat n) sz), .s 7]
theorem erg (it A B da db rpa rpb ep tt : Nat) (tv : Value) (f : FrL) (es ra rb : List E) (x0 : E) (n : Nat) (lo : Option (Nat × Value)) (sz tok : Nat) (k : Result → Sem PySem.Fin) (g : Bool) (l : List Value) (b1 : List Stmt) (e1 : Env) (pos pos' : Pos) (kp : List Value) (a3 : Args) (p3 : Pos) (gens : List GenState) :
    chk (tR tP (tW b c w) (KK (tW b c w)) (W1 a3 p3) 8 (orgE it A B da db rpa rpb ep tt tv f es ra rb x0 n lo) (mkT (slrg (tW b c w).params it A B da db rpa rpb ep tt tv f es ra rb x0 n lo)) 6 (sz + 1103) gens tok [] (tD (cRg it)) (cRg it) pos' [.ret k none g l (.func b1 e1) pos kp] [] []) (ends 6 []) =
    chk' (tR tP (tW b c w) (KK (tW b c w)) (W1 a3 p3) 8 (orgE it A B da db rpa rpb ep tt tv f es ra rb x0 n lo) (mkT (slrg (tW b c w).params it A B da db rpa rpb ep tt tv f es ra rb x0 n lo)) 6 (sz + 1103) gens tok [] (tD (cRg it)) (cRg it) pos' [.ret k none g l (.func b1 e1) pos kp] [] [])
      (k (.ok .next), (.func b1 e1), pos, [], sz + 1103 + 2, tok + 0, appG gens [], [], [(it, riObj (Int.ofNat n) (5 - Int.ofNat n)), (1104, frK (tW b c w).params { f with pw := B + 1103, pa := A + 1103 } tt tv lo), (1105, ceObj (some (.ref 1107))), (1107, dObj clsD none es ep), (A + 1103, dObj clsC (some da) ra rpa), (B + 1103, dObj clsC (some db) rb rpb)].map some, []) := by
  cases lo <;> cases b <;> kernel_rfl
theorem rgL_ok {i0 i1 i2 i3 i4 i5 : Nat} {it A B da db rpa rpb ep tt : Nat} {tv : Value} {f : FrL} {es ra rb : List E} {x0 : E} (els : List Nat) (h5 : els.length = 5) (hg : ∀ n, n < 5 → gv ra (Int.ofNat n) - gv rb (Int.ofNat n) = gv es (Int.ofNat n)) (hab : ∀ n, n < 5 → esFind ra (Int.ofNat n) = none ∨ esFind rb (Int.ofNat n) = none) (nd : [it, 1104, 1105, 1107, A + 1103, B + 1103].Nodup) (hge : ∀ x ∈ [it, 1104, 1105, 1107, A + 1103, B + 1103], 1103 ≤ x) (hel : ∀ (n : Nat) (e : Nat), els[n]? = some e → e = n ∧ n < 5) (st : rgSt) (hst : True) (sz tok : Nat) (hsz : 1103 ≤ sz) :
    ((rgL (tW b c w).params i0 i1 i2 i3 i4 i5 it A B da db rpa rpb ep tt tv f es ra rb x0).S 0 els st tok).Valid (mdl tP (tW b c w)) (KK (tW b c w)) sz tok := by
  refine Loop.valid _ [it, 1104, 1105, 1107, A + 1103, B + 1103] [it, 1104] 6 (fun n st => True) (fun n q => q = n ∧ n < 5) (fun n => n = els.length) 1103 (fun _ _ => rfl) rfl (fun _ _ => rfl) nd (fun x hx => KK_none (hge x hx)) (fun _ _ => rfl) (fun n st n' st' q hq => ?_)
    (fun n st q sz tok hs hI he => ?_) (fun n st sz tok hs hI hl => ?_) (fun _ _ => rfl) (fun n st q hq => ?_) (fun n st q hq => ?_) els 0 st sz tok hsz (fun i e h => by rw [Nat.zero_add]; exact hel i e h) (by rw [Nat.zero_add]) hst
  · simp only [rgL, List.mem_cons, List.not_mem_nil, or_false] at hq
    rcases hq with rfl | rfl | rfl | rfl | rfl | rfl <;> simp [rgL]
  · obtain ⟨sz, rfl⟩ : ∃ s', sz = s' + 1103 := ⟨sz - 1103, by omega⟩
    have hlt := he.2
    have e1 := he.1.symm
    subst e1
    cases h0 : esFind ra (Int.ofNat n) with
    | some x1 =>
      cases h1 : esFind rb (Int.ofNat n) with
      | some x2 =>
        exfalso
        rcases hab n hlt with z | z
        · rw [z] at h0; cases h0
        · rw [z] at h1; cases h1
      | none =>
        have hq : (x1.v - 0 != gv es (Int.ofNat n)) = false := by
          have := hg n hlt
          rw [gv_of ra, gv_of rb, h0, h1] at this
          simp only [Option.map_some, Option.map_none, Option.getD_some, Option.getD_none] at this
          rw [this]
          exact bne_self_eq_false _
        have hs : (rgL (tW b c w).params i0 i1 i2 i3 i4 i5 it A B da db rpa rpb ep tt tv f es ra rb x0).step n st tok = ⟨cmSet (tok + 1) (.int (Int.ofNat n) tok) st.lo⟩ := by simp only [rgL, h0, h1]
        have hd : (rgL (tW b c w).params i0 i1 i2 i3 i4 i5 it A B da db rpa rpb ep tt tv f es ra rb x0).sdl n st tok = 1 := by simp only [rgL, h0, h1]
        have ht : (rgL (tW b c w).params i0 i1 i2 i3 i4 i5 it A B da db rpa rpb ep tt tv f es ra rb x0).sdt n st tok = 12 := by simp only [rgL, h0, h1]
        rw [hs, hd, ht]
        refine ⟨trivial, 111, org0 it A B da db rpa rpb ep tt tv f es ra rb x0 n st.lo n x1 x0, ⟨fun cc sz tok _ _ => ⟨sRiNext_ok (ri_pos hlt) (ri_a n) (ri_b n) sz tok, by simp [sRiNext]⟩, fun cc sz tok _ _ => ⟨sHit_ok h0 sz tok, by simp [sHit]⟩, fun cc sz tok _ _ => ⟨guard_ok (fun h => sMissL_ok h1 (hge (B + 1103) (by simp)) sz tok h), guard_nd (by simp [sMissL])⟩, fun cc sz tok _ _ => ⟨sGetD_ok (gval ..) (by decide) sz tok, by simp [sGetD]⟩, fun cc sz tok _ _ => ⟨sNe_ok (hq) cc sz tok, by simp [sCmp]⟩, fun cc sz tok _ _ => ⟨sHas_ok (by rw [h0]; rfl) (notSys (hge (A + 1103) (by simp))) sz tok, by simp [sHas]⟩, fun cc sz tok _ _ => ⟨sHas_ok (by rw [h1]; rfl) (notSys (hge (B + 1103) (by simp))) sz tok, by simp [sHas]⟩, trivial⟩, fun k g l code pos pos' kp W gens hsh => ?_⟩
        obtain ⟨b1, e1, a3, p3, rfl, rfl⟩ := shFn1_spec hsh
        exact trg0 it A B da db rpa rpb ep tt tv f es ra rb x0 n st.lo n x1 x0 sz tok k g l b1 e1 pos pos' kp a3 p3 gens
    | none =>
      cases h1 : esFind rb (Int.ofNat n) with
      | some x2 =>
        have hq : (0 - x2.v != gv es (Int.ofNat n)) = false := by
          have := hg n hlt
          rw [gv_of ra, gv_of rb, h0, h1] at this
          simp only [Option.map_some, Option.map_none, Option.getD_some, Option.getD_none] at this
          rw [this]
          exact bne_self_eq_false _
        have hs : (rgL (tW b c w).params i0 i1 i2 i3 i4 i5 it A B da db rpa rpb ep tt tv f es ra rb x0).step n st tok = ⟨cmSet (tok + 1) (.int (Int.ofNat n) tok) st.lo⟩ := by simp only [rgL, h0, h1]
        have hd : (rgL (tW b c w).params i0 i1 i2 i3 i4 i5 it A B da db rpa rpb ep tt tv f es ra rb x0).sdl n st tok = 1 := by simp only [rgL, h0, h1]
        have ht : (rgL (tW b c w).params i0 i1 i2 i3 i4 i5 it A B da db rpa rpb ep tt tv f es ra rb x0).sdt n st tok = 11 := by simp only [rgL, h0, h1]
        rw [hs, hd, ht]
        refine ⟨trivial, 94, org1 it A B da db rpa rpb ep tt tv f es ra rb x0 n st.lo n x0 x2, ⟨fun cc sz tok _ _ => ⟨sRiNext_ok (ri_pos hlt) (ri_a n) (ri_b n) sz tok, by simp [sRiNext]⟩, fun cc sz tok _ _ => ⟨guard_ok (fun h => sMissL_ok h0 (hge (A + 1103) (by simp)) sz tok h), guard_nd (by simp [sMissL])⟩, fun cc sz tok _ _ => ⟨sHit_ok h1 sz tok, by simp [sHit]⟩, fun cc sz tok _ _ => ⟨sGetD_ok (gval ..) (by decide) sz tok, by simp [sGetD]⟩, fun cc sz tok _ _ => ⟨sNe_ok (hq) cc sz tok, by simp [sCmp]⟩, fun cc sz tok _ _ => ⟨sHas_ok (by rw [h0]; rfl) (notSys (hge (A + 1103) (by simp))) sz tok, by simp [sHas]⟩, trivial⟩, fun k g l code pos pos' kp W gens hsh => ?_⟩
        obtain ⟨b1, e1, a3, p3, rfl, rfl⟩ := shFn1_spec hsh
        exact trg1 it A B da db rpa rpb ep tt tv f es ra rb x0 n st.lo n x0 x2 sz tok k g l b1 e1 pos pos' kp a3 p3 gens
      | none =>
        have hq : (0 - 0 != gv es (Int.ofNat n)) = false := by
          have := hg n hlt
          rw [gv_of ra, gv_of rb, h0, h1] at this
          simp only [Option.map_some, Option.map_none, Option.getD_some, Option.getD_none] at this
          rw [this]
          exact bne_self_eq_false _
        have hs : (rgL (tW b c w).params i0 i1 i2 i3 i4 i5 it A B da db rpa rpb ep tt tv f es ra rb x0).step n st tok = ⟨cmSet (tok + 1) (.int (Int.ofNat n) tok) st.lo⟩ := by simp only [rgL, h0, h1]
        have hd : (rgL (tW b c w).params i0 i1 i2 i3 i4 i5 it A B da db rpa rpb ep tt tv f es ra rb x0).sdl n st tok = 2 := by simp only [rgL, h0, h1]
        have ht : (rgL (tW b c w).params i0 i1 i2 i3 i4 i5 it A B da db rpa rpb ep tt tv f es ra rb x0).sdt n st tok = 14 := by simp only [rgL, h0, h1]
        rw [hs, hd, ht]
        refine ⟨trivial, 94, org2 it A B da db rpa rpb ep tt tv f es ra rb x0 n st.lo n x0 x0, ⟨fun cc sz tok _ _ => ⟨sRiNext_ok (ri_pos hlt) (ri_a n) (ri_b n) sz tok, by simp [sRiNext]⟩, fun cc sz tok _ _ => ⟨guard_ok (fun h => sMissL_ok h0 (hge (A + 1103) (by simp)) sz tok h), guard_nd (by simp [sMissL])⟩, fun cc sz tok _ _ => ⟨guard_ok (fun h => sMissL_ok h1 (hge (B + 1103) (by simp)) sz tok h), guard_nd (by simp [sMissL])⟩, fun cc sz tok _ _ => ⟨sGetD_ok (gval ..) (by decide) sz tok, by simp [sGetD]⟩, fun cc sz tok _ _ => ⟨sNe_ok (hq) cc sz tok, by simp [sCmp]⟩, fun cc sz tok _ _ => ⟨sHas_ok (by rw [h0]; rfl) (notSys (hge (A + 1103) (by simp))) sz tok, by simp [sHas]⟩, trivial⟩, fun k g l code pos pos' kp W gens hsh => ?_⟩
        obtain ⟨b1, e1, a3, p3, rfl, rfl⟩ := shFn1_spec hsh
        exact trg2 it A B da db rpa rpb ep tt tv f es ra rb x0 n st.lo n x0 x0 sz tok k g l b1 e1 pos pos' kp a3 p3 gens
  · subst hl
    obtain ⟨sz, rfl⟩ : ∃ s', sz = s' + 1103 := ⟨sz - 1103, by omega⟩
    refine ⟨8, orgE it A B da db rpa rpb ep tt tv f es ra rb x0 els.length st.lo, ⟨fun cc sz tok _ _ => ⟨sRiEnd_ok (by rw [h5]; decide) sz tok, by simp [sRiEnd]⟩, trivial⟩, fun k g l code pos pos' kp W gens hsh => ?_⟩
    obtain ⟨b1, e1, a3, p3, rfl, rfl⟩ := shFn1_spec hsh
    exact erg it A B da db rpa rpb ep tt tv f es ra rb x0 els.length st.lo sz tok k g l b1 e1 pos pos' kp a3 p3 gens
  · simp only [rgL, List.mem_cons, List.not_mem_nil, or_false] at hq
    rcases hq with rfl | rfl <;> simp [rgL]
  · simp only [rgL, List.mem_cons, List.not_mem_nil, or_false] at hq
    rcases hq with rfl | rfl | rfl | rfl | rfl | rfl <;> simp [rgL]
end Mine
namespace Mine
open PySem PySem.W
noncomputable def totS : Stmt := tstm (sBody lawS) 6
noncomputable def totCE : PySem.Expr := callA (cmpR (boolV (ifTest totS) 0))
noncomputable def envTot (L : Nat) : Env := ⟨scCell (compSc totCE), L, 3, [(str "counts", 1105)], str "law.<locals>.", none, .ref 1101, some 1104, 0⟩
noncomputable def cTot (it acc L : Nat) : Code := .compLoop totCE 0 (.ref it) (.ref acc) (envTot L)
end Mine
namespace Mine
open PySem PySem.W
variable {b c : Bool} {w : World}
structure totSt where
  acc : List Value
  aep : Nat
  lo : Option (Nat × Value)
noncomputable def totL (P : Params) (i0 i1 i2 i3 i4 : Nat) (it a L ep : Nat) (es : List E) : Loop totSt E where
  code := cTot it a L
  res := .ok .next
  slots n st := [(i0, it, kiObj 1107 n (eln es) ep), (i1, 1107, dObj clsD none es ep), (i2, a, lsObj st.acc st.aep), (i3, L, cmObj P "key" st.lo), (i4, 1105, ceObj (some (.ref 1107)))]
  fin n st := [(it, KiEnd (kiObj 1107 n (eln es) ep)), (1107, dObj clsD none es ep), (a, lsObj st.acc st.aep), (L, cmObj P "key" st.lo), (1105, ceObj (some (.ref 1107)))]
  post n st := [(i0, it, KiEnd (kiObj 1107 n (eln es) ep)), (i2, a, lsObj st.acc st.aep), (i3, L, cmObj P "key" st.lo)]
  edl := 2
  edt := 0
  step e st t := ⟨st.acc ++ [.int e.v e.u], st.aep + 1, cmSet t (.int e.k e.t) st.lo⟩
  sdl e st t := 0
  sdt e st t := 2
noncomputable def sltot (P : Params) (it a L ep : Nat) (es : List E) (n : Nat) (acc : List Value) (aep : Nat) (lo : Option (Nat × Value)) : List (Nat × Obj) := [(it, kiObj 1107 n (eln es) ep), (1107, dObj clsD none es ep), (a, lsObj acc aep), (L, cmObj P "key" lo), (1105, ceObj (some (.ref 1107)))]
noncomputable def otot0 (it a L ep : Nat) (es : List E) (n : Nat) (acc : List Value) (aep : Nat) (lo : Option (Nat × Value)) (e : E)  : List Op := [.s 0, .k 0, .s 0, .a (fun _ _ _ => sKiNext 0 1 it 1107 n clsD none es ep e), .s 3, .s 3, .s 4, .s 3, .s 1, .s 1, .s 1, .k 0, .s 1, .a (fun _ _ _ => sHit clsD none 1 1107 es ep e.k e.t e), .k 0, .s 2, .a (fun _ _ _ => sApp 2 a acc (.int e.v e.u) aep)]
theorem ttot0 (it a L ep : Nat) (es : List E) (n : Nat) (acc : List Value) (aep : Nat) (lo : Option (Nat × Value)) (e : E)  (sz tok : Nat) (k : Result → Sem PySem.Fin) (g : Bool) (l : List Value) (code : Code) (pos pos' : Pos) (kp : List Value) (W : List (Code × Pos)) (gens : List GenState) :
    chk (tR tP (tW b c w) (KK (tW b c w)) W 27 (otot0 it a L ep es n acc aep lo e ) (mkT (sltot (tW b c w).params it a L ep es n acc aep lo)) 5 (sz + 1103) gens tok [] (tD (cTot it a L)) (cTot it a L) pos' [.ret k none g l code pos kp] [] []) (turns 5) =
    chk' (tR tP (tW b c w) (KK (tW b c w)) W 27 (otot0 it a L ep es n acc aep lo e ) (mkT (sltot (tW b c w).params it a L ep es n acc aep lo)) 5 (sz + 1103) gens tok [] (tD (cTot it a L)) (cTot it a L) pos' [.ret k none g l code pos kp] [] [])
      (tD (cTot it a L), cTot it a L, [.ret k none g l code pos kp], sz + 1103 + 0, tok + 2, appG gens [], (sltot (tW b c w).params it a L ep es (n + 1) (acc ++ [.int e.v e.u]) (aep + 1) (cmSet tok (.int e.k e.t) lo)).map some) := by
  cases lo <;> cases b <;> kernel_rfl
noncomputable def ototE (it a L ep : Nat) (es : List E) (n : Nat) (acc : List Value) (aep : Nat) (lo : Option (Nat × Value)) : List Op := [.s 0, .k 0, .s 0, .a (fun _ sz _ => sKiEnd 0 1 it 1107 n clsD none es ep sz), .s 6]
theorem etot (it a L ep : Nat) (es : List E) (n : Nat) (acc : List Value) (aep : Nat) (lo : Option (Nat × Value)) (sz tok : Nat) (k : Result → Sem PySem.Fin) (g : Bool) (l : List Value) (code : Code) (pos pos' : Pos) (kp : List Value) (W : List (Code × Pos)) (gens : List GenState) :
    chk (tR tP (tW b c w) (KK (tW b c w)) W 7 (ototE it a L ep es n acc aep lo) (mkT (sltot (tW b c w).params it a L ep es n acc aep lo)) 5 (sz + 1103) gens tok [] (tD (cTot it a L)) (cTot it a L) pos' [.ret k none g l code pos kp] [] []) (ends 5 []) =
    chk' (tR tP (tW b c w) (KK (tW b c w)) W 7 (ototE it a L ep es n acc aep lo) (mkT (sltot (tW b c w).params it a L ep es n acc aep lo)) 5 (sz + 1103) gens tok [] (tD (cTot it a L)) (cTot it a L) pos' [.ret k none g l code pos kp] [] [])
      (k (.ok .next), code, pos, [], sz + 1103 + 2, tok + 0, appG gens [], [], [(it, KiEnd (kiObj 1107 n (eln es) ep)), (1107, dObj clsD none es ep), (a, lsObj acc aep), (L, cmObj (tW b c w).params "key" lo), (1105, ceObj (some (.ref 1107)))].map some, []) := by
  cases lo <;> cases b <;> kernel_rfl
theorem totL_ok {i0 i1 i2 i3 i4 : Nat} {it a L ep : Nat} {es : List E} (els : List E) (h8 : els.length ≤ 8) (hels : es.length = els.length) (nd : [it, 1107, a, L, 1105].Nodup) (hge : ∀ x ∈ [it, 1107, a, L, 1105], 1103 ≤ x) (hel : ∀ (n : Nat) (e : E), els[n]? = some e → es[n]? = some e ∧ esFind es e.k = some e) (st : totSt) (hst : st.acc.length ≤ 0) (sz tok : Nat) (hsz : 1103 ≤ sz) :
    ((totL (tW b c w).params i0 i1 i2 i3 i4 it a L ep es).S 0 els st tok).Valid (mdl tP (tW b c w)) (KK (tW b c w)) sz tok := by
  refine Loop.valid _ [it, 1107, a, L, 1105] [it, a, L] 5 (fun n st => st.acc.length ≤ n) (fun n e => es[n]? = some e ∧ esFind es e.k = some e) (fun n => n = els.length) 1103 (fun _ _ => rfl) rfl (fun _ _ => rfl) nd (fun x hx => KK_none (hge x hx)) (fun _ _ => rfl) (fun n st n' st' q hq => ?_)
    (fun n st e sz tok hs hI he => ?_) (fun n st sz tok hs hI hl => ?_) (fun _ _ => rfl) (fun n st q hq => ?_) (fun n st q hq => ?_) els 0 st sz tok hsz (fun i e h => by rw [Nat.zero_add]; exact hel i e h) (by rw [Nat.zero_add]) hst
  · simp only [totL, List.mem_cons, List.not_mem_nil, or_false] at hq
    rcases hq with rfl | rfl | rfl | rfl | rfl <;> simp [totL]
  · obtain ⟨sz, rfl⟩ : ∃ s', sz = s' + 1103 := ⟨sz - 1103, by omega⟩
    have hn : n < es.length := (List.getElem?_eq_some_iff.mp he.1).1
    have hs : (totL (tW b c w).params i0 i1 i2 i3 i4 it a L ep es).step e st tok = ⟨st.acc ++ [.int e.v e.u], st.aep + 1, cmSet tok (.int e.k e.t) st.lo⟩ := by simp only [totL]
    have hd : (totL (tW b c w).params i0 i1 i2 i3 i4 it a L ep es).sdl e st tok = 0 := by simp only [totL]
    have ht : (totL (tW b c w).params i0 i1 i2 i3 i4 it a L ep es).sdt e st tok = 2 := by simp only [totL]
    rw [hs, hd, ht]
    refine ⟨by have := hI; simp only [List.length_append, List.length_singleton]; omega, 27, otot0 it a L ep es n st.acc st.aep st.lo e , ⟨fun cc sz tok _ _ => ⟨sKiNext_ok he.1 sz tok, by simp [sKiNext]⟩, fun cc sz tok _ _ => ⟨sHit_ok he.2 sz tok, by simp [sHit]⟩, fun cc sz tok _ _ => ⟨sApp_ok (by have := hI; omega) sz tok, by simp [sApp]⟩, trivial⟩, fun k g l code pos pos' kp W gens hsh => ?_⟩
    exact ttot0 it a L ep es n st.acc st.aep st.lo e  sz tok k g l code pos pos' kp W gens
  · subst hl
    obtain ⟨sz, rfl⟩ : ∃ s', sz = s' + 1103 := ⟨sz - 1103, by omega⟩
    refine ⟨7, ototE it a L ep es els.length st.acc st.aep st.lo, ⟨fun cc sz tok _ _ => ⟨sKiEnd_ok (by rw [← hels]; simp) sz tok, by simp [sKiEnd]⟩, trivial⟩, fun k g l code pos pos' kp W gens hsh => ?_⟩
    exact etot it a L ep es els.length st.acc st.aep st.lo sz tok k g l code pos pos' kp W gens
  · simp only [totL, List.mem_cons, List.not_mem_nil, or_false] at hq
    rcases hq with rfl | rfl | rfl <;> simp [totL]
  · simp only [totL, List.mem_cons, List.not_mem_nil, or_false] at hq
    rcases hq with rfl | rfl | rfl | rfl | rfl <;> simp [totL]
end Mine
namespace Mine
open PySem PySem.W

noncomputable def csAfter (acts : List (Code × Pos)) (d : Bool) : Sem (List Env) := do
  return (((← (do
    let codes := (pastTheWaiting acts).map (·.1)
    if d then unsupported "caller:past-a-waiting-one"
    return codes : Sem (List Code))).filter (·.env?.isSome)).takeWhile (·.isInlined)).filterMap (·.env?)
noncomputable def csDec (acts : List (Code × Pos)) : Bool := ((acts.map (·.1)).findSome? (·.env?)).map (·.frame) != (((pastTheWaiting acts).map (·.1)).findSome? (·.env?)).map (·.frame)
noncomputable def supVal (env : Env) (g cls : Value) (first : Str) (cs : Sem (List Env)) : Sem Value := do
  let self ← loadName (env.holderOf (← cs) first) first
  let aType ← isType cls
  if g == .type "super" && aType then call g [cls, self] else holding [cls, self] (call g [])
noncomputable def supStm (o : Expr) (name : Str) (apos : Pos) (args : List Expr) (keywords : List Keyword) (pos epos : Pos) (env : Env) (ov : Sem Value) : Sem Flow := do
  dropValue (.Call (.Attribute o name apos) args keywords pos) epos (← (do
    let ov ← ov
    standAt apos.atName
    methodCall o name apos pos env ov (args.length + keywords.length) (backTo pos (starEach args env)) (backToKw pos (keywordEach keywords env))))
noncomputable def nest (env : Env) : List (List Stmt) → Sem Flow → Sem Flow
  | [], t => t
  | r :: rs, t => nest env rs (do
    match ← t with
    | .next => execs r env
    | f => pure f)
noncomputable def funcOf (env : Env) (t : Sem Flow) : Sem PySem.Fin := do
  match ← t.onRaise (leaving env) with
  | .ret v => ret v
  | _ => ret .none
noncomputable def supX (st : Stmt) (env : Env) (g cls : Value) (first : Str) (rests : List (List Stmt)) (cs : Sem (List Env)) : Sem PySem.Fin := match st with
  | .Expr (.Call (.Attribute o name apos) args keywords pos) epos => funcOf env (nest env rests (supStm o name apos args keywords pos epos env (supVal env g cls first cs)))
  | _ => unsupported "none"
end Mine
lay_quick Mine.csAfter
lay_quick Mine.csDec
lay_quick Mine.supX
namespace Mine
open PySem PySem.W
noncomputable abbrev tSupX := PySem.W.Fast.tw2776418994055508487
noncomputable abbrev tCsDec := PySem.W.Fast.tw12540664107310235544
noncomputable abbrev tCsAfter := PySem.W.Fast.tw1743703238527925738
theorem tCsDec_eq : tCsDec = csDec := PySem.W.Fast.te12540664107310235544.symm
theorem csDec_func (body : List Stmt) (env : Env) (p : Pos) (r : List (Code × Pos)) : csDec ((.func body env, p) :: r) = false := by
  have e : pastTheWaiting ((.func body env, p) :: r) = (.func body env, p) :: pastTheWaiting.go false (some (.func body env)) r := rfl
  unfold csDec
  rw [e]
  simp [Code.env?]
noncomputable def mSup (st : Stmt) (env : Env) (g cls : Value) (first : Str) (rests : List (List Stmt)) (acts : List (Code × Pos)) : Mid :=
  { X := tSupX st env g cls first rests (tCsAfter acts (tCsDec acts)), Y := tSupX st env g cls first rests (tCsAfter acts false) }
theorem mSup_ok {M : Model} {K : Nat → Option Obj} {st : Stmt} {env env' : Env} {g cls : Value} {first : Str} {rests : List (List Stmt)} {body : List Stmt} {p : Pos} {r : List (Code × Pos)} (sz tok : Nat) :
    (mSup st env g cls first rests ((.func body env', p) :: r)).Valid M K sz tok := by
  intro s code pos st' hK hpre hpo hs ht hb
  refine ⟨s.heap, ?_, hs, (fun q hq => nomatch hq), fun b o h _ => h⟩
  have : (mSup st env g cls first rests ((.func body env', p) :: r)).X = (mSup st env g cls first rests ((.func body env', p) :: r)).Y := by
    unfold mSup
    rw [tCsDec_eq, csDec_func]
  rw [this]
  exact .refl _ _
/-- the stretch at a super call in a function's body; `sel` tells the statement and what follows it -/
noncomputable def mSupA (sel : List Stmt → Stmt × List (List Stmt)) (cls : Value) (first : Str) : List (Code × Pos) → Nat → Nat → Mid := fun acts _ _ => match acts with
  | (.func b e, p) :: r => mSup (sel b).1 e (.type "super") cls first (sel b).2 ((.func b e, p) :: r)
  | _ => { X := .unsupported "", Y := .unsupported "" }
theorem mSupA_ok {M : Model} {K : Nat → Option Obj} {sel : List Stmt → Stmt × List (List Stmt)} {cls : Value} {first : Str} (acts : List (Code × Pos)) (sz tok : Nat) : (mSupA sel cls first acts sz tok).Valid M K sz tok := by
  have triv : Mid.Valid M K { X := .unsupported "", Y := .unsupported "" } sz tok := fun s code pos st hK hpre hpo hs ht hb => ⟨s.heap, .refl _ _, hs, (fun q hq => nomatch hq), fun b o h _ => h⟩
  unfold mSupA
  split
  · exact mSup_ok sz tok
  · exact triv
/-- the first statement -/
noncomputable def sel0 (b : List Stmt) : Stmt × List (List Stmt) := match b with
  | s :: r => (s, [r])
  | [] => (.Pass default, [])
/-- the statement in `if..: if..: if..: .. else: HERE`, the first one of a body -/
noncomputable def ifBody : Stmt → List Stmt
  | .If _ b _ _ => b
  | _ => []
noncomputable def ifElse : Stmt → List Stmt
  | .If _ _ o _ => o
  | _ => []
noncomputable def hdS (b : List Stmt) : Stmt := b.headD (.Pass default)
noncomputable def selUpd (b : List Stmt) : Stmt × List (List Stmt) := (hdS (ifElse (hdS (ifBody (hdS (ifBody (hdS b)))))), [(ifElse (hdS (ifBody (hdS (ifBody (hdS b)))))).tail, (ifBody (hdS (ifBody (hdS b)))).tail, (ifBody (hdS b)).tail, b.tail])
end Mine
namespace Mine
open PySem PySem.W
/-- the loop of sum, its end said by names -/
noncomputable def sSumX (i j it S c len : Nat) (O : Nat → Obj) (Oe : Obj) (fp : List (Nat × Obj)) (jf : Nat) (a : Int) (tA : Nat) (sv : Int) (su : Nat) : Summ :=
  { code := .builtin "sum.loop" ⟨[.ref it, .ref S, rawInt 0, rawInt 0], []⟩, res := .ok (.ret (.int sv su)), pre := (i, it, O 0) :: (j, S, lsObj [.int a tA] c) :: fp.map fun q => (jf, q.1, q.2),
    post := [(i, it, Oe), (j, S, lsObj [.int sv su] c)], dl := 2, dtok := len }
theorem sSumX_ok {p : Program} {w : World} {K : Nat → Option Obj} {i j it S c len : Nat} {vals : List (Int × Nat)} {O : Nat → Obj} {Oe : Obj} {fp : List (Nat × Obj)} {jf : Nat} {a : Int} {tA : Nat} {sv : Int} {su sz tok : Nat} (W : Src p w it vals O Oe fp) (hSi : it ≠ S) (hfi : ∀ q ∈ fp, q.1 ≠ it) (hfS : ∀ q ∈ fp, q.1 ≠ S)
    (hl : len = vals.length) (hv : sv = sumV vals a) (hu : su = sumT vals tA tok) : (sSumX i j it S c len O Oe fp jf a tA sv su).Valid (mdl p w) K sz tok := by
  subst hl hv hu
  exact sSum_ok (i := i) (j := j) (c := c) (jf := jf) W hSi hfi hfS sz tok
end Mine
namespace Mine
open PySem PySem.W PySem.Calls PyProof.Rows PySem.Spec
variable {b c : Bool} {w : World}
noncomputable def mU0 (P : Params) (x0 : Int) (u0 : Nat) (xr : List Value) (e0 : E) (er : List E) (t ep t1 dA : Nat) (v1 : Value) (rs1 : List E) (rp1 a1 b1 z1 d1 : Nat) (x1 y1 p1 q1 : Value) (rs2 : List E) (rp2 a2 b2 z2 d2 : Nat) (x2 y2 p2 q2 : Value) (rs3 : List E) (rp3 a3 b3 c3 z3 d3 : Nat) (x3 y3 p3 q3 r3 : Value) (rs4 : List E) (rp4 a4 b4 z4 d4 : Nat) (x4 y4 p4 q4 : Value) (Z5 D5 : Nat) (vk : Nat × Value) (zr dr : Nat) (sv1 sv2 sv3 sv4 sv5 : Int) (usv1 usv2 usv3 usv4 usv5 aep' zt dt : Nat) (vk2 : Nat × Value) (y0 : Int × Nat) (ys : List (Int × Nat)) : Code → Nat → Nat → Summ := fun _ _ _ => ({ sA P t (.int x0 u0 :: xr) 0 none [] 0 (e0 :: er) ep (some (t1, v1)) 0 with dtok := dA }).at 1109 (t + 1)
noncomputable def mU1 (P : Params) (x0 : Int) (u0 : Nat) (xr : List Value) (e0 : E) (er : List E) (t ep t1 dA : Nat) (v1 : Value) (rs1 : List E) (rp1 a1 b1 z1 d1 : Nat) (x1 y1 p1 q1 : Value) (rs2 : List E) (rp2 a2 b2 z2 d2 : Nat) (x2 y2 p2 q2 : Value) (rs3 : List E) (rp3 a3 b3 c3 z3 d3 : Nat) (x3 y3 p3 q3 r3 : Value) (rs4 : List E) (rp4 a4 b4 z4 d4 : Nat) (x4 y4 p4 q4 : Value) (Z5 D5 : Nat) (vk : Nat × Value) (zr dr : Nat) (sv1 sv2 sv3 sv4 sv5 : Int) (usv1 usv2 usv3 usv4 usv5 aep' zt dt : Nat) (vk2 : Nat × Value) (y0 : Int × Nat) (ys : List (Int × Nat)) : Code → Nat → Nat → Summ := fun _ _ _ => sUpd 1111 7 4 1112 1107 (e0 :: er) ep
noncomputable def mU2 (P : Params) (x0 : Int) (u0 : Nat) (xr : List Value) (e0 : E) (er : List E) (t ep t1 dA : Nat) (v1 : Value) (rs1 : List E) (rp1 a1 b1 z1 d1 : Nat) (x1 y1 p1 q1 : Value) (rs2 : List E) (rp2 a2 b2 z2 d2 : Nat) (x2 y2 p2 q2 : Value) (rs3 : List E) (rp3 a3 b3 c3 z3 d3 : Nat) (x3 y3 p3 q3 r3 : Value) (rs4 : List E) (rp4 a4 b4 z4 d4 : Nat) (x4 y4 p4 q4 : Value) (Z5 D5 : Nat) (vk : Nat × Value) (zr dr : Nat) (sv1 sv2 sv3 sv4 sv5 : Int) (usv1 usv2 usv3 usv4 usv5 aep' zt dt : Nat) (vk2 : Nat × Value) (y0 : Int × Nat) (ys : List (Int × Nat)) : Code → Nat → Nat → Summ := fun _ _ _ => ((posL P 32 7 20 22 1137 1112 1125 1127 1111 1126 (e0 :: er).length ((t + 1 + dA) + 21) ((t + 1 + dA) + 32) (e0 :: er)).T 0 (er.length + 1) ⟨.none, .none, none, [], 0⟩ ⟨x1, y1, some (a1, p1, b1, q1), rs1, rp1⟩ z1 d1).at 1138 (t + 1 + dA + 33)
noncomputable def mU3 (P : Params) (x0 : Int) (u0 : Nat) (xr : List Value) (e0 : E) (er : List E) (t ep t1 dA : Nat) (v1 : Value) (rs1 : List E) (rp1 a1 b1 z1 d1 : Nat) (x1 y1 p1 q1 : Value) (rs2 : List E) (rp2 a2 b2 z2 d2 : Nat) (x2 y2 p2 q2 : Value) (rs3 : List E) (rp3 a3 b3 c3 z3 d3 : Nat) (x3 y3 p3 q3 r3 : Value) (rs4 : List E) (rp4 a4 b4 z4 d4 : Nat) (x4 y4 p4 q4 : Value) (Z5 D5 : Nat) (vk : Nat × Value) (zr dr : Nat) (sv1 sv2 sv3 sv4 sv5 : Int) (usv1 usv2 usv3 usv4 usv5 aep' zt dt : Nat) (vk2 : Nat × Value) (y0 : Int × Nat) (ys : List (Int × Nat)) : Code → Nat → Nat → Summ := fun _ _ _ => ((negL P 45 7 33 35 (z1 + 1152) 1112 (z1 + 1140) (z1 + 1142) 1111 (z1 + 1141) (e0 :: er).length ((t + 1 + dA + 33) + d1) ((t + 1 + dA + 33) + d1 + 11) (e0 :: er)).T 0 (er.length + 1) ⟨.none, .none, none, [], 0⟩ ⟨x2, y2, some (a2, p2, b2, q2), rs2, rp2⟩ z2 d2).at (z1 + 1153) (t + 1 + dA + 33 + d1 + 12)
noncomputable def mU4 (P : Params) (x0 : Int) (u0 : Nat) (xr : List Value) (e0 : E) (er : List E) (t ep t1 dA : Nat) (v1 : Value) (rs1 : List E) (rp1 a1 b1 z1 d1 : Nat) (x1 y1 p1 q1 : Value) (rs2 : List E) (rp2 a2 b2 z2 d2 : Nat) (x2 y2 p2 q2 : Value) (rs3 : List E) (rp3 a3 b3 c3 z3 d3 : Nat) (x3 y3 p3 q3 r3 : Value) (rs4 : List E) (rp4 a4 b4 z4 d4 : Nat) (x4 y4 p4 q4 : Value) (Z5 D5 : Nat) (vk : Nat × Value) (zr dr : Nat) (sv1 sv2 sv3 sv4 sv5 : Int) (usv1 usv2 usv3 usv4 usv5 aep' zt dt : Nat) (vk2 : Nat × Value) (y0 : Int × Nat) (ys : List (Int × Nat)) : Code → Nat → Nat → Summ := fun _ _ _ => ((addL P 72 7 60 62 51 (z2 + (z1 + 1153) + 28) 1112 (z2 + (z1 + 1153) + 16) (z2 + (z1 + 1153) + 18) (z2 + (z1 + 1153) + 7) (z2 + (z1 + 1153) + 6) 1111 (z2 + (z1 + 1153) + 17) (e0 :: er).length 0 ((t + 1 + dA + 33 + d1 + 12) + d2 + 12) ((t + 1 + dA + 33 + d1 + 12) + d2 + 13) ((t + 1 + dA + 33 + d1 + 12) + d2 + 24) (e0 :: er) []).T 0 (er.length + 1) ⟨.none, .none, none, [], 0⟩ ⟨x3, y3, some (a3, p3, b3, q3, c3, r3), rs3, rp3⟩ z3 d3).at (z2 + (z1 + 1153) + 29) (t + 1 + dA + 33 + d1 + 12 + d2 + 25)
noncomputable def mU5 (P : Params) (x0 : Int) (u0 : Nat) (xr : List Value) (e0 : E) (er : List E) (t ep t1 dA : Nat) (v1 : Value) (rs1 : List E) (rp1 a1 b1 z1 d1 : Nat) (x1 y1 p1 q1 : Value) (rs2 : List E) (rp2 a2 b2 z2 d2 : Nat) (x2 y2 p2 q2 : Value) (rs3 : List E) (rp3 a3 b3 c3 z3 d3 : Nat) (x3 y3 p3 q3 r3 : Value) (rs4 : List E) (rp4 a4 b4 z4 d4 : Nat) (x4 y4 p4 q4 : Value) (Z5 D5 : Nat) (vk : Nat × Value) (zr dr : Nat) (sv1 sv2 sv3 sv4 sv5 : Int) (usv1 usv2 usv3 usv4 usv5 aep' zt dt : Nat) (vk2 : Nat × Value) (y0 : Int × Nat) (ys : List (Int × Nat)) : Code → Nat → Nat → Summ := fun _ _ _ => ((subL P 104 7 88 90 79 (z3 + (z2 + (z1 + 1153) + 29) + 33) 1112 (z3 + (z2 + (z1 + 1153) + 29) + 17) (z3 + (z2 + (z1 + 1153) + 29) + 19) (z3 + (z2 + (z1 + 1153) + 29) + 8) (z3 + (z2 + (z1 + 1153) + 29) + 7) 1111 (z3 + (z2 + (z1 + 1153) + 29) + 18) (e0 :: er).length 0 ((t + 1 + dA + 33 + d1 + 12 + d2 + 25) + d3 + 10) ((t + 1 + dA + 33 + d1 + 12 + d2 + 25) + d3 + 11) ((t + 1 + dA + 33 + d1 + 12 + d2 + 25) + d3 + 22) (e0 :: er) []).T 0 (er.length + 1) ⟨.none, .none, none, [], 0⟩ ⟨x4, y4, some (a4, p4, b4, q4), rs4, rp4⟩ z4 d4).at (z3 + (z2 + (z1 + 1153) + 29) + 34) (t + 1 + dA + 33 + d1 + 12 + d2 + 25 + d3 + 23)
noncomputable def mU6 (P : Params) (x0 : Int) (u0 : Nat) (xr : List Value) (e0 : E) (er : List E) (t ep t1 dA : Nat) (v1 : Value) (rs1 : List E) (rp1 a1 b1 z1 d1 : Nat) (x1 y1 p1 q1 : Value) (rs2 : List E) (rp2 a2 b2 z2 d2 : Nat) (x2 y2 p2 q2 : Value) (rs3 : List E) (rp3 a3 b3 c3 z3 d3 : Nat) (x3 y3 p3 q3 r3 : Value) (rs4 : List E) (rp4 a4 b4 z4 d4 : Nat) (x4 y4 p4 q4 : Value) (Z5 D5 : Nat) (vk : Nat × Value) (zr dr : Nat) (sv1 sv2 sv3 sv4 sv5 : Int) (usv1 usv2 usv3 usv4 usv5 aep' zt dt : Nat) (vk2 : Nat × Value) (y0 : Int × Nat) (ys : List (Int × Nat)) : Code → Nat → Nat → Summ := fun _ _ _ => (sPT P 107 106 77 105 1 3 2 4 22 62 35 90 21 61 34 89 (z4 + (z3 + (z2 + (z1 + 1153) + 29) + 34) + 4) (z4 + (z3 + (z2 + (z1 + 1153) + 29) + 34) + 3) (z3 + (z2 + (z1 + 1153) + 29) + 6) (z4 + (z3 + (z2 + (z1 + 1153) + 29) + 34) + 2) 1127 (z2 + (z1 + 1153) + 18) (z1 + 1142) (z3 + (z2 + (z1 + 1153) + 29) + 19) 1126 (z2 + (z1 + 1153) + 17) (z1 + 1141) (z3 + (z2 + (z1 + 1153) + 29) + 18) rp1 rp3 rp2 rp4 ep (t + 1 + dA + 33 + d1 + 12 + d2 + 25 + d3 + 23 + d4) Z5 D5 ⟨t, t1, t + 1 + dA + 20, t + 1 + dA + 33 + d1 + 12 + d2, t + 1 + dA + 33 + d1 + 12 + d2 + 1, v1, 1112, z1 + 1142, 1127⟩ (e0 :: er) rs1 rs3 rs2 rs4).at (z4 + (z3 + (z2 + (z1 + 1153) + 29) + 34) + 5) (t + 1 + dA + 33 + d1 + 12 + d2 + 25 + d3 + 23 + d4)
noncomputable def mU7 (P : Params) (x0 : Int) (u0 : Nat) (xr : List Value) (e0 : E) (er : List E) (t ep t1 dA : Nat) (v1 : Value) (rs1 : List E) (rp1 a1 b1 z1 d1 : Nat) (x1 y1 p1 q1 : Value) (rs2 : List E) (rp2 a2 b2 z2 d2 : Nat) (x2 y2 p2 q2 : Value) (rs3 : List E) (rp3 a3 b3 c3 z3 d3 : Nat) (x3 y3 p3 q3 r3 : Value) (rs4 : List E) (rp4 a4 b4 z4 d4 : Nat) (x4 y4 p4 q4 : Value) (Z5 D5 : Nat) (vk : Nat × Value) (zr dr : Nat) (sv1 sv2 sv3 sv4 sv5 : Int) (usv1 usv2 usv3 usv4 usv5 aep' zt dt : Nat) (vk2 : Nat × Value) (y0 : Int × Nat) (ys : List (Int × Nat)) : Code → Nat → Nat → Summ := fun _ _ _ => ((rgL P 109 1 2 4 22 35 (Z5 + (z4 + (z3 + (z2 + (z1 + 1153) + 29) + 34) + 5) + 1) 24 (z1 + 39) 1126 (z1 + 1141) rp1 rp2 ep (t + 1 + dA + 33 + d1 + 12 + d2 + 25 + d3 + 23 + d4) (.ref (z3 + (z2 + (z1 + 1153) + 29) + 19)) ⟨t, t1, t + 1 + dA + 20, t + 1 + dA + 33 + d1 + 12 + d2, t + 1 + dA + 33 + d1 + 12 + d2 + 1, v1, 1112, z1 + 1142, 1127⟩ (e0 :: er) rs1 rs2 e0).T 0 5 ⟨none⟩ ⟨some vk⟩ zr dr).at (Z5 + (z4 + (z3 + (z2 + (z1 + 1153) + 29) + 34) + 5) + 2) (t + 1 + dA + 33 + d1 + 12 + d2 + 25 + d3 + 23 + d4 + D5 + 3)
noncomputable def mU8 (P : Params) (x0 : Int) (u0 : Nat) (xr : List Value) (e0 : E) (er : List E) (t ep t1 dA : Nat) (v1 : Value) (rs1 : List E) (rp1 a1 b1 z1 d1 : Nat) (x1 y1 p1 q1 : Value) (rs2 : List E) (rp2 a2 b2 z2 d2 : Nat) (x2 y2 p2 q2 : Value) (rs3 : List E) (rp3 a3 b3 c3 z3 d3 : Nat) (x3 y3 p3 q3 r3 : Value) (rs4 : List E) (rp4 a4 b4 z4 d4 : Nat) (x4 y4 p4 q4 : Value) (Z5 D5 : Nat) (vk : Nat × Value) (zr dr : Nat) (sv1 sv2 sv3 sv4 sv5 : Int) (usv1 usv2 usv3 usv4 usv5 aep' zt dt : Nat) (vk2 : Nat × Value) (y0 : Int × Nat) (ys : List (Int × Nat)) : Code → Nat → Nat → Summ := fun _ _ _ => (sSumX 112 113 ((zr + (Z5 + (z4 + (z3 + (z2 + (z1 + 1153) + 29) + 34) + 5) + 2) + 2) + 2) ((zr + (Z5 + (z4 + (z3 + (z2 + (z1 + 1153) + 29) + 34) + 5) + 2) + 2) + 3) 0 (e0 :: er).length (fun n => viObj 1112 n (eln (e0 :: er)) (e0 :: er).length) (ViEnd (viObj 1112 (e0 :: er).length (eln (e0 :: er)) (e0 :: er).length)) [(1112, dObj clsC (some 1111) (e0 :: er) (e0 :: er).length)] 7 0 ((t + 1 + dA + 33 + d1 + 12 + d2 + 25 + d3 + 23 + d4 + D5 + 3 + dr) + 1) sv1 usv1).at ((zr + (Z5 + (z4 + (z3 + (z2 + (z1 + 1153) + 29) + 34) + 5) + 2) + 2) + 4) ((t + 1 + dA + 33 + d1 + 12 + d2 + 25 + d3 + 23 + d4 + D5 + 3 + dr) + 2)
noncomputable def mU9 (P : Params) (x0 : Int) (u0 : Nat) (xr : List Value) (e0 : E) (er : List E) (t ep t1 dA : Nat) (v1 : Value) (rs1 : List E) (rp1 a1 b1 z1 d1 : Nat) (x1 y1 p1 q1 : Value) (rs2 : List E) (rp2 a2 b2 z2 d2 : Nat) (x2 y2 p2 q2 : Value) (rs3 : List E) (rp3 a3 b3 c3 z3 d3 : Nat) (x3 y3 p3 q3 r3 : Value) (rs4 : List E) (rp4 a4 b4 z4 d4 : Nat) (x4 y4 p4 q4 : Value) (Z5 D5 : Nat) (vk : Nat × Value) (zr dr : Nat) (sv1 sv2 sv3 sv4 sv5 : Int) (usv1 usv2 usv3 usv4 usv5 aep' zt dt : Nat) (vk2 : Nat × Value) (y0 : Int × Nat) (ys : List (Int × Nat)) : Code → Nat → Nat → Summ := fun _ _ _ => ((totL P 114 4 115 116 2 ((zr + (Z5 + (z4 + (z3 + (z2 + (z1 + 1153) + 29) + 34) + 5) + 2) + 2) + 6) ((zr + (Z5 + (z4 + (z3 + (z2 + (z1 + 1153) + 29) + 34) + 5) + 2) + 2) + 7) ((zr + (Z5 + (z4 + (z3 + (z2 + (z1 + 1153) + 29) + 34) + 5) + 2) + 2) + 8) ep (e0 :: er)).T 0 (er.length + 1) ⟨[], 0, none⟩ ⟨nvs (y0 :: ys), aep', some vk2⟩ zt dt).at ((zr + (Z5 + (z4 + (z3 + (z2 + (z1 + 1153) + 29) + 34) + 5) + 2) + 2) + 9) (t + 1 + dA + 33 + d1 + 12 + d2 + 25 + d3 + 23 + d4 + D5 + 3 + dr + 2 + (e0 :: er).length)
noncomputable def mU10 (P : Params) (x0 : Int) (u0 : Nat) (xr : List Value) (e0 : E) (er : List E) (t ep t1 dA : Nat) (v1 : Value) (rs1 : List E) (rp1 a1 b1 z1 d1 : Nat) (x1 y1 p1 q1 : Value) (rs2 : List E) (rp2 a2 b2 z2 d2 : Nat) (x2 y2 p2 q2 : Value) (rs3 : List E) (rp3 a3 b3 c3 z3 d3 : Nat) (x3 y3 p3 q3 r3 : Value) (rs4 : List E) (rp4 a4 b4 z4 d4 : Nat) (x4 y4 p4 q4 : Value) (Z5 D5 : Nat) (vk : Nat × Value) (zr dr : Nat) (sv1 sv2 sv3 sv4 sv5 : Int) (usv1 usv2 usv3 usv4 usv5 aep' zt dt : Nat) (vk2 : Nat × Value) (y0 : Int × Nat) (ys : List (Int × Nat)) : Code → Nat → Nat → Summ := fun _ _ _ => (sSumX 117 118 (zt + ((zr + (Z5 + (z4 + (z3 + (z2 + (z1 + 1153) + 29) + 34) + 5) + 2) + 2) + 9) + 2) ((zt + ((zr + (Z5 + (z4 + (z3 + (z2 + (z1 + 1153) + 29) + 34) + 5) + 2) + 2) + 9) + 2) + 1) 0 (y0 :: ys).length (fun n => liObj ((zr + (Z5 + (z4 + (z3 + (z2 + (z1 + 1153) + 29) + 34) + 5) + 2) + 2) + 7) n) (liEnd (liObj ((zr + (Z5 + (z4 + (z3 + (z2 + (z1 + 1153) + 29) + 34) + 5) + 2) + 2) + 7) (y0 :: ys).length)) [((zr + (Z5 + (z4 + (z3 + (z2 + (z1 + 1153) + 29) + 34) + 5) + 2) + 2) + 7, lsObj (nvs (y0 :: ys)) aep')] 115 0 (t + 1 + dA + 33 + d1 + 12 + d2 + 25 + d3 + 23 + d4 + D5 + 3 + dr + 2 + (e0 :: er).length + dt) sv2 usv2).at ((zt + ((zr + (Z5 + (z4 + (z3 + (z2 + (z1 + 1153) + 29) + 34) + 5) + 2) + 2) + 9) + 2) + 2) ((t + 1 + dA + 33 + d1 + 12 + d2 + 25 + d3 + 23 + d4 + D5 + 3 + dr + 2 + (e0 :: er).length + dt) + 1)
noncomputable def mU11 (P : Params) (x0 : Int) (u0 : Nat) (xr : List Value) (e0 : E) (er : List E) (t ep t1 dA : Nat) (v1 : Value) (rs1 : List E) (rp1 a1 b1 z1 d1 : Nat) (x1 y1 p1 q1 : Value) (rs2 : List E) (rp2 a2 b2 z2 d2 : Nat) (x2 y2 p2 q2 : Value) (rs3 : List E) (rp3 a3 b3 c3 z3 d3 : Nat) (x3 y3 p3 q3 r3 : Value) (rs4 : List E) (rp4 a4 b4 z4 d4 : Nat) (x4 y4 p4 q4 : Value) (Z5 D5 : Nat) (vk : Nat × Value) (zr dr : Nat) (sv1 sv2 sv3 sv4 sv5 : Int) (usv1 usv2 usv3 usv4 usv5 aep' zt dt : Nat) (vk2 : Nat × Value) (y0 : Int × Nat) (ys : List (Int × Nat)) : Code → Nat → Nat → Summ := fun cc _ _ => sCmp "int.__ne__" sv1 sv2 false cc
noncomputable def mU12 (P : Params) (x0 : Int) (u0 : Nat) (xr : List Value) (e0 : E) (er : List E) (t ep t1 dA : Nat) (v1 : Value) (rs1 : List E) (rp1 a1 b1 z1 d1 : Nat) (x1 y1 p1 q1 : Value) (rs2 : List E) (rp2 a2 b2 z2 d2 : Nat) (x2 y2 p2 q2 : Value) (rs3 : List E) (rp3 a3 b3 c3 z3 d3 : Nat) (x3 y3 p3 q3 r3 : Value) (rs4 : List E) (rp4 a4 b4 z4 d4 : Nat) (x4 y4 p4 q4 : Value) (Z5 D5 : Nat) (vk : Nat × Value) (zr dr : Nat) (sv1 sv2 sv3 sv4 sv5 : Int) (usv1 usv2 usv3 usv4 usv5 aep' zt dt : Nat) (vk2 : Nat × Value) (y0 : Int × Nat) (ys : List (Int × Nat)) : Code → Nat → Nat → Summ := fun _ _ _ => (sSumX 121 122 (((zt + ((zr + (Z5 + (z4 + (z3 + (z2 + (z1 + 1153) + 29) + 34) + 5) + 2) + 2) + 9) + 2) + 4) + 2) (((zt + ((zr + (Z5 + (z4 + (z3 + (z2 + (z1 + 1153) + 29) + 34) + 5) + 2) + 2) + 9) + 2) + 4) + 3) 0 rs1.length (fun n => viObj 1127 n (eln rs1) rp1) (ViEnd (viObj 1127 rs1.length (eln rs1) rp1)) [(1127, dObj clsC (some 1126) rs1 rp1)] 22 0 ((t + 1 + dA + 33 + d1 + 12 + d2 + 25 + d3 + 23 + d4 + D5 + 3 + dr + 2 + (e0 :: er).length + dt + 1 + (y0 :: ys).length) + 1) sv3 usv3).at (((zt + ((zr + (Z5 + (z4 + (z3 + (z2 + (z1 + 1153) + 29) + 34) + 5) + 2) + 2) + 9) + 2) + 4) + 4) ((t + 1 + dA + 33 + d1 + 12 + d2 + 25 + d3 + 23 + d4 + D5 + 3 + dr + 2 + (e0 :: er).length + dt + 1 + (y0 :: ys).length) + 2)
noncomputable def mU13 (P : Params) (x0 : Int) (u0 : Nat) (xr : List Value) (e0 : E) (er : List E) (t ep t1 dA : Nat) (v1 : Value) (rs1 : List E) (rp1 a1 b1 z1 d1 : Nat) (x1 y1 p1 q1 : Value) (rs2 : List E) (rp2 a2 b2 z2 d2 : Nat) (x2 y2 p2 q2 : Value) (rs3 : List E) (rp3 a3 b3 c3 z3 d3 : Nat) (x3 y3 p3 q3 r3 : Value) (rs4 : List E) (rp4 a4 b4 z4 d4 : Nat) (x4 y4 p4 q4 : Value) (Z5 D5 : Nat) (vk : Nat × Value) (zr dr : Nat) (sv1 sv2 sv3 sv4 sv5 : Int) (usv1 usv2 usv3 usv4 usv5 aep' zt dt : Nat) (vk2 : Nat × Value) (y0 : Int × Nat) (ys : List (Int × Nat)) : Code → Nat → Nat → Summ := fun _ _ _ => (sSumX 125 126 (((zt + ((zr + (Z5 + (z4 + (z3 + (z2 + (z1 + 1153) + 29) + 34) + 5) + 2) + 2) + 9) + 2) + 10) + 2) (((zt + ((zr + (Z5 + (z4 + (z3 + (z2 + (z1 + 1153) + 29) + 34) + 5) + 2) + 2) + 9) + 2) + 10) + 3) 0 rs2.length (fun n => viObj (z1 + 1142) n (eln rs2) rp2) (ViEnd (viObj (z1 + 1142) rs2.length (eln rs2) rp2)) [((z1 + 1142), dObj clsC (some (z1 + 1141)) rs2 rp2)] 35 0 ((t + 1 + dA + 33 + d1 + 12 + d2 + 25 + d3 + 23 + d4 + D5 + 3 + dr + 2 + (e0 :: er).length + dt + 1 + (y0 :: ys).length + 2 + rs1.length) + 1) sv4 usv4).at (((zt + ((zr + (Z5 + (z4 + (z3 + (z2 + (z1 + 1153) + 29) + 34) + 5) + 2) + 2) + 9) + 2) + 10) + 4) ((t + 1 + dA + 33 + d1 + 12 + d2 + 25 + d3 + 23 + d4 + D5 + 3 + dr + 2 + (e0 :: er).length + dt + 1 + (y0 :: ys).length + 2 + rs1.length) + 2)
noncomputable def mU14 (P : Params) (x0 : Int) (u0 : Nat) (xr : List Value) (e0 : E) (er : List E) (t ep t1 dA : Nat) (v1 : Value) (rs1 : List E) (rp1 a1 b1 z1 d1 : Nat) (x1 y1 p1 q1 : Value) (rs2 : List E) (rp2 a2 b2 z2 d2 : Nat) (x2 y2 p2 q2 : Value) (rs3 : List E) (rp3 a3 b3 c3 z3 d3 : Nat) (x3 y3 p3 q3 r3 : Value) (rs4 : List E) (rp4 a4 b4 z4 d4 : Nat) (x4 y4 p4 q4 : Value) (Z5 D5 : Nat) (vk : Nat × Value) (zr dr : Nat) (sv1 sv2 sv3 sv4 sv5 : Int) (usv1 usv2 usv3 usv4 usv5 aep' zt dt : Nat) (vk2 : Nat × Value) (y0 : Int × Nat) (ys : List (Int × Nat)) : Code → Nat → Nat → Summ := fun _ _ _ => (sSumX 129 130 (((zt + ((zr + (Z5 + (z4 + (z3 + (z2 + (z1 + 1153) + 29) + 34) + 5) + 2) + 2) + 9) + 2) + 16) + 2) (((zt + ((zr + (Z5 + (z4 + (z3 + (z2 + (z1 + 1153) + 29) + 34) + 5) + 2) + 2) + 9) + 2) + 16) + 3) 0 (e0 :: er).length (fun n => viObj 1112 n (eln (e0 :: er)) (e0 :: er).length) (ViEnd (viObj 1112 (e0 :: er).length (eln (e0 :: er)) (e0 :: er).length)) [(1112, dObj clsC (some 1111) (e0 :: er) (e0 :: er).length)] 7 0 ((t + 1 + dA + 33 + d1 + 12 + d2 + 25 + d3 + 23 + d4 + D5 + 3 + dr + 2 + (e0 :: er).length + dt + 1 + (y0 :: ys).length + 2 + rs1.length + 2 + rs2.length + 1) + 1) sv5 usv5).at (((zt + ((zr + (Z5 + (z4 + (z3 + (z2 + (z1 + 1153) + 29) + 34) + 5) + 2) + 2) + 9) + 2) + 16) + 4) ((t + 1 + dA + 33 + d1 + 12 + d2 + 25 + d3 + 23 + d4 + D5 + 3 + dr + 2 + (e0 :: er).length + dt + 1 + (y0 :: ys).length + 2 + rs1.length + 2 + rs2.length + 1) + 2)
noncomputable def mU15 (P : Params) (x0 : Int) (u0 : Nat) (xr : List Value) (e0 : E) (er : List E) (t ep t1 dA : Nat) (v1 : Value) (rs1 : List E) (rp1 a1 b1 z1 d1 : Nat) (x1 y1 p1 q1 : Value) (rs2 : List E) (rp2 a2 b2 z2 d2 : Nat) (x2 y2 p2 q2 : Value) (rs3 : List E) (rp3 a3 b3 c3 z3 d3 : Nat) (x3 y3 p3 q3 r3 : Value) (rs4 : List E) (rp4 a4 b4 z4 d4 : Nat) (x4 y4 p4 q4 : Value) (Z5 D5 : Nat) (vk : Nat × Value) (zr dr : Nat) (sv1 sv2 sv3 sv4 sv5 : Int) (usv1 usv2 usv3 usv4 usv5 aep' zt dt : Nat) (vk2 : Nat × Value) (y0 : Int × Nat) (ys : List (Int × Nat)) : Code → Nat → Nat → Summ := fun cc _ _ => sCmp "int.__ne__" (sv3 - sv4) sv5 false cc
noncomputable def mU16 (P : Params) (x0 : Int) (u0 : Nat) (xr : List Value) (e0 : E) (er : List E) (t ep t1 dA : Nat) (v1 : Value) (rs1 : List E) (rp1 a1 b1 z1 d1 : Nat) (x1 y1 p1 q1 : Value) (rs2 : List E) (rp2 a2 b2 z2 d2 : Nat) (x2 y2 p2 q2 : Value) (rs3 : List E) (rp3 a3 b3 c3 z3 d3 : Nat) (x3 y3 p3 q3 r3 : Value) (rs4 : List E) (rp4 a4 b4 z4 d4 : Nat) (x4 y4 p4 q4 : Value) (Z5 D5 : Nat) (vk : Nat × Value) (zr dr : Nat) (sv1 sv2 sv3 sv4 sv5 : Int) (usv1 usv2 usv3 usv4 usv5 aep' zt dt : Nat) (vk2 : Nat × Value) (y0 : Int × Nat) (ys : List (Int × Nat)) : Code → Nat → Nat → Summ := fun cc _ _ => sSet clsC (some 1126) 22 1127 rs1 rp1 5 (argTok cc 1) 1 (argTok cc 2)
noncomputable def mU17 (P : Params) (x0 : Int) (u0 : Nat) (xr : List Value) (e0 : E) (er : List E) (t ep t1 dA : Nat) (v1 : Value) (rs1 : List E) (rp1 a1 b1 z1 d1 : Nat) (x1 y1 p1 q1 : Value) (rs2 : List E) (rp2 a2 b2 z2 d2 : Nat) (x2 y2 p2 q2 : Value) (rs3 : List E) (rp3 a3 b3 c3 z3 d3 : Nat) (x3 y3 p3 q3 r3 : Value) (rs4 : List E) (rp4 a4 b4 z4 d4 : Nat) (x4 y4 p4 q4 : Value) (Z5 D5 : Nat) (vk : Nat × Value) (zr dr : Nat) (sv1 sv2 sv3 sv4 sv5 : Int) (usv1 usv2 usv3 usv4 usv5 aep' zt dt : Nat) (vk2 : Nat × Value) (y0 : Int × Nat) (ys : List (Int × Nat)) : Code → Nat → Nat → Summ := fun cc _ _ => sSet clsC (some (z1 + 1141)) 35 (z1 + 1142) rs2 rp2 5 (argTok cc 1) 1 (argTok cc 2)
noncomputable def mU18 (P : Params) (x0 : Int) (u0 : Nat) (xr : List Value) (e0 : E) (er : List E) (t ep t1 dA : Nat) (v1 : Value) (rs1 : List E) (rp1 a1 b1 z1 d1 : Nat) (x1 y1 p1 q1 : Value) (rs2 : List E) (rp2 a2 b2 z2 d2 : Nat) (x2 y2 p2 q2 : Value) (rs3 : List E) (rp3 a3 b3 c3 z3 d3 : Nat) (x3 y3 p3 q3 r3 : Value) (rs4 : List E) (rp4 a4 b4 z4 d4 : Nat) (x4 y4 p4 q4 : Value) (Z5 D5 : Nat) (vk : Nat × Value) (zr dr : Nat) (sv1 sv2 sv3 sv4 sv5 : Int) (usv1 usv2 usv3 usv4 usv5 aep' zt dt : Nat) (vk2 : Nat × Value) (y0 : Int × Nat) (ys : List (Int × Nat)) : Code → Nat → Nat → Summ := fun _ sz _ => sItems 136 137 7 ((zt + ((zr + (Z5 + (z4 + (z3 + (z2 + (z1 + 1153) + 29) + 34) + 5) + 2) + 2) + 9) + 2) + 27) ((zt + ((zr + (Z5 + (z4 + (z3 + (z2 + (z1 + 1153) + 29) + 34) + 5) + 2) + 2) + 9) + 2) + 28) 1112 2 clsC (some 1111) (e0 :: er) (e0 :: er).length .none .none sz
noncomputable def mU19 (P : Params) (x0 : Int) (u0 : Nat) (xr : List Value) (e0 : E) (er : List E) (t ep t1 dA : Nat) (v1 : Value) (rs1 : List E) (rp1 a1 b1 z1 d1 : Nat) (x1 y1 p1 q1 : Value) (rs2 : List E) (rp2 a2 b2 z2 d2 : Nat) (x2 y2 p2 q2 : Value) (rs3 : List E) (rp3 a3 b3 c3 z3 d3 : Nat) (x3 y3 p3 q3 r3 : Value) (rs4 : List E) (rp4 a4 b4 z4 d4 : Nat) (x4 y4 p4 q4 : Value) (Z5 D5 : Nat) (vk : Nat × Value) (zr dr : Nat) (sv1 sv2 sv3 sv4 sv5 : Int) (usv1 usv2 usv3 usv4 usv5 aep' zt dt : Nat) (vk2 : Nat × Value) (y0 : Int × Nat) (ys : List (Int × Nat)) : Code → Nat → Nat → Summ := fun _ sz _ => sItems 139 140 4 (((e0 :: er).length + ((zt + ((zr + (Z5 + (z4 + (z3 + (z2 + (z1 + 1153) + 29) + 34) + 5) + 2) + 2) + 9) + 2) + 29)) + 3) (((e0 :: er).length + ((zt + ((zr + (Z5 + (z4 + (z3 + (z2 + (z1 + 1153) + 29) + 34) + 5) + 2) + 2) + 9) + 2) + 29)) + 4) 1107 2 clsD none (e0 :: er) ep .none .none sz
noncomputable def mU20 (P : Params) (x0 : Int) (u0 : Nat) (xr : List Value) (e0 : E) (er : List E) (t ep t1 dA : Nat) (v1 : Value) (rs1 : List E) (rp1 a1 b1 z1 d1 : Nat) (x1 y1 p1 q1 : Value) (rs2 : List E) (rp2 a2 b2 z2 d2 : Nat) (x2 y2 p2 q2 : Value) (rs3 : List E) (rp3 a3 b3 c3 z3 d3 : Nat) (x3 y3 p3 q3 r3 : Value) (rs4 : List E) (rp4 a4 b4 z4 d4 : Nat) (x4 y4 p4 q4 : Value) (Z5 D5 : Nat) (vk : Nat × Value) (zr dr : Nat) (sv1 sv2 sv3 sv4 sv5 : Int) (usv1 usv2 usv3 usv4 usv5 aep' zt dt : Nat) (vk2 : Nat × Value) (y0 : Int × Nat) (ys : List (Int × Nat)) : Code → Nat → Nat → Summ := fun _ _ _ => sLsCmp "list.__eq__" 136 139 ((zt + ((zr + (Z5 + (z4 + (z3 + (z2 + (z1 + 1153) + 29) + 34) + 5) + 2) + 2) + 9) + 2) + 27) (((e0 :: er).length + ((zt + ((zr + (Z5 + (z4 + (z3 + (z2 + (z1 + 1153) + 29) + 34) + 5) + 2) + 2) + 9) + 2) + 29)) + 3) (refs ((zt + ((zr + (Z5 + (z4 + (z3 + (z2 + (z1 + 1153) + 29) + 34) + 5) + 2) + 2) + 9) + 2) + 29) (e0 :: er)) (refs (((e0 :: er).length + ((zt + ((zr + (Z5 + (z4 + (z3 + (z2 + (z1 + 1153) + 29) + 34) + 5) + 2) + 2) + 9) + 2) + 29)) + 5) (e0 :: er)) (2 + (e0 :: er).length) (2 + (e0 :: er).length) [(1, tupF ((zt + ((zr + (Z5 + (z4 + (z3 + (z2 + (z1 + 1153) + 29) + 34) + 5) + 2) + 2) + 9) + 2) + 29) (e0 :: er)), (0, tupF (((e0 :: er).length + ((zt + ((zr + (Z5 + (z4 + (z3 + (z2 + (z1 + 1153) + 29) + 34) + 5) + 2) + 2) + 9) + 2) + 29)) + 5) (e0 :: er))] true
noncomputable def mM0 (x0 : Int) (u0 : Nat) (xr : List Value) (e0 : E) (er : List E) (t ep t1 dA : Nat) (v1 : Value) (rs1 : List E) (rp1 a1 b1 z1 d1 : Nat) (x1 y1 p1 q1 : Value) (rs2 : List E) (rp2 a2 b2 z2 d2 : Nat) (x2 y2 p2 q2 : Value) (rs3 : List E) (rp3 a3 b3 c3 z3 d3 : Nat) (x3 y3 p3 q3 r3 : Value) (rs4 : List E) (rp4 a4 b4 z4 d4 : Nat) (x4 y4 p4 q4 : Value) (Z5 D5 : Nat) (vk : Nat × Value) (zr dr : Nat) (sv1 sv2 sv3 sv4 sv5 : Int) (usv1 usv2 usv3 usv4 usv5 aep' zt dt : Nat) (vk2 : Nat × Value) (y0 : Int × Nat) (ys : List (Int × Nat)) : Nat → Nat → Mid := fun _ _ => mExt 135 ((zt + ((zr + (Z5 + (z4 + (z3 + (z2 + (z1 + 1153) + 29) + 34) + 5) + 2) + 2) + 9) + 2) + 27) ((zt + ((zr + (Z5 + (z4 + (z3 + (z2 + (z1 + 1153) + 29) + 34) + 5) + 2) + 2) + 9) + 2) + 26) .none (itemsO 1112) true
noncomputable def mM1 (x0 : Int) (u0 : Nat) (xr : List Value) (e0 : E) (er : List E) (t ep t1 dA : Nat) (v1 : Value) (rs1 : List E) (rp1 a1 b1 z1 d1 : Nat) (x1 y1 p1 q1 : Value) (rs2 : List E) (rp2 a2 b2 z2 d2 : Nat) (x2 y2 p2 q2 : Value) (rs3 : List E) (rp3 a3 b3 c3 z3 d3 : Nat) (x3 y3 p3 q3 r3 : Value) (rs4 : List E) (rp4 a4 b4 z4 d4 : Nat) (x4 y4 p4 q4 : Value) (Z5 D5 : Nat) (vk : Nat × Value) (zr dr : Nat) (sv1 sv2 sv3 sv4 sv5 : Int) (usv1 usv2 usv3 usv4 usv5 aep' zt dt : Nat) (vk2 : Nat × Value) (y0 : Int × Nat) (ys : List (Int × Nat)) : Nat → Nat → Mid := fun _ _ => mExt 138 (((e0 :: er).length + ((zt + ((zr + (Z5 + (z4 + (z3 + (z2 + (z1 + 1153) + 29) + 34) + 5) + 2) + 2) + 9) + 2) + 29)) + 3) (((e0 :: er).length + ((zt + ((zr + (Z5 + (z4 + (z3 + (z2 + (z1 + 1153) + 29) + 34) + 5) + 2) + 2) + 9) + 2) + 29)) + 2) .none (itemsO 1107) true
noncomputable def oMain (c : Bool) (P : Params) (x0 : Int) (u0 : Nat) (xr : List Value) (e0 : E) (er : List E) (t ep t1 dA : Nat) (v1 : Value) (rs1 : List E) (rp1 a1 b1 z1 d1 : Nat) (x1 y1 p1 q1 : Value) (rs2 : List E) (rp2 a2 b2 z2 d2 : Nat) (x2 y2 p2 q2 : Value) (rs3 : List E) (rp3 a3 b3 c3 z3 d3 : Nat) (x3 y3 p3 q3 r3 : Value) (rs4 : List E) (rp4 a4 b4 z4 d4 : Nat) (x4 y4 p4 q4 : Value) (Z5 D5 : Nat) (vk : Nat × Value) (zr dr : Nat) (sv1 sv2 sv3 sv4 sv5 : Int) (usv1 usv2 usv3 usv4 usv5 aep' zt dt : Nat) (vk2 : Nat × Value) (y0 : Int × Nat) (ys : List (Int × Nat)) : List Op := match c with
  | true => [.k 3, .s 1, .s 1, .k 0, .s 2, .s 2, .s 1, .s 0, .s 0, .k 0, .s 0, .s 5, .u (mU0 P x0 u0 xr e0 er t ep t1 dA v1 rs1 rp1 a1 b1 z1 d1 x1 y1 p1 q1 rs2 rp2 a2 b2 z2 d2 x2 y2 p2 q2 rs3 rp3 a3 b3 c3 z3 d3 x3 y3 p3 q3 r3 rs4 rp4 a4 b4 z4 d4 x4 y4 p4 q4 Z5 D5 vk zr dr sv1 sv2 sv3 sv4 sv5 usv1 usv2 usv3 usv4 usv5 aep' zt dt vk2 y0 ys), .k 0, .s 2, .k 20, .s 7, .k 0, .s 7, .k 7, .s 9, .s 9, .s 9, .s 9, .s 9, .s 9, .k 5, .q (fun acts sz tok => mSupA sel0 (.ref 1093) (str "self") acts sz tok), .s 9, .k 3, .s 10, .s 10, .k 0, .s 10, .k 0, .s 7, .s 7, .k 0, .s 10, .s 10, .s 10, .s 10, .s 10, .s 10, .s 10, .s 10, .k 0, .s 10, .s 10, .s 10, .s 10, .k 2, .s 7, .k 0, .s 11, .k 0, .s 11, .s 7, .s 7, .k 0, .s 9, .s 7, .k 6, .s 7, .k 0, .s 7, .k 5, .s 7, .s 7, .k 0, .s 6, .k 1, .s 9, .s 9, .s 8, .s 8, .s 13, .s 8, .s 8, .s 8, .s 13, .s 12, .k 1, .s 12, .k 2, .s 15, .s 15, .s 15, .s 15, .s 15, .s 15, .k 0, .s 15, .k 1, .s 15, .k 1, .s 4, .k 11, .s 16, .s 16, .s 16, .s 16, .k 2, .s 16, .k 0, .s 4, .s 16, .s 16, .s 16, .s 4, .k 0, .s 4, .s 4, .k 0, .s 4, .s 4, .s 16, .s 16, .k 30, .s 16, .s 16, .k 3, .s 17, .s 17, .s 17, .s 17, .k 0, .s 17, .k 2, .s 17, .k 2, .s 15, .s 7, .k 2, .s 7, .k 3, .s 7, .k 3, .s 7, .k 0, .s 7, .k 4, .q (fun acts sz tok => mSupA selUpd (.ref 1093) (str "self") acts sz tok), .s 15, .k 3, .s 18, .s 18, .k 0, .s 18, .k 0, .s 7, .s 7, .k 0, .s 18, .s 18, .s 18, .s 18, .s 18, .s 18, .s 18, .s 18, .k 0, .s 18, .s 18, .s 18, .s 18, .k 2, .s 7, .k 0, .s 15, .s 19, .k 0, .s 19, .s 7, .k 0, .s 7, .s 7, .k 1, .a (mU1 P x0 u0 xr e0 er t ep t1 dA v1 rs1 rp1 a1 b1 z1 d1 x1 y1 p1 q1 rs2 rp2 a2 b2 z2 d2 x2 y2 p2 q2 rs3 rp3 a3 b3 c3 z3 d3 x3 y3 p3 q3 r3 rs4 rp4 a4 b4 z4 d4 x4 y4 p4 q4 Z5 D5 vk zr dr sv1 sv2 sv3 sv4 sv5 usv1 usv2 usv3 usv4 usv5 aep' zt dt vk2 y0 ys), .s 15, .s 14, .s 14, .k 0, .s 14, .k 0, .s 14, .s 14, .s 1, .s 1, .s 1, .s 7, .k 6, .s 20, .s 20, .k 22, .s 22, .k 0, .s 22, .k 7, .s 24, .s 24, .s 24, .s 24, .s 24, .s 24, .k 5, .q (fun acts sz tok => mSupA sel0 (.ref 1093) (str "self") acts sz tok), .s 24, .k 3, .s 25, .s 25, .k 0, .s 25, .k 0, .s 22, .s 22, .k 0, .s 25, .s 25, .s 25, .s 25, .s 25, .s 25, .s 25, .s 25, .k 0, .s 25, .s 25, .s 25, .s 25, .k 2, .s 22, .k 0, .s 26, .k 0, .s 26, .s 22, .s 22, .k 0, .s 24, .s 22, .k 6, .s 22, .k 0, .s 22, .k 5, .s 22, .s 22, .k 0, .s 21, .k 1, .s 24, .s 24, .s 23, .s 23, .s 28, .s 23, .s 23, .s 23, .s 28, .s 27, .k 1, .s 27, .k 2, .s 30, .s 30, .s 30, .s 30, .s 30, .s 30, .k 0, .s 30, .s 30, .s 29, .s 29, .k 0, .s 29, .k 0, .s 29, .s 29, .s 20, .s 20, .s 20, .s 7, .k 2, .s 7, .k 2, .s 7, .k 2, .s 7, .s 6, .k 0, .s 7, .k 0, .s 7, .s 7, .k 0, .s 31, .s 31, .k 0, .s 31, .s 31, .s 7, .s 7, .s 32, .u (mU2 P x0 u0 xr e0 er t ep t1 dA v1 rs1 rp1 a1 b1 z1 d1 x1 y1 p1 q1 rs2 rp2 a2 b2 z2 d2 x2 y2 p2 q2 rs3 rp3 a3 b3 c3 z3 d3 x3 y3 p3 q3 r3 rs4 rp4 a4 b4 z4 d4 x4 y4 p4 q4 Z5 D5 vk zr dr sv1 sv2 sv3 sv4 sv5 usv1 usv2 usv3 usv4 usv5 aep' zt dt vk2 y0 ys), .s 20, .s 1, .s 7, .k 6, .s 33, .s 33, .k 22, .s 35, .k 0, .s 35, .k 7, .s 37, .s 37, .s 37, .s 37, .s 37, .s 37, .k 5, .q (fun acts sz tok => mSupA sel0 (.ref 1093) (str "self") acts sz tok), .s 37, .k 3, .s 38, .s 38, .k 0, .s 38, .k 0, .s 35, .s 35, .k 0, .s 38, .s 38, .s 38, .s 38, .s 38, .s 38, .s 38, .s 38, .k 0, .s 38, .s 38, .s 38, .s 38, .k 2, .s 35, .k 0, .s 39, .k 0, .s 39, .s 35, .s 35, .k 0, .s 37, .s 35, .k 6, .s 35, .k 0, .s 35, .k 5, .s 35, .s 35, .k 0, .s 34, .k 1, .s 37, .s 37, .s 36, .s 36, .s 41, .s 36, .s 36, .s 36, .s 41, .s 40, .k 1, .s 40, .k 2, .s 43, .s 43, .s 43, .s 43, .s 43, .s 43, .k 0, .s 43, .s 43, .s 42, .s 42, .k 0, .s 42, .k 0, .s 42, .s 42, .s 33, .s 33, .s 33, .s 7, .k 2, .s 7, .k 2, .s 7, .k 2, .s 7, .s 6, .k 0, .s 7, .k 0, .s 7, .s 7, .k 0, .s 44, .s 44, .k 0, .s 44, .s 44, .s 7, .s 7, .s 45, .u (mU3 P x0 u0 xr e0 er t ep t1 dA v1 rs1 rp1 a1 b1 z1 d1 x1 y1 p1 q1 rs2 rp2 a2 b2 z2 d2 x2 y2 p2 q2 rs3 rp3 a3 b3 c3 z3 d3 x3 y3 p3 q3 r3 rs4 rp4 a4 b4 z4 d4 x4 y4 p4 q4 Z5 D5 vk zr dr sv1 sv2 sv3 sv4 sv5 usv1 usv2 usv3 usv4 usv5 aep' zt dt vk2 y0 ys), .s 33, .s 46, .s 46, .s 46, .k 0, .s 46, .s 47, .s 47, .k 0, .s 47, .s 47, .s 47, .s 46, .s 47, .s 47, .s 47, .k 0, .s 47, .s 47, .s 47, .s 46, .s 47, .s 47, .s 47, .k 0, .s 47, .s 47, .s 47, .s 46, .s 47, .s 47, .s 49, .s 1, .s 1, .s 1, .s 1, .s 1, .s 1, .k 21, .s 51, .k 0, .s 51, .k 7, .s 53, .s 53, .s 53, .s 53, .s 53, .s 53, .k 5, .q (fun acts sz tok => mSupA sel0 (.ref 1093) (str "self") acts sz tok), .s 53, .k 3, .s 54, .s 54, .k 0, .s 54, .k 0, .s 51, .s 51, .k 0, .s 54, .s 54, .s 54, .s 54, .s 54, .s 54, .s 54, .s 54, .k 0, .s 54, .s 54, .s 54, .s 54, .k 2, .s 51, .k 0, .s 55, .k 0, .s 55, .s 51, .s 51, .k 0, .s 53, .s 51, .k 6, .s 51, .k 0, .s 51, .k 5, .s 51, .s 51, .k 0, .s 50, .k 1, .s 53, .s 53, .s 52, .s 52, .s 57, .s 52, .s 52, .s 52, .s 57, .s 56, .k 1, .s 56, .k 2, .s 59, .s 59, .s 59, .s 59, .s 59, .s 59, .k 0, .s 59, .s 59, .s 58, .s 58, .k 0, .s 58, .k 0, .s 58, .s 58, .s 7, .s 51, .k 3, .s 7, .k 6, .s 60, .s 60, .s 60, .s 60, .k 2, .s 60, .k 1, .s 51, .k 21, .s 62, .k 0, .s 62, .k 7, .s 64, .s 64, .s 64, .s 64, .s 64, .s 64, .k 5, .q (fun acts sz tok => mSupA sel0 (.ref 1093) (str "self") acts sz tok), .s 64, .k 3, .s 65, .s 65, .k 0, .s 65, .k 0, .s 62, .s 62, .k 0, .s 65, .s 65, .s 65, .s 65, .s 65, .s 65, .s 65, .s 65, .k 0, .s 65, .s 65, .s 65, .s 65, .k 2, .s 62, .k 0, .s 66, .k 0, .s 66, .s 62, .s 62, .k 0, .s 64, .s 62, .k 6, .s 62, .k 0, .s 62, .k 5, .s 62, .s 62, .k 0, .s 61, .k 1, .s 64, .s 64, .s 63, .s 63, .s 68, .s 63, .s 63, .s 63, .s 68, .s 67, .k 1, .s 67, .k 2, .s 70, .s 70, .s 70, .s 70, .s 70, .s 70, .k 0, .s 70, .s 70, .s 69, .s 69, .k 0, .s 69, .k 0, .s 69, .s 69, .s 60, .s 60, .s 60, .s 7, .k 2, .s 7, .k 2, .s 7, .k 2, .s 7, .s 6, .k 0, .s 7, .k 0, .s 7, .s 7, .k 0, .s 71, .s 71, .k 0, .s 71, .s 71, .s 7, .s 7, .s 72, .u (mU4 P x0 u0 xr e0 er t ep t1 dA v1 rs1 rp1 a1 b1 z1 d1 x1 y1 p1 q1 rs2 rp2 a2 b2 z2 d2 x2 y2 p2 q2 rs3 rp3 a3 b3 c3 z3 d3 x3 y3 p3 q3 r3 rs4 rp4 a4 b4 z4 d4 x4 y4 p4 q4 Z5 D5 vk zr dr sv1 sv2 sv3 sv4 sv5 usv1 usv2 usv3 usv4 usv5 aep' zt dt vk2 y0 ys), .s 60, .s 51, .k 2, .s 51, .k 2, .s 51, .k 2, .s 51, .s 50, .k 0, .s 51, .k 0, .s 51, .s 51, .k 0, .s 73, .s 73, .k 0, .s 73, .s 73, .s 51, .s 51, .s 74, .k 0, .s 74, .k 0, .s 74, .s 74, .s 74, .s 51, .s 51, .s 74, .s 74, .s 74, .s 76, .s 60, .s 1, .k 21, .s 79, .k 0, .s 79, .k 7, .s 81, .s 81, .s 81, .s 81, .s 81, .s 81, .k 5, .q (fun acts sz tok => mSupA sel0 (.ref 1093) (str "self") acts sz tok), .s 81, .k 3, .s 82, .s 82, .k 0, .s 82, .k 0, .s 79, .s 79, .k 0, .s 82, .s 82, .s 82, .s 82, .s 82, .s 82, .s 82, .s 82, .k 0, .s 82, .s 82, .s 82, .s 82, .k 2, .s 79, .k 0, .s 83, .k 0, .s 83, .s 79, .s 79, .k 0, .s 81, .s 79, .k 6, .s 79, .k 0, .s 79, .k 5, .s 79, .s 79, .k 0, .s 78, .k 1, .s 81, .s 81, .s 80, .s 80, .s 85, .s 80, .s 80, .s 80, .s 85, .s 84, .k 1, .s 84, .k 2, .s 87, .s 87, .s 87, .s 87, .s 87, .s 87, .k 0, .s 87, .s 87, .s 86, .s 86, .k 0, .s 86, .k 0, .s 86, .s 86, .s 1, .s 79, .s 7, .k 3, .s 79, .k 6, .s 88, .s 88, .s 88, .s 88, .k 2, .s 88, .k 1, .s 7, .k 21, .s 90, .k 0, .s 90, .k 7, .s 92, .s 92, .s 92, .s 92, .s 92, .s 92, .k 5, .q (fun acts sz tok => mSupA sel0 (.ref 1093) (str "self") acts sz tok), .s 92, .k 3, .s 93, .s 93, .k 0, .s 93, .k 0, .s 90, .s 90, .k 0, .s 93, .s 93, .s 93, .s 93, .s 93, .s 93, .s 93, .s 93, .k 0, .s 93, .s 93, .s 93, .s 93, .k 2, .s 90, .k 0, .s 94, .k 0, .s 94, .s 90, .s 90, .k 0, .s 92, .s 90, .k 6, .s 90, .k 0, .s 90, .k 5, .s 90, .s 90, .k 0, .s 89, .k 1, .s 92, .s 92, .s 91, .s 91, .s 96, .s 91, .s 91, .s 91, .s 96, .s 95, .k 1, .s 95, .k 2, .s 98, .s 98, .s 98, .s 98, .s 98, .s 98, .k 0, .s 98, .s 98, .s 97, .s 97, .k 0, .s 97, .k 0, .s 97, .s 97, .s 88, .s 88, .s 88, .s 79, .k 2, .s 79, .k 2, .s 79, .k 2, .s 79, .s 78, .k 0, .s 79, .k 0, .s 79, .s 79, .k 0, .s 99, .s 99, .k 0, .s 99, .s 99, .s 79, .s 79, .s 100, .k 0, .s 100, .k 0, .s 100, .s 100, .s 100, .s 79, .s 79, .s 100, .s 100, .s 100, .s 102, .s 88, .s 7, .k 2, .s 7, .k 2, .s 7, .k 2, .s 7, .s 6, .k 0, .s 7, .k 0, .s 7, .s 7, .k 0, .s 103, .s 103, .k 0, .s 103, .s 103, .s 7, .s 7, .s 104, .u (mU5 P x0 u0 xr e0 er t ep t1 dA v1 rs1 rp1 a1 b1 z1 d1 x1 y1 p1 q1 rs2 rp2 a2 b2 z2 d2 x2 y2 p2 q2 rs3 rp3 a3 b3 c3 z3 d3 x3 y3 p3 q3 r3 rs4 rp4 a4 b4 z4 d4 x4 y4 p4 q4 Z5 D5 vk zr dr sv1 sv2 sv3 sv4 sv5 usv1 usv2 usv3 usv4 usv5 aep' zt dt vk2 y0 ys), .s 88, .s 106, .s 106, .k 0, .s 106, .s 107, .u (mU6 P x0 u0 xr e0 er t ep t1 dA v1 rs1 rp1 a1 b1 z1 d1 x1 y1 p1 q1 rs2 rp2 a2 b2 z2 d2 x2 y2 p2 q2 rs3 rp3 a3 b3 c3 z3 d3 x3 y3 p3 q3 r3 rs4 rp4 a4 b4 z4 d4 x4 y4 p4 q4 Z5 D5 vk zr dr sv1 sv2 sv3 sv4 sv5 usv1 usv2 usv3 usv4 usv5 aep' zt dt vk2 y0 ys), .k 3, .s 108, .s 108, .k 0, .s 108, .s 108, .s 108, .s 108, .k 0, .s 108, .s 108, .s 108, .s 108, .s 109, .u (mU7 P x0 u0 xr e0 er t ep t1 dA v1 rs1 rp1 a1 b1 z1 d1 x1 y1 p1 q1 rs2 rp2 a2 b2 z2 d2 x2 y2 p2 q2 rs3 rp3 a3 b3 c3 z3 d3 x3 y3 p3 q3 r3 rs4 rp4 a4 b4 z4 d4 x4 y4 p4 q4 Z5 D5 vk zr dr sv1 sv2 sv3 sv4 sv5 usv1 usv2 usv3 usv4 usv5 aep' zt dt vk2 y0 ys), .s 1, .s 7, .k 2, .s 7, .k 2, .s 7, .k 3, .s 7, .s 6, .k 3, .s 110, .s 110, .k 2, .s 110, .s 7, .k 2, .s 7, .k 2, .s 7, .k 2, .s 7, .s 6, .k 0, .s 7, .k 0, .s 7, .s 7, .k 1, .s 111, .s 111, .k 0, .s 111, .s 111, .s 7, .s 7, .s 112, .a (mU8 P x0 u0 xr e0 er t ep t1 dA v1 rs1 rp1 a1 b1 z1 d1 x1 y1 p1 q1 rs2 rp2 a2 b2 z2 d2 x2 y2 p2 q2 rs3 rp3 a3 b3 c3 z3 d3 x3 y3 p3 q3 r3 rs4 rp4 a4 b4 z4 d4 x4 y4 p4 q4 Z5 D5 vk zr dr sv1 sv2 sv3 sv4 sv5 usv1 usv2 usv3 usv4 usv5 aep' zt dt vk2 y0 ys), .k 1, .s 2, .s 4, .s 4, .k 0, .s 4, .s 4, .s 4, .s 4, .s 114, .k 0, .a (mU9 P x0 u0 xr e0 er t ep t1 dA v1 rs1 rp1 a1 b1 z1 d1 x1 y1 p1 q1 rs2 rp2 a2 b2 z2 d2 x2 y2 p2 q2 rs3 rp3 a3 b3 c3 z3 d3 x3 y3 p3 q3 r3 rs4 rp4 a4 b4 z4 d4 x4 y4 p4 q4 Z5 D5 vk zr dr sv1 sv2 sv3 sv4 sv5 usv1 usv2 usv3 usv4 usv5 aep' zt dt vk2 y0 ys), .s 116, .s 116, .s 116, .k 0, .s 115, .s 115, .k 0, .s 115, .s 117, .a (mU10 P x0 u0 xr e0 er t ep t1 dA v1 rs1 rp1 a1 b1 z1 d1 x1 y1 p1 q1 rs2 rp2 a2 b2 z2 d2 x2 y2 p2 q2 rs3 rp3 a3 b3 c3 z3 d3 x3 y3 p3 q3 r3 rs4 rp4 a4 b4 z4 d4 x4 y4 p4 q4 Z5 D5 vk zr dr sv1 sv2 sv3 sv4 sv5 usv1 usv2 usv3 usv4 usv5 aep' zt dt vk2 y0 ys), .k 0, .a (mU11 P x0 u0 xr e0 er t ep t1 dA v1 rs1 rp1 a1 b1 z1 d1 x1 y1 p1 q1 rs2 rp2 a2 b2 z2 d2 x2 y2 p2 q2 rs3 rp3 a3 b3 c3 z3 d3 x3 y3 p3 q3 r3 rs4 rp4 a4 b4 z4 d4 x4 y4 p4 q4 Z5 D5 vk zr dr sv1 sv2 sv3 sv4 sv5 usv1 usv2 usv3 usv4 usv5 aep' zt dt vk2 y0 ys), .s 1, .s 22, .k 2, .s 22, .k 2, .s 22, .k 3, .s 22, .s 21, .k 3, .s 119, .s 119, .k 2, .s 119, .s 22, .k 2, .s 22, .k 2, .s 22, .k 2, .s 22, .s 21, .k 0, .s 22, .k 0, .s 22, .s 22, .k 1, .s 120, .s 120, .k 0, .s 120, .s 120, .s 22, .s 22, .s 121, .a (mU12 P x0 u0 xr e0 er t ep t1 dA v1 rs1 rp1 a1 b1 z1 d1 x1 y1 p1 q1 rs2 rp2 a2 b2 z2 d2 x2 y2 p2 q2 rs3 rp3 a3 b3 c3 z3 d3 x3 y3 p3 q3 r3 rs4 rp4 a4 b4 z4 d4 x4 y4 p4 q4 Z5 D5 vk zr dr sv1 sv2 sv3 sv4 sv5 usv1 usv2 usv3 usv4 usv5 aep' zt dt vk2 y0 ys), .s 1, .s 35, .k 2, .s 35, .k 2, .s 35, .k 3, .s 35, .s 34, .k 3, .s 123, .s 123, .k 2, .s 123, .s 35, .k 2, .s 35, .k 2, .s 35, .k 2, .s 35, .s 34, .k 0, .s 35, .k 0, .s 35, .s 35, .k 1, .s 124, .s 124, .k 0, .s 124, .s 124, .s 35, .s 35, .s 125, .a (mU13 P x0 u0 xr e0 er t ep t1 dA v1 rs1 rp1 a1 b1 z1 d1 x1 y1 p1 q1 rs2 rp2 a2 b2 z2 d2 x2 y2 p2 q2 rs3 rp3 a3 b3 c3 z3 d3 x3 y3 p3 q3 r3 rs4 rp4 a4 b4 z4 d4 x4 y4 p4 q4 Z5 D5 vk zr dr sv1 sv2 sv3 sv4 sv5 usv1 usv2 usv3 usv4 usv5 aep' zt dt vk2 y0 ys), .k 0, .s 1, .s 7, .k 2, .s 7, .k 2, .s 7, .k 3, .s 7, .s 6, .k 3, .s 127, .s 127, .k 2, .s 127, .s 7, .k 2, .s 7, .k 2, .s 7, .k 2, .s 7, .s 6, .k 0, .s 7, .k 0, .s 7, .s 7, .k 1, .s 128, .s 128, .k 0, .s 128, .s 128, .s 7, .s 7, .s 129, .a (mU14 P x0 u0 xr e0 er t ep t1 dA v1 rs1 rp1 a1 b1 z1 d1 x1 y1 p1 q1 rs2 rp2 a2 b2 z2 d2 x2 y2 p2 q2 rs3 rp3 a3 b3 c3 z3 d3 x3 y3 p3 q3 r3 rs4 rp4 a4 b4 z4 d4 x4 y4 p4 q4 Z5 D5 vk zr dr sv1 sv2 sv3 sv4 sv5 usv1 usv2 usv3 usv4 usv5 aep' zt dt vk2 y0 ys), .k 0, .a (mU15 P x0 u0 xr e0 er t ep t1 dA v1 rs1 rp1 a1 b1 z1 d1 x1 y1 p1 q1 rs2 rp2 a2 b2 z2 d2 x2 y2 p2 q2 rs3 rp3 a3 b3 c3 z3 d3 x3 y3 p3 q3 r3 rs4 rp4 a4 b4 z4 d4 x4 y4 p4 q4 Z5 D5 vk zr dr sv1 sv2 sv3 sv4 sv5 usv1 usv2 usv3 usv4 usv5 aep' zt dt vk2 y0 ys), .s 131, .s 131, .s 131, .k 0, .s 131, .s 132, .s 132, .k 0, .s 132, .s 132, .s 132, .s 131, .s 132, .s 132, .s 132, .k 0, .s 132, .s 132, .s 132, .s 131, .s 132, .s 132, .s 132, .k 0, .s 132, .s 132, .s 132, .s 131, .s 132, .s 132, .s 134, .s 1, .s 22, .k 0, .s 22, .k 3, .s 22, .k 0, .a (mU16 P x0 u0 xr e0 er t ep t1 dA v1 rs1 rp1 a1 b1 z1 d1 x1 y1 p1 q1 rs2 rp2 a2 b2 z2 d2 x2 y2 p2 q2 rs3 rp3 a3 b3 c3 z3 d3 x3 y3 p3 q3 r3 rs4 rp4 a4 b4 z4 d4 x4 y4 p4 q4 Z5 D5 vk zr dr sv1 sv2 sv3 sv4 sv5 usv1 usv2 usv3 usv4 usv5 aep' zt dt vk2 y0 ys), .s 1, .s 35, .k 0, .s 35, .k 3, .s 35, .k 0, .a (mU17 P x0 u0 xr e0 er t ep t1 dA v1 rs1 rp1 a1 b1 z1 d1 x1 y1 p1 q1 rs2 rp2 a2 b2 z2 d2 x2 y2 p2 q2 rs3 rp3 a3 b3 c3 z3 d3 x3 y3 p3 q3 r3 rs4 rp4 a4 b4 z4 d4 x4 y4 p4 q4 Z5 D5 vk zr dr sv1 sv2 sv3 sv4 sv5 usv1 usv2 usv3 usv4 usv5 aep' zt dt vk2 y0 ys), .k 1, .s 1, .s 7, .k 2, .s 7, .k 2, .s 7, .k 2, .s 7, .s 6, .k 0, .s 7, .k 0, .s 7, .s 7, .k 2, .s 136, .s 136, .k 0, .s 136, .s 136, .s 136, .s 136, .s 136, .m (mM0 x0 u0 xr e0 er t ep t1 dA v1 rs1 rp1 a1 b1 z1 d1 x1 y1 p1 q1 rs2 rp2 a2 b2 z2 d2 x2 y2 p2 q2 rs3 rp3 a3 b3 c3 z3 d3 x3 y3 p3 q3 r3 rs4 rp4 a4 b4 z4 d4 x4 y4 p4 q4 Z5 D5 vk zr dr sv1 sv2 sv3 sv4 sv5 usv1 usv2 usv3 usv4 usv5 aep' zt dt vk2 y0 ys), .s 135, .s 135, .k 0, .s 135, .s 135, .s 7, .s 7, .s 137, .s 135, .s 135, .s 135, .s 136, .s 136, .s 136, .s 136, .s 136, .s 136, .a (mU18 P x0 u0 xr e0 er t ep t1 dA v1 rs1 rp1 a1 b1 z1 d1 x1 y1 p1 q1 rs2 rp2 a2 b2 z2 d2 x2 y2 p2 q2 rs3 rp3 a3 b3 c3 z3 d3 x3 y3 p3 q3 r3 rs4 rp4 a4 b4 z4 d4 x4 y4 p4 q4 Z5 D5 vk zr dr sv1 sv2 sv3 sv4 sv5 usv1 usv2 usv3 usv4 usv5 aep' zt dt vk2 y0 ys), .k 1, .s 2, .s 4, .s 4, .s 4, .s 4, .k 0, .s 4, .s 4, .k 1, .s 139, .s 139, .k 0, .s 139, .s 139, .s 139, .s 139, .s 139, .m (mM1 x0 u0 xr e0 er t ep t1 dA v1 rs1 rp1 a1 b1 z1 d1 x1 y1 p1 q1 rs2 rp2 a2 b2 z2 d2 x2 y2 p2 q2 rs3 rp3 a3 b3 c3 z3 d3 x3 y3 p3 q3 r3 rs4 rp4 a4 b4 z4 d4 x4 y4 p4 q4 Z5 D5 vk zr dr sv1 sv2 sv3 sv4 sv5 usv1 usv2 usv3 usv4 usv5 aep' zt dt vk2 y0 ys), .s 138, .s 138, .k 0, .s 138, .s 138, .s 4, .s 4, .s 140, .s 138, .s 138, .s 138, .s 139, .s 139, .s 139, .s 139, .s 139, .s 139, .a (mU19 P x0 u0 xr e0 er t ep t1 dA v1 rs1 rp1 a1 b1 z1 d1 x1 y1 p1 q1 rs2 rp2 a2 b2 z2 d2 x2 y2 p2 q2 rs3 rp3 a3 b3 c3 z3 d3 x3 y3 p3 q3 r3 rs4 rp4 a4 b4 z4 d4 x4 y4 p4 q4 Z5 D5 vk zr dr sv1 sv2 sv3 sv4 sv5 usv1 usv2 usv3 usv4 usv5 aep' zt dt vk2 y0 ys), .s 136, .s 139, .s 136, .k 0, .s 136, .a (mU20 P x0 u0 xr e0 er t ep t1 dA v1 rs1 rp1 a1 b1 z1 d1 x1 y1 p1 q1 rs2 rp2 a2 b2 z2 d2 x2 y2 p2 q2 rs3 rp3 a3 b3 c3 z3 d3 x3 y3 p3 q3 r3 rs4 rp4 a4 b4 z4 d4 x4 y4 p4 q4 Z5 D5 vk zr dr sv1 sv2 sv3 sv4 sv5 usv1 usv2 usv3 usv4 usv5 aep' zt dt vk2 y0 ys)]
  | false => [.k 3, .s 1, .s 1, .k 0, .s 2, .s 2, .s 1, .s 0, .s 0, .k 0, .s 0, .s 5, .u (mU0 P x0 u0 xr e0 er t ep t1 dA v1 rs1 rp1 a1 b1 z1 d1 x1 y1 p1 q1 rs2 rp2 a2 b2 z2 d2 x2 y2 p2 q2 rs3 rp3 a3 b3 c3 z3 d3 x3 y3 p3 q3 r3 rs4 rp4 a4 b4 z4 d4 x4 y4 p4 q4 Z5 D5 vk zr dr sv1 sv2 sv3 sv4 sv5 usv1 usv2 usv3 usv4 usv5 aep' zt dt vk2 y0 ys), .k 0, .s 2, .k 20, .s 7, .k 0, .s 7, .k 7, .s 9, .s 9, .s 9, .s 9, .s 9, .s 9, .k 5, .q (fun acts sz tok => mSupA sel0 (.ref 1093) (str "self") acts sz tok), .s 9, .k 3, .s 10, .s 10, .k 0, .s 10, .k 0, .s 7, .s 7, .k 0, .s 10, .s 10, .s 10, .s 10, .s 10, .s 10, .s 10, .s 10, .k 0, .s 10, .s 10, .s 10, .s 10, .k 2, .s 7, .k 0, .s 11, .k 0, .s 11, .s 7, .s 7, .k 0, .s 9, .s 7, .k 6, .s 7, .k 0, .s 7, .k 5, .s 7, .s 7, .k 0, .s 6, .k 1, .s 9, .s 9, .s 8, .s 8, .s 13, .s 8, .s 8, .s 8, .s 13, .s 12, .k 1, .s 12, .k 2, .s 15, .s 15, .s 15, .s 15, .s 15, .s 15, .k 0, .s 15, .k 1, .s 15, .k 1, .s 4, .k 11, .s 16, .s 16, .s 16, .s 16, .k 2, .s 16, .k 0, .s 4, .s 16, .s 16, .s 16, .s 4, .k 0, .s 4, .s 4, .k 0, .s 4, .s 4, .s 16, .s 16, .k 30, .s 16, .s 16, .k 3, .s 17, .s 17, .s 17, .s 17, .k 0, .s 17, .k 2, .s 17, .k 2, .s 15, .s 7, .k 2, .s 7, .k 3, .s 7, .k 3, .s 7, .k 0, .s 7, .k 4, .q (fun acts sz tok => mSupA selUpd (.ref 1093) (str "self") acts sz tok), .s 15, .k 3, .s 18, .s 18, .k 0, .s 18, .k 0, .s 7, .s 7, .k 0, .s 18, .s 18, .s 18, .s 18, .s 18, .s 18, .s 18, .s 18, .k 0, .s 18, .s 18, .s 18, .s 18, .k 2, .s 7, .k 0, .s 15, .s 19, .k 0, .s 19, .s 7, .k 0, .s 7, .s 7, .k 1, .a (mU1 P x0 u0 xr e0 er t ep t1 dA v1 rs1 rp1 a1 b1 z1 d1 x1 y1 p1 q1 rs2 rp2 a2 b2 z2 d2 x2 y2 p2 q2 rs3 rp3 a3 b3 c3 z3 d3 x3 y3 p3 q3 r3 rs4 rp4 a4 b4 z4 d4 x4 y4 p4 q4 Z5 D5 vk zr dr sv1 sv2 sv3 sv4 sv5 usv1 usv2 usv3 usv4 usv5 aep' zt dt vk2 y0 ys), .s 15, .s 14, .s 14, .k 0, .s 14, .k 0, .s 14, .s 14, .s 1, .s 1, .s 1, .s 7, .k 6, .s 20, .s 20, .k 22, .s 22, .k 0, .s 22, .k 7, .s 24, .s 24, .s 24, .s 24, .s 24, .s 24, .k 5, .q (fun acts sz tok => mSupA sel0 (.ref 1093) (str "self") acts sz tok), .s 24, .k 3, .s 25, .s 25, .k 0, .s 25, .k 0, .s 22, .s 22, .k 0, .s 25, .s 25, .s 25, .s 25, .s 25, .s 25, .s 25, .s 25, .k 0, .s 25, .s 25, .s 25, .s 25, .k 2, .s 22, .k 0, .s 26, .k 0, .s 26, .s 22, .s 22, .k 0, .s 24, .s 22, .k 6, .s 22, .k 0, .s 22, .k 5, .s 22, .s 22, .k 0, .s 21, .k 1, .s 24, .s 24, .s 23, .s 23, .s 28, .s 23, .s 23, .s 23, .s 28, .s 27, .k 1, .s 27, .k 2, .s 30, .s 30, .s 30, .s 30, .s 30, .s 30, .k 0, .s 30, .s 30, .s 29, .s 29, .k 0, .s 29, .k 0, .s 29, .s 29, .s 20, .s 20, .s 20, .s 7, .k 2, .s 7, .k 2, .s 7, .k 2, .s 7, .s 6, .k 0, .s 7, .k 0, .s 7, .s 7, .k 0, .s 31, .s 31, .k 0, .s 31, .s 31, .s 7, .s 7, .s 32, .u (mU2 P x0 u0 xr e0 er t ep t1 dA v1 rs1 rp1 a1 b1 z1 d1 x1 y1 p1 q1 rs2 rp2 a2 b2 z2 d2 x2 y2 p2 q2 rs3 rp3 a3 b3 c3 z3 d3 x3 y3 p3 q3 r3 rs4 rp4 a4 b4 z4 d4 x4 y4 p4 q4 Z5 D5 vk zr dr sv1 sv2 sv3 sv4 sv5 usv1 usv2 usv3 usv4 usv5 aep' zt dt vk2 y0 ys), .s 20, .s 1, .s 7, .k 6, .s 33, .s 33, .k 22, .s 35, .k 0, .s 35, .k 7, .s 37, .s 37, .s 37, .s 37, .s 37, .s 37, .k 5, .q (fun acts sz tok => mSupA sel0 (.ref 1093) (str "self") acts sz tok), .s 37, .k 3, .s 38, .s 38, .k 0, .s 38, .k 0, .s 35, .s 35, .k 0, .s 38, .s 38, .s 38, .s 38, .s 38, .s 38, .s 38, .s 38, .k 0, .s 38, .s 38, .s 38, .s 38, .k 2, .s 35, .k 0, .s 39, .k 0, .s 39, .s 35, .s 35, .k 0, .s 37, .s 35, .k 6, .s 35, .k 0, .s 35, .k 5, .s 35, .s 35, .k 0, .s 34, .k 1, .s 37, .s 37, .s 36, .s 36, .s 41, .s 36, .s 36, .s 36, .s 41, .s 40, .k 1, .s 40, .k 2, .s 43, .s 43, .s 43, .s 43, .s 43, .s 43, .k 0, .s 43, .s 43, .s 42, .s 42, .k 0, .s 42, .k 0, .s 42, .s 42, .s 33, .s 33, .s 33, .s 7, .k 2, .s 7, .k 2, .s 7, .k 2, .s 7, .s 6, .k 0, .s 7, .k 0, .s 7, .s 7, .k 0, .s 44, .s 44, .k 0, .s 44, .s 44, .s 7, .s 7, .s 45, .u (mU3 P x0 u0 xr e0 er t ep t1 dA v1 rs1 rp1 a1 b1 z1 d1 x1 y1 p1 q1 rs2 rp2 a2 b2 z2 d2 x2 y2 p2 q2 rs3 rp3 a3 b3 c3 z3 d3 x3 y3 p3 q3 r3 rs4 rp4 a4 b4 z4 d4 x4 y4 p4 q4 Z5 D5 vk zr dr sv1 sv2 sv3 sv4 sv5 usv1 usv2 usv3 usv4 usv5 aep' zt dt vk2 y0 ys), .s 33, .s 46, .s 46, .s 46, .k 0, .s 46, .s 47, .s 47, .k 0, .s 47, .s 47, .s 47, .s 46, .s 47, .s 47, .s 47, .k 0, .s 47, .s 47, .s 47, .s 46, .s 47, .s 47, .s 47, .k 0, .s 47, .s 47, .s 47, .s 46, .s 47, .s 47, .s 49, .s 1, .s 1, .s 1, .s 1, .s 1, .s 1, .k 21, .s 51, .k 0, .s 51, .k 7, .s 53, .s 53, .s 53, .s 53, .s 53, .s 53, .k 5, .q (fun acts sz tok => mSupA sel0 (.ref 1093) (str "self") acts sz tok), .s 53, .k 3, .s 54, .s 54, .k 0, .s 54, .k 0, .s 51, .s 51, .k 0, .s 54, .s 54, .s 54, .s 54, .s 54, .s 54, .s 54, .s 54, .k 0, .s 54, .s 54, .s 54, .s 54, .k 2, .s 51, .k 0, .s 55, .k 0, .s 55, .s 51, .s 51, .k 0, .s 53, .s 51, .k 6, .s 51, .k 0, .s 51, .k 5, .s 51, .s 51, .k 0, .s 50, .k 1, .s 53, .s 53, .s 52, .s 52, .s 57, .s 52, .s 52, .s 52, .s 57, .s 56, .k 1, .s 56, .k 2, .s 59, .s 59, .s 59, .s 59, .s 59, .s 59, .k 0, .s 59, .s 59, .s 58, .s 58, .k 0, .s 58, .k 0, .s 58, .s 58, .s 7, .s 51, .k 3, .s 7, .k 6, .s 60, .s 60, .s 60, .s 60, .k 2, .s 60, .k 1, .s 51, .k 21, .s 62, .k 0, .s 62, .k 7, .s 64, .s 64, .s 64, .s 64, .s 64, .s 64, .k 5, .q (fun acts sz tok => mSupA sel0 (.ref 1093) (str "self") acts sz tok), .s 64, .k 3, .s 65, .s 65, .k 0, .s 65, .k 0, .s 62, .s 62, .k 0, .s 65, .s 65, .s 65, .s 65, .s 65, .s 65, .s 65, .s 65, .k 0, .s 65, .s 65, .s 65, .s 65, .k 2, .s 62, .k 0, .s 66, .k 0, .s 66, .s 62, .s 62, .k 0, .s 64, .s 62, .k 6, .s 62, .k 0, .s 62, .k 5, .s 62, .s 62, .k 0, .s 61, .k 1, .s 64, .s 64, .s 63, .s 63, .s 68, .s 63, .s 63, .s 63, .s 68, .s 67, .k 1, .s 67, .k 2, .s 70, .s 70, .s 70, .s 70, .s 70, .s 70, .k 0, .s 70, .s 70, .s 69, .s 69, .k 0, .s 69, .k 0, .s 69, .s 69, .s 60, .s 60, .s 60, .s 7, .k 2, .s 7, .k 2, .s 7, .k 2, .s 7, .s 6, .k 0, .s 7, .k 0, .s 7, .s 7, .k 0, .s 71, .s 71, .k 0, .s 71, .s 71, .s 7, .s 7, .s 72, .u (mU4 P x0 u0 xr e0 er t ep t1 dA v1 rs1 rp1 a1 b1 z1 d1 x1 y1 p1 q1 rs2 rp2 a2 b2 z2 d2 x2 y2 p2 q2 rs3 rp3 a3 b3 c3 z3 d3 x3 y3 p3 q3 r3 rs4 rp4 a4 b4 z4 d4 x4 y4 p4 q4 Z5 D5 vk zr dr sv1 sv2 sv3 sv4 sv5 usv1 usv2 usv3 usv4 usv5 aep' zt dt vk2 y0 ys), .s 60, .s 51, .k 2, .s 51, .k 2, .s 51, .k 2, .s 51, .s 50, .k 0, .s 51, .k 0, .s 51, .s 51, .k 0, .s 73, .s 73, .k 0, .s 73, .s 73, .s 51, .s 51, .s 74, .k 0, .s 74, .k 0, .s 74, .s 74, .s 74, .s 51, .s 51, .s 74, .s 74, .s 74, .s 76, .s 60, .s 1, .k 21, .s 79, .k 0, .s 79, .k 7, .s 81, .s 81, .s 81, .s 81, .s 81, .s 81, .k 5, .q (fun acts sz tok => mSupA sel0 (.ref 1093) (str "self") acts sz tok), .s 81, .k 3, .s 82, .s 82, .k 0, .s 82, .k 0, .s 79, .s 79, .k 0, .s 82, .s 82, .s 82, .s 82, .s 82, .s 82, .s 82, .s 82, .k 0, .s 82, .s 82, .s 82, .s 82, .k 2, .s 79, .k 0, .s 83, .k 0, .s 83, .s 79, .s 79, .k 0, .s 81, .s 79, .k 6, .s 79, .k 0, .s 79, .k 5, .s 79, .s 79, .k 0, .s 78, .k 1, .s 81, .s 81, .s 80, .s 80, .s 85, .s 80, .s 80, .s 80, .s 85, .s 84, .k 1, .s 84, .k 2, .s 87, .s 87, .s 87, .s 87, .s 87, .s 87, .k 0, .s 87, .s 87, .s 86, .s 86, .k 0, .s 86, .k 0, .s 86, .s 86, .s 1, .s 79, .s 7, .k 3, .s 79, .k 6, .s 88, .s 88, .s 88, .s 88, .k 2, .s 88, .k 1, .s 7, .k 21, .s 90, .k 0, .s 90, .k 7, .s 92, .s 92, .s 92, .s 92, .s 92, .s 92, .k 5, .q (fun acts sz tok => mSupA sel0 (.ref 1093) (str "self") acts sz tok), .s 92, .k 3, .s 93, .s 93, .k 0, .s 93, .k 0, .s 90, .s 90, .k 0, .s 93, .s 93, .s 93, .s 93, .s 93, .s 93, .s 93, .s 93, .k 0, .s 93, .s 93, .s 93, .s 93, .k 2, .s 90, .k 0, .s 94, .k 0, .s 94, .s 90, .s 90, .k 0, .s 92, .s 90, .k 6, .s 90, .k 0, .s 90, .k 5, .s 90, .s 90, .k 0, .s 89, .k 1, .s 92, .s 92, .s 91, .s 91, .s 96, .s 91, .s 91, .s 91, .s 96, .s 95, .k 1, .s 95, .k 2, .s 98, .s 98, .s 98, .s 98, .s 98, .s 98, .k 0, .s 98, .s 98, .s 97, .s 97, .k 0, .s 97, .k 0, .s 97, .s 97, .s 88, .s 88, .s 88, .s 79, .k 2, .s 79, .k 2, .s 79, .k 2, .s 79, .s 78, .k 0, .s 79, .k 0, .s 79, .s 79, .k 0, .s 99, .s 99, .k 0, .s 99, .s 99, .s 79, .s 79, .s 100, .k 0, .s 100, .k 0, .s 100, .s 100, .s 100, .s 79, .s 79, .s 100, .s 100, .s 100, .s 102, .s 88, .s 7, .k 2, .s 7, .k 2, .s 7, .k 2, .s 7, .s 6, .k 0, .s 7, .k 0, .s 7, .s 7, .k 0, .s 103, .s 103, .k 0, .s 103, .s 103, .s 7, .s 7, .s 104, .u (mU5 P x0 u0 xr e0 er t ep t1 dA v1 rs1 rp1 a1 b1 z1 d1 x1 y1 p1 q1 rs2 rp2 a2 b2 z2 d2 x2 y2 p2 q2 rs3 rp3 a3 b3 c3 z3 d3 x3 y3 p3 q3 r3 rs4 rp4 a4 b4 z4 d4 x4 y4 p4 q4 Z5 D5 vk zr dr sv1 sv2 sv3 sv4 sv5 usv1 usv2 usv3 usv4 usv5 aep' zt dt vk2 y0 ys), .s 88, .s 106, .s 106, .k 0, .s 106, .s 107, .u (mU6 P x0 u0 xr e0 er t ep t1 dA v1 rs1 rp1 a1 b1 z1 d1 x1 y1 p1 q1 rs2 rp2 a2 b2 z2 d2 x2 y2 p2 q2 rs3 rp3 a3 b3 c3 z3 d3 x3 y3 p3 q3 r3 rs4 rp4 a4 b4 z4 d4 x4 y4 p4 q4 Z5 D5 vk zr dr sv1 sv2 sv3 sv4 sv5 usv1 usv2 usv3 usv4 usv5 aep' zt dt vk2 y0 ys), .k 3, .s 108, .s 108, .k 0, .s 108, .s 108, .s 108, .s 108, .k 0, .s 108, .s 108, .s 108, .s 108, .s 109, .u (mU7 P x0 u0 xr e0 er t ep t1 dA v1 rs1 rp1 a1 b1 z1 d1 x1 y1 p1 q1 rs2 rp2 a2 b2 z2 d2 x2 y2 p2 q2 rs3 rp3 a3 b3 c3 z3 d3 x3 y3 p3 q3 r3 rs4 rp4 a4 b4 z4 d4 x4 y4 p4 q4 Z5 D5 vk zr dr sv1 sv2 sv3 sv4 sv5 usv1 usv2 usv3 usv4 usv5 aep' zt dt vk2 y0 ys), .s 1, .s 7, .k 2, .s 7, .k 2, .s 7, .k 3, .s 7, .s 6, .k 3, .s 110, .s 110, .k 2, .s 110, .s 7, .k 2, .s 7, .k 2, .s 7, .k 2, .s 7, .s 6, .k 0, .s 7, .k 0, .s 7, .s 7, .k 1, .s 111, .s 111, .k 0, .s 111, .s 111, .s 7, .s 7, .s 112, .a (mU8 P x0 u0 xr e0 er t ep t1 dA v1 rs1 rp1 a1 b1 z1 d1 x1 y1 p1 q1 rs2 rp2 a2 b2 z2 d2 x2 y2 p2 q2 rs3 rp3 a3 b3 c3 z3 d3 x3 y3 p3 q3 r3 rs4 rp4 a4 b4 z4 d4 x4 y4 p4 q4 Z5 D5 vk zr dr sv1 sv2 sv3 sv4 sv5 usv1 usv2 usv3 usv4 usv5 aep' zt dt vk2 y0 ys), .k 1, .s 2, .s 4, .s 4, .k 0, .s 4, .s 4, .s 4, .s 4, .s 114, .k 0, .s 114, .s 114, .k 0, .s 114, .s 114, .a (mU9 P x0 u0 xr e0 er t ep t1 dA v1 rs1 rp1 a1 b1 z1 d1 x1 y1 p1 q1 rs2 rp2 a2 b2 z2 d2 x2 y2 p2 q2 rs3 rp3 a3 b3 c3 z3 d3 x3 y3 p3 q3 r3 rs4 rp4 a4 b4 z4 d4 x4 y4 p4 q4 Z5 D5 vk zr dr sv1 sv2 sv3 sv4 sv5 usv1 usv2 usv3 usv4 usv5 aep' zt dt vk2 y0 ys), .s 116, .s 116, .s 116, .k 0, .s 115, .s 115, .k 0, .s 115, .s 117, .a (mU10 P x0 u0 xr e0 er t ep t1 dA v1 rs1 rp1 a1 b1 z1 d1 x1 y1 p1 q1 rs2 rp2 a2 b2 z2 d2 x2 y2 p2 q2 rs3 rp3 a3 b3 c3 z3 d3 x3 y3 p3 q3 r3 rs4 rp4 a4 b4 z4 d4 x4 y4 p4 q4 Z5 D5 vk zr dr sv1 sv2 sv3 sv4 sv5 usv1 usv2 usv3 usv4 usv5 aep' zt dt vk2 y0 ys), .k 0, .a (mU11 P x0 u0 xr e0 er t ep t1 dA v1 rs1 rp1 a1 b1 z1 d1 x1 y1 p1 q1 rs2 rp2 a2 b2 z2 d2 x2 y2 p2 q2 rs3 rp3 a3 b3 c3 z3 d3 x3 y3 p3 q3 r3 rs4 rp4 a4 b4 z4 d4 x4 y4 p4 q4 Z5 D5 vk zr dr sv1 sv2 sv3 sv4 sv5 usv1 usv2 usv3 usv4 usv5 aep' zt dt vk2 y0 ys), .s 1, .s 22, .k 2, .s 22, .k 2, .s 22, .k 3, .s 22, .s 21, .k 3, .s 119, .s 119, .k 2, .s 119, .s 22, .k 2, .s 22, .k 2, .s 22, .k 2, .s 22, .s 21, .k 0, .s 22, .k 0, .s 22, .s 22, .k 1, .s 120, .s 120, .k 0, .s 120, .s 120, .s 22, .s 22, .s 121, .a (mU12 P x0 u0 xr e0 er t ep t1 dA v1 rs1 rp1 a1 b1 z1 d1 x1 y1 p1 q1 rs2 rp2 a2 b2 z2 d2 x2 y2 p2 q2 rs3 rp3 a3 b3 c3 z3 d3 x3 y3 p3 q3 r3 rs4 rp4 a4 b4 z4 d4 x4 y4 p4 q4 Z5 D5 vk zr dr sv1 sv2 sv3 sv4 sv5 usv1 usv2 usv3 usv4 usv5 aep' zt dt vk2 y0 ys), .s 1, .s 35, .k 2, .s 35, .k 2, .s 35, .k 3, .s 35, .s 34, .k 3, .s 123, .s 123, .k 2, .s 123, .s 35, .k 2, .s 35, .k 2, .s 35, .k 2, .s 35, .s 34, .k 0, .s 35, .k 0, .s 35, .s 35, .k 1, .s 124, .s 124, .k 0, .s 124, .s 124, .s 35, .s 35, .s 125, .a (mU13 P x0 u0 xr e0 er t ep t1 dA v1 rs1 rp1 a1 b1 z1 d1 x1 y1 p1 q1 rs2 rp2 a2 b2 z2 d2 x2 y2 p2 q2 rs3 rp3 a3 b3 c3 z3 d3 x3 y3 p3 q3 r3 rs4 rp4 a4 b4 z4 d4 x4 y4 p4 q4 Z5 D5 vk zr dr sv1 sv2 sv3 sv4 sv5 usv1 usv2 usv3 usv4 usv5 aep' zt dt vk2 y0 ys), .k 0, .s 1, .s 7, .k 2, .s 7, .k 2, .s 7, .k 3, .s 7, .s 6, .k 3, .s 127, .s 127, .k 2, .s 127, .s 7, .k 2, .s 7, .k 2, .s 7, .k 2, .s 7, .s 6, .k 0, .s 7, .k 0, .s 7, .s 7, .k 1, .s 128, .s 128, .k 0, .s 128, .s 128, .s 7, .s 7, .s 129, .a (mU14 P x0 u0 xr e0 er t ep t1 dA v1 rs1 rp1 a1 b1 z1 d1 x1 y1 p1 q1 rs2 rp2 a2 b2 z2 d2 x2 y2 p2 q2 rs3 rp3 a3 b3 c3 z3 d3 x3 y3 p3 q3 r3 rs4 rp4 a4 b4 z4 d4 x4 y4 p4 q4 Z5 D5 vk zr dr sv1 sv2 sv3 sv4 sv5 usv1 usv2 usv3 usv4 usv5 aep' zt dt vk2 y0 ys), .k 0, .a (mU15 P x0 u0 xr e0 er t ep t1 dA v1 rs1 rp1 a1 b1 z1 d1 x1 y1 p1 q1 rs2 rp2 a2 b2 z2 d2 x2 y2 p2 q2 rs3 rp3 a3 b3 c3 z3 d3 x3 y3 p3 q3 r3 rs4 rp4 a4 b4 z4 d4 x4 y4 p4 q4 Z5 D5 vk zr dr sv1 sv2 sv3 sv4 sv5 usv1 usv2 usv3 usv4 usv5 aep' zt dt vk2 y0 ys), .s 131, .s 131, .s 131, .k 0, .s 131, .s 132, .s 132, .k 0, .s 132, .s 132, .s 132, .s 131, .s 132, .s 132, .s 132, .k 0, .s 132, .s 132, .s 132, .s 131, .s 132, .s 132, .s 132, .k 0, .s 132, .s 132, .s 132, .s 131, .s 132, .s 132, .s 134, .s 1, .s 22, .k 0, .s 22, .k 3, .s 22, .k 0, .a (mU16 P x0 u0 xr e0 er t ep t1 dA v1 rs1 rp1 a1 b1 z1 d1 x1 y1 p1 q1 rs2 rp2 a2 b2 z2 d2 x2 y2 p2 q2 rs3 rp3 a3 b3 c3 z3 d3 x3 y3 p3 q3 r3 rs4 rp4 a4 b4 z4 d4 x4 y4 p4 q4 Z5 D5 vk zr dr sv1 sv2 sv3 sv4 sv5 usv1 usv2 usv3 usv4 usv5 aep' zt dt vk2 y0 ys), .s 1, .s 35, .k 0, .s 35, .k 3, .s 35, .k 0, .a (mU17 P x0 u0 xr e0 er t ep t1 dA v1 rs1 rp1 a1 b1 z1 d1 x1 y1 p1 q1 rs2 rp2 a2 b2 z2 d2 x2 y2 p2 q2 rs3 rp3 a3 b3 c3 z3 d3 x3 y3 p3 q3 r3 rs4 rp4 a4 b4 z4 d4 x4 y4 p4 q4 Z5 D5 vk zr dr sv1 sv2 sv3 sv4 sv5 usv1 usv2 usv3 usv4 usv5 aep' zt dt vk2 y0 ys), .k 1, .s 1, .s 7, .k 2, .s 7, .k 2, .s 7, .k 2, .s 7, .s 6, .k 0, .s 7, .k 0, .s 7, .s 7, .k 2, .s 136, .s 136, .k 0, .s 136, .s 136, .s 136, .s 136, .s 136, .m (mM0 x0 u0 xr e0 er t ep t1 dA v1 rs1 rp1 a1 b1 z1 d1 x1 y1 p1 q1 rs2 rp2 a2 b2 z2 d2 x2 y2 p2 q2 rs3 rp3 a3 b3 c3 z3 d3 x3 y3 p3 q3 r3 rs4 rp4 a4 b4 z4 d4 x4 y4 p4 q4 Z5 D5 vk zr dr sv1 sv2 sv3 sv4 sv5 usv1 usv2 usv3 usv4 usv5 aep' zt dt vk2 y0 ys), .s 135, .s 135, .k 0, .s 135, .s 135, .s 7, .s 7, .s 137, .s 135, .s 135, .s 135, .s 136, .s 136, .s 136, .s 136, .s 136, .s 136, .a (mU18 P x0 u0 xr e0 er t ep t1 dA v1 rs1 rp1 a1 b1 z1 d1 x1 y1 p1 q1 rs2 rp2 a2 b2 z2 d2 x2 y2 p2 q2 rs3 rp3 a3 b3 c3 z3 d3 x3 y3 p3 q3 r3 rs4 rp4 a4 b4 z4 d4 x4 y4 p4 q4 Z5 D5 vk zr dr sv1 sv2 sv3 sv4 sv5 usv1 usv2 usv3 usv4 usv5 aep' zt dt vk2 y0 ys), .k 1, .s 2, .s 4, .s 4, .s 4, .s 4, .k 0, .s 4, .s 4, .k 1, .s 139, .s 139, .k 0, .s 139, .s 139, .s 139, .s 139, .s 139, .m (mM1 x0 u0 xr e0 er t ep t1 dA v1 rs1 rp1 a1 b1 z1 d1 x1 y1 p1 q1 rs2 rp2 a2 b2 z2 d2 x2 y2 p2 q2 rs3 rp3 a3 b3 c3 z3 d3 x3 y3 p3 q3 r3 rs4 rp4 a4 b4 z4 d4 x4 y4 p4 q4 Z5 D5 vk zr dr sv1 sv2 sv3 sv4 sv5 usv1 usv2 usv3 usv4 usv5 aep' zt dt vk2 y0 ys), .s 138, .s 138, .k 0, .s 138, .s 138, .s 4, .s 4, .s 140, .s 138, .s 138, .s 138, .s 139, .s 139, .s 139, .s 139, .s 139, .s 139, .a (mU19 P x0 u0 xr e0 er t ep t1 dA v1 rs1 rp1 a1 b1 z1 d1 x1 y1 p1 q1 rs2 rp2 a2 b2 z2 d2 x2 y2 p2 q2 rs3 rp3 a3 b3 c3 z3 d3 x3 y3 p3 q3 r3 rs4 rp4 a4 b4 z4 d4 x4 y4 p4 q4 Z5 D5 vk zr dr sv1 sv2 sv3 sv4 sv5 usv1 usv2 usv3 usv4 usv5 aep' zt dt vk2 y0 ys), .s 136, .s 139, .s 136, .k 0, .s 136, .a (mU20 P x0 u0 xr e0 er t ep t1 dA v1 rs1 rp1 a1 b1 z1 d1 x1 y1 p1 q1 rs2 rp2 a2 b2 z2 d2 x2 y2 p2 q2 rs3 rp3 a3 b3 c3 z3 d3 x3 y3 p3 q3 r3 rs4 rp4 a4 b4 z4 d4 x4 y4 p4 q4 Z5 D5 vk zr dr sv1 sv2 sv3 sv4 sv5 usv1 usv2 usv3 usv4 usv5 aep' zt dt vk2 y0 ys)]
noncomputable def nMain : Bool → Nat
  | true => 3124
  | false => 3134
noncomputable def mainEnds (o : Out) := (o.cur, o.code, o.st, o.gens, o.T.get 0)
theorem mainRun (x0 : Int) (u0 : Nat) (xr : List Value) (e0 : E) (er : List E) (t ep t1 dA : Nat) (v1 : Value) (rs1 : List E) (rp1 a1 b1 z1 d1 : Nat) (x1 y1 p1 q1 : Value) (rs2 : List E) (rp2 a2 b2 z2 d2 : Nat) (x2 y2 p2 q2 : Value) (rs3 : List E) (rp3 a3 b3 c3 z3 d3 : Nat) (x3 y3 p3 q3 r3 : Value) (rs4 : List E) (rp4 a4 b4 z4 d4 : Nat) (x4 y4 p4 q4 : Value) (Z5 D5 : Nat) (vk : Nat × Value) (zr dr : Nat) (sv1 sv2 sv3 sv4 sv5 : Int) (usv1 usv2 usv3 usv4 usv5 aep' zt dt : Nat) (vk2 : Nat × Value) (y0 : Int × Nat) (ys : List (Int × Nat)) :
    chk (tR tP (tW b c w) (KK (tW b c w)) [] (nMain c) (oMain c (tW b c w).params x0 u0 xr e0 er t ep t1 dA v1 rs1 rp1 a1 b1 z1 d1 x1 y1 p1 q1 rs2 rp2 a2 b2 z2 d2 x2 y2 p2 q2 rs3 rp3 a3 b3 c3 z3 d3 x3 y3 p3 q3 r3 rs4 rp4 a4 b4 z4 d4 x4 y4 p4 q4 Z5 D5 vk zr dr sv1 sv2 sv3 sv4 sv5 usv1 usv2 usv3 usv4 usv5 aep' zt dt vk2 y0 ys) (mkT [(1103, lsObj (.int x0 u0 :: xr) 0)]) 1 1104 [] t [] (callStub PySem.Challenge.rw_io0001_02.name [.ref 1103]).cur (.builtin "claim.caller" {}) default [] [] []) mainEnds =
    chk' (tR tP (tW b c w) (KK (tW b c w)) [] (nMain c) (oMain c (tW b c w).params x0 u0 xr e0 er t ep t1 dA v1 rs1 rp1 a1 b1 z1 d1 x1 y1 p1 q1 rs2 rp2 a2 b2 z2 d2 x2 y2 p2 q2 rs3 rp3 a3 b3 c3 z3 d3 x3 y3 p3 q3 r3 rs4 rp4 a4 b4 z4 d4 x4 y4 p4 q4 Z5 D5 vk zr dr sv1 sv2 sv3 sv4 sv5 usv1 usv2 usv3 usv4 usv5 aep' zt dt vk2 y0 ys) (mkT [(1103, lsObj (.int x0 u0 :: xr) 0)]) 1 1104 [] t [] (callStub PySem.Challenge.rw_io0001_02.name [.ref 1103]).cur (.builtin "claim.caller" {}) default [] [] [])
      (.pure (.done (.ret (.bool true))), .builtin "claim.caller" {}, [], [], some (1103, lsObj (.int x0 u0 :: xr) 0)) := by
  cases b <;> cases c <;> kernel_rfl
end Mine
namespace Mine
open PySem PySem.W

noncomputable def kvs (es : List E) : List (Int × Int) := es.map fun e => (e.k, e.v)
theorem kvs_keys (es : List E) : es.map (·.k) = (kvs es).map (·.1) := by simp [kvs]
theorem kvs_vals (es : List E) : es.map (·.v) = (kvs es).map (·.2) := by simp [kvs]
theorem esFind_mem {es : List E} {e : E} (nd : (es.map (·.k)).Nodup) (h : e ∈ es) : esFind es e.k = some e := by
  induction es with
  | nil => cases h
  | cons x r ih =>
    rw [List.map_cons, List.nodup_cons] at nd
    unfold esFind
    rcases List.mem_cons.mp h with rfl | h
    · rw [if_pos rfl]
    · have : x.k ≠ e.k := fun z => nd.1 (z ▸ List.mem_map.mpr ⟨e, h, rfl⟩)
      rw [if_neg this]
      exact ih nd.2 h
theorem esFind_some {es : List E} {x : Int} {e : E} (h : esFind es x = some e) : e ∈ es ∧ e.k = x := by
  induction es with
  | nil => cases h
  | cons y r ih =>
    unfold esFind at h
    by_cases q : y.k = x
    · rw [if_pos q] at h; cases h
      exact ⟨List.mem_cons_self, q⟩
    · rw [if_neg q] at h
      exact ⟨List.mem_cons_of_mem _ (ih h).1, (ih h).2⟩
theorem esFind_not {es : List E} {x : Int} (h : esFind es x = none) : x ∉ es.map (·.k) := by
  induction es with
  | nil => exact List.not_mem_nil
  | cons y r ih =>
    unfold esFind at h
    by_cases q : y.k = x
    · rw [if_pos q] at h; cases h
    · rw [if_neg q] at h
      rw [List.map_cons, List.mem_cons, not_or]
      exact ⟨fun z => q z.symm, ih h⟩

/-- a loop that keeps some entries: what comes of it -/
theorem keep_go {σ : Type} (L : Loop σ E) (rs : σ → List E) (o : σ → Bool) (cond : E → Bool) (val : E → Int) (tk : E → Nat → Nat)
    (hs : ∀ e st t, rs (L.step e st t) = (if cond e = true then esSet (rs st) e.k e.t (val e) (tk e t) else rs st) ∧ o (L.step e st t) = true) :
    ∀ (rem : List E) (st : σ) (t : Nat), ((rs st ++ rem).map (·.k)).Nodup →
      kvs (rs (L.go rem st t).1) = kvs (rs st) ++ (rem.filter cond).map (fun e => (e.k, val e)) ∧ (rem ≠ [] ∨ o st = true → o (L.go rem st t).1 = true)
  | [], st, t, _ => by
    refine ⟨by simp [Loop.go], fun h => ?_⟩
    rcases h with h | h
    · exact absurd rfl h
    · exact h
  | e :: rem, st, t, nd => by
    have hg : (L.go (e :: rem) st t).1 = (L.go rem (L.step e st t) (t + L.sdt e st t)).1 := rfl
    rw [hg]
    obtain ⟨h1, h2⟩ := hs e st t
    have hnot : e.k ∉ (rs st).map (·.k) := fun z => by
      rw [List.map_append, List.nodup_append] at nd
      exact nd.2.2 _ z e.k (by simp) rfl
    have nd' : ((rs (L.step e st t) ++ rem).map (·.k)).Nodup := by
      rw [h1]
      by_cases hc : cond e = true
      · rw [if_pos hc, esSet_new (esFind_none hnot)]
        simpa using nd
      · rw [if_neg hc]
        rw [List.map_append] at nd ⊢
        refine List.Nodup.sublist (List.Sublist.append_left ?_ _) nd
        rw [List.map_cons]
        exact List.sublist_cons_self _ _
    obtain ⟨g1, g2⟩ := keep_go L rs o cond val tk hs rem (L.step e st t) (t + L.sdt e st t) nd'
    refine ⟨?_, fun _ => g2 (.inr h2)⟩
    rw [g1, h1]
    by_cases hc : cond e = true
    · rw [if_pos hc, esSet_new (esFind_none hnot), List.filter_cons_of_pos hc]
      simp [kvs]
    · rw [if_neg hc, List.filter_cons_of_neg (by simpa using hc)]
theorem posL_go {P : Params} {i0 i1 i2 i3 it d L r dd rr ep t1 t2 : Nat} {es : List E} (t : Nat) (ne : es ≠ []) (nd : (es.map (·.k)).Nodup) :
    ∃ x y a1 p1 b1 q1 rs rp z dt, (posL P i0 i1 i2 i3 it d L r dd rr ep t1 t2 es).go es ⟨.none, .none, none, [], 0⟩ t = (⟨x, y, some (a1, p1, b1, q1), rs, rp⟩, z, dt) ∧ kvs rs = (es.filter fun e => decide (0 < e.v)).map (fun e => (e.k, e.v)) := by
  obtain ⟨h1, h2⟩ := keep_go (posL P i0 i1 i2 i3 it d L r dd rr ep t1 t2 es) (fun st => st.rs) (fun st => st.o.isSome) (fun e => decide (0 < e.v)) (fun e => e.v) (fun e _ => e.u) (fun e st t => by
    simp only [posL]
    cases h : decide (0 < e.v) <;> cases st.o <;> simp [loc2Set]) es ⟨.none, .none, none, [], 0⟩ t (by simpa using nd)
  have h2 := h2 (.inl ne)
  generalize hg : (posL P i0 i1 i2 i3 it d L r dd rr ep t1 t2 es).go es ⟨.none, .none, none, [], 0⟩ t = g at h1 h2
  obtain ⟨⟨x, y, o, rs, rp⟩, z, dt⟩ := g
  cases o with
  | none => cases h2
  | some q =>
    obtain ⟨a1, p1, b1, q1⟩ := q
    exact ⟨x, y, a1, p1, b1, q1, rs, rp, z, dt, rfl, by simpa [kvs] using h1⟩
theorem negL_go {P : Params} {i0 i1 i2 i3 it d L r dd rr ep t1 t2 : Nat} {es : List E} (t : Nat) (ne : es ≠ []) (nd : (es.map (·.k)).Nodup) :
    ∃ x y a1 p1 b1 q1 rs rp z dt, (negL P i0 i1 i2 i3 it d L r dd rr ep t1 t2 es).go es ⟨.none, .none, none, [], 0⟩ t = (⟨x, y, some (a1, p1, b1, q1), rs, rp⟩, z, dt) ∧ kvs rs = (es.filter fun e => decide (e.v < 0)).map (fun e => (e.k, 0 - e.v)) := by
  obtain ⟨h1, h2⟩ := keep_go (negL P i0 i1 i2 i3 it d L r dd rr ep t1 t2 es) (fun st => st.rs) (fun st => st.o.isSome) (fun e => decide (e.v < 0)) (fun e => 0 - e.v) (fun _ t => t + 4) (fun e st t => by
    simp only [negL]
    cases h : decide (e.v < 0) <;> cases st.o <;> simp [loc2Set]) es ⟨.none, .none, none, [], 0⟩ t (by simpa using nd)
  have h2 := h2 (.inl ne)
  generalize hg : (negL P i0 i1 i2 i3 it d L r dd rr ep t1 t2 es).go es ⟨.none, .none, none, [], 0⟩ t = g at h1 h2
  obtain ⟨⟨x, y, o, rs, rp⟩, z, dt⟩ := g
  cases o with
  | none => cases h2
  | some q =>
    obtain ⟨a1, p1, b1, q1⟩ := q
    exact ⟨x, y, a1, p1, b1, q1, rs, rp, z, dt, rfl, by simpa [kvs] using h1⟩
theorem addL_go {P : Params} {i0 i1 i2 i3 i4 it d L r o' oo dd rr ep oep t1 t2 t3 : Nat} {es os : List E} (t : Nat) (ne : es ≠ []) (nd : (es.map (·.k)).Nodup) :
    ∃ x y a1 p1 b1 q1 c1 r1 rs rp z dt, (addL P i0 i1 i2 i3 i4 it d L r o' oo dd rr ep oep t1 t2 t3 es os).go es ⟨.none, .none, none, [], 0⟩ t = (⟨x, y, some (a1, p1, b1, q1, c1, r1), rs, rp⟩, z, dt) ∧ kvs rs = (es.filter fun e => decide (0 < e.v + 0)).map (fun e => (e.k, e.v + 0)) := by
  obtain ⟨h1, h2⟩ := keep_go (addL P i0 i1 i2 i3 i4 it d L r o' oo dd rr ep oep t1 t2 t3 es os) (fun st => st.rs) (fun st => st.lo.isSome) (fun e => decide (0 < e.v + 0)) (fun e => e.v + 0) (fun _ t => t + 6) (fun e st t => by
    simp only [addL]
    cases h : decide (0 < e.v + 0) <;> cases st.lo <;> simp [loc3Set]) es ⟨.none, .none, none, [], 0⟩ t (by simpa using nd)
  have h2 := h2 (.inl ne)
  generalize hg : (addL P i0 i1 i2 i3 i4 it d L r o' oo dd rr ep oep t1 t2 t3 es os).go es ⟨.none, .none, none, [], 0⟩ t = g at h1 h2
  obtain ⟨⟨x, y, o, rs, rp⟩, z, dt⟩ := g
  cases o with
  | none => cases h2
  | some q =>
    obtain ⟨a1, p1, b1, q1, c1, r1⟩ := q
    exact ⟨x, y, a1, p1, b1, q1, c1, r1, rs, rp, z, dt, rfl, by simpa [kvs] using h1⟩
theorem subL_go {P : Params} {i0 i1 i2 i3 i4 it d L r o' oo dd rr ep oep t1 t2 t3 : Nat} {es os : List E} (t : Nat) (ne : es ≠ []) (nd : (es.map (·.k)).Nodup) :
    ∃ x y a1 p1 b1 q1 rs rp z dt, (subL P i0 i1 i2 i3 i4 it d L r o' oo dd rr ep oep t1 t2 t3 es os).go es ⟨.none, .none, none, [], 0⟩ t = (⟨x, y, some (a1, p1, b1, q1), rs, rp⟩, z, dt) ∧ kvs rs = (es.filter fun e => decide (e.v < 0)).map (fun e => (e.k, 0 - e.v)) := by
  obtain ⟨h1, h2⟩ := keep_go (subL P i0 i1 i2 i3 i4 it d L r o' oo dd rr ep oep t1 t2 t3 es os) (fun st => st.rs) (fun st => st.lo.isSome) (fun e => decide (e.v < 0)) (fun e => 0 - e.v) (fun _ t => t + 5) (fun e st t => by
    simp only [subL]
    cases h : decide (e.v < 0) <;> cases st.lo <;> simp [loc2Set]) es ⟨.none, .none, none, [], 0⟩ t (by simpa using nd)
  have h2 := h2 (.inl ne)
  generalize hg : (subL P i0 i1 i2 i3 i4 it d L r o' oo dd rr ep oep t1 t2 t3 es os).go es ⟨.none, .none, none, [], 0⟩ t = g at h1 h2
  obtain ⟨⟨x, y, o, rs, rp⟩, z, dt⟩ := g
  cases o with
  | none => cases h2
  | some q =>
    obtain ⟨a1, p1, b1, q1⟩ := q
    exact ⟨x, y, a1, p1, b1, q1, rs, rp, z, dt, rfl, by simpa [kvs] using h1⟩
theorem cmpL_go1 {P : Params} {i0 i1 i2 i3 i4 i5 it a L pa da rp ep : Nat} {es rs : List E} : ∀ (rem : List E) (st : cmpSt) (t : Nat),
    ((cmpL P i0 i1 i2 i3 i4 i5 it a L pa da rp ep es rs).go rem st t).1.acc = st.acc ++ (rem.filter fun e => (esFind rs e.k).isSome).map fKi ∧ (rem ≠ [] ∨ st.lo.isSome = true → ((cmpL P i0 i1 i2 i3 i4 i5 it a L pa da rp ep es rs).go rem st t).1.lo.isSome = true)
  | [], st, t => by
    refine ⟨by simp [Loop.go], fun h => ?_⟩
    rcases h with h | h
    · exact absurd rfl h
    · exact h
  | e :: rem, st, t => by
    have hg : ((cmpL P i0 i1 i2 i3 i4 i5 it a L pa da rp ep es rs).go (e :: rem) st t).1 = ((cmpL P i0 i1 i2 i3 i4 i5 it a L pa da rp ep es rs).go rem ((cmpL P i0 i1 i2 i3 i4 i5 it a L pa da rp ep es rs).step e st t) (t + (cmpL P i0 i1 i2 i3 i4 i5 it a L pa da rp ep es rs).sdt e st t)).1 := rfl
    rw [hg]
    obtain ⟨g1, g2⟩ := cmpL_go1 (P := P) (i0 := i0) (i1 := i1) (i2 := i2) (i3 := i3) (i4 := i4) (i5 := i5) (it := it) (a := a) (L := L) (pa := pa) (da := da) (rp := rp) (ep := ep) (es := es) (rs := rs) rem ((cmpL P i0 i1 i2 i3 i4 i5 it a L pa da rp ep es rs).step e st t) (t + (cmpL P i0 i1 i2 i3 i4 i5 it a L pa da rp ep es rs).sdt e st t)
    have hl : ((cmpL P i0 i1 i2 i3 i4 i5 it a L pa da rp ep es rs).step e st t).lo.isSome = true := by
      simp only [cmpL]
      cases (esFind rs e.k).isSome <;> cases st.lo <;> rfl
    have ha : ((cmpL P i0 i1 i2 i3 i4 i5 it a L pa da rp ep es rs).step e st t).acc = st.acc ++ (if (esFind rs e.k).isSome = true then [fKi e] else []) := by
      simp only [cmpL]
      cases (esFind rs e.k).isSome <;> simp [fKi]
    refine ⟨?_, fun _ => g2 (.inr hl)⟩
    rw [g1, ha, List.append_assoc]
    congr 1
    by_cases h : (esFind rs e.k).isSome = true
    · rw [if_pos h, List.filter_cons_of_pos (p := fun e : E => (esFind rs e.k).isSome) h]; rfl
    · rw [if_neg h, List.filter_cons_of_neg (p := fun e : E => (esFind rs e.k).isSome) h]; rfl
theorem cmpL_go {P : Params} {i0 i1 i2 i3 i4 i5 it a L pa da rp ep : Nat} {es rs : List E} (t : Nat) (ne : es ≠ []) :
    ∃ aep vc zc dc, (cmpL P i0 i1 i2 i3 i4 i5 it a L pa da rp ep es rs).go es ⟨[], 0, none⟩ t = (⟨nvs ((es.filter fun e => (esFind rs e.k).isSome).map fun e => (e.k, e.t)), aep, some vc⟩, zc, dc) := by
  obtain ⟨h1, h2⟩ := cmpL_go1 (P := P) (i0 := i0) (i1 := i1) (i2 := i2) (i3 := i3) (i4 := i4) (i5 := i5) (it := it) (a := a) (L := L) (pa := pa) (da := da) (rp := rp) (ep := ep) (es := es) (rs := rs) es ⟨[], 0, none⟩ t
  have h2 := h2 (.inl ne)
  generalize hg : (cmpL P i0 i1 i2 i3 i4 i5 it a L pa da rp ep es rs).go es ⟨[], 0, none⟩ t = g at h1 h2
  obtain ⟨⟨acc, aep, lo⟩, z, dt⟩ := g
  cases lo with
  | none => cases h2
  | some vc =>
    refine ⟨aep, vc, z, dt, ?_⟩
    rw [← nvs_ks]
    simp only [List.nil_append] at h1
    rw [h1]
theorem totL_go1 {P : Params} {i0 i1 i2 i3 i4 it a L ep : Nat} {es : List E} : ∀ (rem : List E) (st : totSt) (t : Nat),
    ((totL P i0 i1 i2 i3 i4 it a L ep es).go rem st t).1.acc = st.acc ++ rem.map fVi ∧ (rem ≠ [] ∨ st.lo.isSome = true → ((totL P i0 i1 i2 i3 i4 it a L ep es).go rem st t).1.lo.isSome = true)
  | [], st, t => by
    refine ⟨by simp [Loop.go], fun h => ?_⟩
    rcases h with h | h
    · exact absurd rfl h
    · exact h
  | e :: rem, st, t => by
    have hg : ((totL P i0 i1 i2 i3 i4 it a L ep es).go (e :: rem) st t).1 = ((totL P i0 i1 i2 i3 i4 it a L ep es).go rem ((totL P i0 i1 i2 i3 i4 it a L ep es).step e st t) (t + (totL P i0 i1 i2 i3 i4 it a L ep es).sdt e st t)).1 := rfl
    rw [hg]
    obtain ⟨g1, g2⟩ := totL_go1 (P := P) (i0 := i0) (i1 := i1) (i2 := i2) (i3 := i3) (i4 := i4) (it := it) (a := a) (L := L) (ep := ep) (es := es) rem ((totL P i0 i1 i2 i3 i4 it a L ep es).step e st t) (t + (totL P i0 i1 i2 i3 i4 it a L ep es).sdt e st t)
    refine ⟨?_, fun _ => g2 (.inr ?_)⟩
    · rw [g1]
      simp [totL, fVi]
    · simp only [totL]
      cases st.lo <;> rfl
theorem nvs_vs (es : List E) : es.map fVi = nvs (vs es) := by
  unfold nvs vs
  rw [List.map_map]
  rfl
theorem totL_go {P : Params} {i0 i1 i2 i3 i4 it a L ep : Nat} {es : List E} (t : Nat) (ne : es ≠ []) :
    ∃ aep vc zc dc, (totL P i0 i1 i2 i3 i4 it a L ep es).go es ⟨[], 0, none⟩ t = (⟨nvs (vs es), aep, some vc⟩, zc, dc) := by
  obtain ⟨h1, h2⟩ := totL_go1 (P := P) (i0 := i0) (i1 := i1) (i2 := i2) (i3 := i3) (i4 := i4) (it := it) (a := a) (L := L) (ep := ep) (es := es) es ⟨[], 0, none⟩ t
  have h2 := h2 (.inl ne)
  generalize hg : (totL P i0 i1 i2 i3 i4 it a L ep es).go es ⟨[], 0, none⟩ t = g at h1 h2
  obtain ⟨⟨acc, aep, lo⟩, z, dt⟩ := g
  cases lo with
  | none => cases h2
  | some vc =>
    refine ⟨aep, vc, z, dt, ?_⟩
    rw [← nvs_vs]
    simp only [List.nil_append] at h1
    rw [h1]
theorem rgL_go1 {P : Params} {i0 i1 i2 i3 i4 i5 it A B da db rpa rpb ep tt : Nat} {tv : Value} {f : FrL} {es ra rb : List E} {x0 : E} : ∀ (rem : List Nat) (st : rgSt) (t : Nat), st.lo.isSome = true →
    ((rgL P i0 i1 i2 i3 i4 i5 it A B da db rpa rpb ep tt tv f es ra rb x0).go rem st t).1.lo.isSome = true
  | [], st, t, h => h
  | q :: rem, st, t, h => by
    refine rgL_go1 rem ((rgL P i0 i1 i2 i3 i4 i5 it A B da db rpa rpb ep tt tv f es ra rb x0).step q st t) (t + (rgL P i0 i1 i2 i3 i4 i5 it A B da db rpa rpb ep tt tv f es ra rb x0).sdt q st t) ?_
    obtain ⟨lo⟩ := st
    simp only [rgL]
    cases lo with
    | none => cases h
    | some z => split <;> rfl
theorem rgL_go {P : Params} {i0 i1 i2 i3 i4 i5 it A B da db rpa rpb ep tt : Nat} {tv : Value} {f : FrL} {es ra rb : List E} {x0 : E} (t : Nat) (hab : esFind ra (Int.ofNat 0) = none ∨ esFind rb (Int.ofNat 0) = none) :
    ∃ vk z dt, (rgL P i0 i1 i2 i3 i4 i5 it A B da db rpa rpb ep tt tv f es ra rb x0).go [0, 1, 2, 3, 4] ⟨none⟩ t = (⟨some vk⟩, z, dt) := by
  have h : ((rgL P i0 i1 i2 i3 i4 i5 it A B da db rpa rpb ep tt tv f es ra rb x0).go [0, 1, 2, 3, 4] ⟨none⟩ t).1.lo.isSome = true := by
    refine rgL_go1 [1, 2, 3, 4] _ _ ?_
    simp only [rgL]
    cases h0 : esFind ra (Int.ofNat 0) with
    | none => cases h1 : esFind rb (Int.ofNat 0) <;> rfl
    | some z => cases h1 : esFind rb (Int.ofNat 0) with
      | none => rfl
      | some y =>
        rcases hab with q | q
        · rw [h0] at q; cases q
        · rw [h1] at q; cases q
  generalize hg : (rgL P i0 i1 i2 i3 i4 i5 it A B da db rpa rpb ep tt tv f es ra rb x0).go [0, 1, 2, 3, 4] ⟨none⟩ t = g at h
  obtain ⟨⟨lo⟩, z, dt⟩ := g
  cases lo with
  | none => cases h
  | some vk => exact ⟨vk, z, dt, rfl⟩
end Mine
namespace Mine
open PySem PySem.W

theorem find_kvs (es : List E) (x : Int) : (esFind es x).map (·.v) = ((kvs es).find? fun q => q.1 == x).map (·.2) := by
  induction es with
  | nil => rfl
  | cons e r ih =>
    unfold esFind
    show _ = (List.find? _ ((e.k, e.v) :: kvs r)).map _
    by_cases h : e.k = x
    · rw [if_pos h, List.find?_cons_of_pos (by simpa using h)]; rfl
    · rw [if_neg h, List.find?_cons_of_neg (by simpa using h)]; exact ih
theorem find_filter (c : E → Bool) (g : E → Int) (x : Int) : ∀ es : List E, (es.map (·.k)).Nodup → (((es.filter c).map fun e => (e.k, g e)).find? fun q => q.1 == x).map (·.2) = (esFind es x).bind fun e => if c e = true then some (g e) else none
  | [], _ => rfl
  | e :: r, nd => by
    rw [List.map_cons, List.nodup_cons] at nd
    unfold esFind
    by_cases h : e.k = x
    · rw [if_pos h]
      by_cases hc : c e = true
      · rw [List.filter_cons_of_pos hc, List.map_cons, List.find?_cons_of_pos (by simpa using h)]
        simp [hc]
      · rw [List.filter_cons_of_neg hc]
        have : (((r.filter c).map fun e => (e.k, g e)).find? fun q => q.1 == x) = none := by
          rw [List.find?_eq_none]
          rintro q hq
          obtain ⟨y, hy, rfl⟩ := List.mem_map.mp hq
          have hy := (List.mem_filter.mp hy).1
          intro z
          have z : y.k = x := by simpa using z
          exact nd.1 (h ▸ z ▸ List.mem_map.mpr ⟨y, hy, rfl⟩)
        rw [this]
        simp [hc]
    · rw [if_neg h]
      by_cases hc : c e = true
      · rw [List.filter_cons_of_pos hc, List.map_cons, List.find?_cons_of_neg (by simpa using h)]
        exact find_filter c g x r nd.2
      · rw [List.filter_cons_of_neg hc]
        exact find_filter c g x r nd.2
theorem gv_filter {c : E → Bool} {g : E → Int} {es rs : List E} (nd : (es.map (·.k)).Nodup) (h : kvs rs = (es.filter c).map fun e => (e.k, g e)) (x : Int) :
    (esFind rs x).map (·.v) = (esFind es x).bind fun e => if c e = true then some (g e) else none := by
  rw [find_kvs, h, find_filter c g x es nd]
theorem keys_filter {c : E → Bool} {g : E → Int} {es rs : List E} (nd : (es.map (·.k)).Nodup) (h : kvs rs = (es.filter c).map fun e => (e.k, g e)) :
    rs.map (·.k) = (es.filter fun e => (esFind rs e.k).isSome).map (·.k) := by
  have hk : rs.map (·.k) = (es.filter c).map (·.k) := by
    rw [kvs_keys, h, List.map_map]
    rfl
  rw [hk]
  congr 1
  refine List.filter_congr fun e he => ?_
  have h1 := gv_filter nd h e.k
  rw [esFind_mem nd he] at h1
  simp only [Option.bind_some] at h1
  cases hc : c e with
  | true =>
    rw [hc] at h1
    simp only [if_true] at h1
    cases hf : esFind rs e.k with
    | none => rw [hf] at h1; cases h1
    | some _ => rfl
  | false =>
    rw [hc] at h1
    simp only [Bool.false_eq_true, if_false] at h1
    cases hf : esFind rs e.k with
    | none => rfl
    | some _ => rw [hf] at h1; cases h1
theorem sumV_eq : ∀ (l : List (Int × Nat)) (a : Int), sumV l a = a + (l.map (·.1)).sum
  | [], a => by simp [sumV]
  | x :: r, a => by
    unfold sumV
    rw [sumV_eq r]
    simp [Int.add_assoc]
theorem vs_fst (es : List E) : (vs es).map (·.1) = (kvs es).map (·.2) := by simp [vs, kvs]
theorem sum_split (es : List E) : ((es.filter fun e => decide (0 < e.v)).map fun e => e.v).sum - ((es.filter fun e => decide (e.v < 0)).map fun e => 0 - e.v).sum = (es.map fun e => e.v).sum := by
  induction es with
  | nil => rfl
  | cons e r ih =>
    by_cases h1 : 0 < e.v
    · have h2 : ¬ e.v < 0 := by omega
      rw [List.filter_cons_of_pos (by simpa using h1), List.filter_cons_of_neg (by simpa using h2)]
      simp only [List.map_cons, List.sum_cons]
      omega
    · by_cases h2 : e.v < 0
      · rw [List.filter_cons_of_neg (by simpa using h1), List.filter_cons_of_pos (by simpa using h2)]
        simp only [List.map_cons, List.sum_cons]
        omega
      · rw [List.filter_cons_of_neg (by simpa using h1), List.filter_cons_of_neg (by simpa using h2)]
        simp only [List.map_cons, List.sum_cons]
        have : e.v = 0 := by omega
        omega
theorem minV_ge : ∀ (l : List (Int × Nat)) (b : Int × Nat) (m : Int), (∀ x ∈ l, m ≤ x.1) → m ≤ b.1 → m ≤ (minV l b).1
  | [], b, m, _, h => h
  | x :: r, b, m, h1, h => by
    unfold minV
    cases decide (x.1 < b.1) with
    | true => exact minV_ge r x m (fun y hy => h1 y (List.mem_cons_of_mem _ hy)) (h1 x List.mem_cons_self)
    | false => exact minV_ge r b m (fun y hy => h1 y (List.mem_cons_of_mem _ hy)) h

/-- what the law's Counters hold: the positive part, the negative part -/
structure Parts (es rs1 rs2 rs3 rs4 : List E) : Prop where
  nd : (es.map (·.k)).Nodup
  p1 : kvs rs1 = (es.filter fun e => decide (0 < e.v)).map fun e => (e.k, e.v)
  p2 : kvs rs2 = (es.filter fun e => decide (e.v < 0)).map fun e => (e.k, 0 - e.v)
  p3 : kvs rs3 = (es.filter fun e => decide (0 < e.v + 0)).map fun e => (e.k, e.v + 0)
  p4 : kvs rs4 = (es.filter fun e => decide (e.v < 0)).map fun e => (e.k, 0 - e.v)
namespace Parts
variable {es rs1 rs2 rs3 rs4 : List E} (H : Parts es rs1 rs2 rs3 rs4)
include H
theorem same1 : rs1.map (fun e => (e.k, e.v)) = rs3.map (fun e => (e.k, e.v)) := by
  show kvs rs1 = kvs rs3
  rw [H.p1, H.p3]
  simp
theorem same2 : rs2.map (fun e => (e.k, e.v)) = rs4.map (fun e => (e.k, e.v)) := by
  show kvs rs2 = kvs rs4
  rw [H.p2, H.p4]
theorem apart (x : Int) : esFind rs1 x = none ∨ esFind rs2 x = none := by
  have h1 := gv_filter H.nd H.p1 x
  have h2 := gv_filter H.nd H.p2 x
  cases he : esFind es x with
  | none =>
    rw [he] at h1
    left
    cases hf : esFind rs1 x with
    | none => rfl
    | some _ => rw [hf] at h1; cases h1
  | some e =>
    rw [he] at h1 h2
    simp only [Option.bind_some] at h1 h2
    by_cases hp : 0 < e.v
    · right
      rw [if_neg (by simp; omega)] at h2
      cases hf : esFind rs2 x with
      | none => rfl
      | some _ => rw [hf] at h2; cases h2
    · left
      rw [if_neg (by simpa using hp)] at h1
      cases hf : esFind rs1 x with
      | none => rfl
      | some _ => rw [hf] at h1; cases h1
theorem gap (x : Int) : gv rs1 x - gv rs2 x = gv es x := by
  rw [gv_of, gv_of, gv_of, gv_filter H.nd H.p1 x, gv_filter H.nd H.p2 x]
  cases he : esFind es x with
  | none => rfl
  | some e =>
    simp only [Option.bind_some, Option.map_some, Option.getD_some]
    by_cases hp : 0 < e.v
    · rw [if_pos (by simpa using hp), if_neg (by simp; omega)]
      simp
    · by_cases hn : e.v < 0
      · rw [if_neg (by simpa using hp), if_pos (by simpa using hn)]
        simp
      · rw [if_neg (by simpa using hp), if_neg (by simpa using hn)]
        simp
        omega
theorem total : sumV (vs rs1) 0 - sumV (vs rs2) 0 = sumV (vs es) 0 := by
  rw [sumV_eq, sumV_eq, sumV_eq, vs_fst, vs_fst, vs_fst, H.p1, H.p2, List.map_map, List.map_map, Int.zero_add, Int.zero_add, Int.zero_add]
  have := sum_split es
  rw [show (kvs es).map (·.2) = es.map fun e => e.v by simp [kvs]]
  exact this
theorem pos1 : ∀ x ∈ vs rs1, 1 ≤ x.1 := fun x hx => by
  have : x.1 ∈ (vs rs1).map (·.1) := List.mem_map.mpr ⟨x, hx, rfl⟩
  rw [vs_fst, H.p1, List.map_map] at this
  obtain ⟨e, he, q⟩ := List.mem_map.mp this
  have := (List.mem_filter.mp he).2
  simp only [decide_eq_true_eq] at this
  rw [← q]
  show 1 ≤ e.v
  omega
theorem pos2 : ∀ x ∈ vs rs2, 1 ≤ x.1 := fun x hx => by
  have : x.1 ∈ (vs rs2).map (·.1) := List.mem_map.mpr ⟨x, hx, rfl⟩
  rw [vs_fst, H.p2, List.map_map] at this
  obtain ⟨e, he, q⟩ := List.mem_map.mp this
  have := (List.mem_filter.mp he).2
  simp only [decide_eq_true_eq] at this
  rw [← q]
  show 1 ≤ 0 - e.v
  omega
theorem len1 : rs1.length ≤ es.length := by
  have := congrArg List.length H.p1
  simp only [kvs, List.length_map] at this
  rw [this]
  exact List.length_filter_le ..
theorem len2 : rs2.length ≤ es.length := by
  have := congrArg List.length H.p2
  simp only [kvs, List.length_map] at this
  rw [this]
  exact List.length_filter_le ..
theorem len3 : rs3.length ≤ es.length := by
  have := congrArg List.length H.p3
  simp only [kvs, List.length_map] at this
  rw [this]
  exact List.length_filter_le ..
theorem len4 : rs4.length ≤ es.length := by
  have := congrArg List.length H.p4
  simp only [kvs, List.length_map] at this
  rw [this]
  exact List.length_filter_le ..
end Parts
/-- the list whose least is asked -/
theorem min_list {rs : List E} (t : Nat) (h : ∀ x ∈ vs rs, 1 ≤ x.1) : ∃ y0 ys, nvs (y0 :: ys) = rs.map fVi ++ [.int 1 t] ∧ decide ((minV ys y0).1 < 1) = false := by
  have hall : ∀ l : List (Int × Nat), (∀ x ∈ l, 1 ≤ x.1) → ∃ y0 ys, y0 :: ys = l ++ [((1 : Int), t)] ∧ (∀ x ∈ y0 :: ys, 1 ≤ x.1) := by
    intro l hl
    cases l with
    | nil => exact ⟨(1, t), [], rfl, by simp⟩
    | cons x r =>
      refine ⟨x, r ++ [(1, t)], rfl, fun y hy => ?_⟩
      rw [← List.cons_append, List.mem_append] at hy
      rcases hy with hy | hy
      · exact hl y hy
      · rw [List.mem_singleton.mp hy]
        exact Int.le_refl _
  obtain ⟨y0, ys, e, ha⟩ := hall (vs rs) h
  refine ⟨y0, ys, ?_, ?_⟩
  · rw [e, nvs_vs]
    simp [nvs]
  · refine decide_eq_false fun z => ?_
    have := minV_ge ys y0 1 (fun x hx => ha x (List.mem_cons_of_mem _ hx)) (ha y0 List.mem_cons_self)
    omega
end Mine
namespace Mine
open PySem PySem.W
theorem esSet_keys_some {x : Int} {t : Nat} {y : Int} {u : Nat} : ∀ {es : List E} {e : E}, esFind es x = some e → (esSet es x t y u).map (·.k) = es.map (·.k)
  | [], _, h => by cases h
  | e :: r, f, h => by
    unfold esFind at h
    unfold esSet
    by_cases q : e.k = x
    · rw [if_pos q]
      simp [q]
    · rw [if_neg q] at h ⊢
      rw [List.map_cons, List.map_cons, esSet_keys_some h]
theorem good_set (es : List E) (x : Int) (t : Nat) (y : Int) (u : Nat) (h : Good 5 es) (h0 : 0 ≤ x) (h5 : x < 5) : Good 5 (esSet es x t y u) := by
  obtain ⟨nd, hk⟩ := h
  have hmem : ∀ k ∈ es.map (·.k), 0 ≤ k ∧ k < 5 := fun k hk' => by
    obtain ⟨e, he, rfl⟩ := List.mem_map.mp hk'
    exact hk e he
  cases hf : esFind es x with
  | none =>
    rw [esSet_new hf]
    refine ⟨?_, fun e he => ?_⟩
    · rw [List.map_append, List.nodup_append]
      refine ⟨nd, by simp, fun a ha b hb => ?_⟩
      rw [List.map_cons, List.map_nil, List.mem_singleton] at hb
      rw [hb]
      intro z
      subst z
      exact esFind_not hf ha
    · rcases List.mem_append.mp he with he | he
      · exact hk e he
      · rw [List.mem_singleton.mp he]
        exact ⟨h0, h5⟩
  | some f =>
    have e := esSet_keys_some (t := t) (y := y) (u := u) hf
    refine ⟨by rw [e]; exact nd, fun q hq => ?_⟩
    have : q.k ∈ (esSet es x t y u).map (·.k) := List.mem_map.mpr ⟨q, hq, rfl⟩
    rw [e] at this
    exact hmem _ this
theorem pigeon : ∀ (n : Nat) (l : List Int), l.Nodup → (∀ k ∈ l, 0 ≤ k ∧ k < (n : Int)) → l.length ≤ n
  | 0, l, _, h => by
    cases l with
    | nil => exact Nat.le_refl _
    | cons k r =>
      have := h k List.mem_cons_self
      omega
  | n + 1, l, nd, h => by
    have h1 := pigeon n (l.erase (n : Int)) (nd.erase _) fun k hk => by
      obtain ⟨hne, hm⟩ := (nd.mem_erase_iff).mp hk
      have := h k hm
      omega
    have h2 : l.length - 1 ≤ (l.erase (n : Int)).length := by
      rw [List.length_erase]
      split <;> omega
    omega
theorem good_len {es : List E} (h : Good 5 es) : es.length ≤ 5 := by
  obtain ⟨nd, hk⟩ := h
  have h1 := pigeon 5 (es.map (·.k)) nd fun k hk' => by
    obtain ⟨e, he, rfl⟩ := List.mem_map.mp hk'
    exact hk e he
  simpa using h1
theorem good_line (es : List E) (h : Good 5 es) : es.length ≤ sizeLine := Nat.le_trans (good_len h) (by size_fits)
theorem good_nil : Good 5 [] := ⟨List.nodup_nil, fun e he => nomatch he⟩
theorem goA_good : ∀ (rem : List (Int × Nat)) (es : List E) (ep t : Nat) (o : Loc), Good 5 es → Good 5 (goA rem es ep t o).1
  | [], _, _, _, _, h => h
  | (x, u) :: r, es, ep, t, o, h => by
    unfold goA
    have h5 : (5 : Int) ≠ 0 := by decide
    exact goA_good r _ _ _ _ (good_set _ _ _ _ _ h (Int.fmod_nonneg_of_pos _ (by decide)) (Int.fmod_lt_of_pos _ (by decide)))
theorem esSet_ne (es : List E) (x : Int) (t : Nat) (y : Int) (u : Nat) : esSet es x t y u ≠ [] := by
  cases es with
  | nil => unfold esSet; exact List.cons_ne_nil _ _
  | cons e r => unfold esSet; split <;> exact List.cons_ne_nil _ _
theorem goA_ne : ∀ (rem : List (Int × Nat)) (es : List E) (ep t : Nat) (o : Loc), (rem ≠ [] ∨ (es ≠ [] ∧ o.isSome = true)) → (goA rem es ep t o).1 ≠ [] ∧ (goA rem es ep t o).2.2.isSome = true
  | [], _, _, _, _, h => by
    rcases h with h | h
    · exact absurd rfl h
    · exact h
  | (x, u) :: r, es, ep, t, o, _ => by
    unfold goA
    refine goA_ne r _ _ _ _ (.inr ⟨esSet_ne _ _ _ _ _, ?_⟩)
    cases o <;> rfl
theorem goA_out (x : Int) (u : Nat) (rem : List (Int × Nat)) (t : Nat) : ∃ e0 er ep t1 v1, goA ((x, u) :: rem) [] 0 t none = (e0 :: er, ep, some (t1, v1)) ∧ Good 5 (e0 :: er) := by
  have h1 := goA_good ((x, u) :: rem) [] 0 t none good_nil
  have h2 := goA_ne ((x, u) :: rem) [] 0 t none (.inl (List.cons_ne_nil _ _))
  generalize goA ((x, u) :: rem) [] 0 t none = g at h1 h2
  obtain ⟨es, ep, o⟩ := g
  cases es with
  | nil => exact absurd rfl h2.1
  | cons e0 er =>
    cases o with
    | none => cases h2.2
    | some q => exact ⟨e0, er, ep, q.1, q.2, rfl, h1⟩
end Mine
namespace Mine
open PySem PySem.W PySem.Calls PyProof.Rows PySem.Spec
variable {b c : Bool} {w : World}
noncomputable def OkS (b c : Bool) (w : World) (S : Code → Nat → Nat → Summ) : Prop := ∀ cc sz tok, (∀ a, (S cc sz tok).atS = some a → sz = a) → (∀ a, (S cc sz tok).atT = some a → tok = a) → (S cc sz tok).Valid (mdl tP (tW b c w)) (KK (tW b c w)) sz tok ∧ ((S cc sz tok).new.map (·.1)).Nodup
theorem OkS.of {S : Summ} {a t : Nat} (h : S.Valid (mdl tP (tW b c w)) (KK (tW b c w)) a t) (n : (S.new.map (·.1)).Nodup) : OkS b c w (fun _ _ _ => S.at a t) :=
  fun _ sz tok h1 h2 => ⟨Summ.at_ok h sz tok h1 h2, n⟩
theorem sPT_ok' {i0 i1 i2 i3 i4 i5 i6 i7 i8 i9 i10 i11 i12 i13 i14 i15 it Lst tu0 tu1 pa0 tw0 pa1 tw1 da0 dw0 da1 dw1 rpa rpa' rpb rpb' ep t0 Z D : Nat} {f : FrL} {es ra ra' rb rb' : List E} {aepa zca dca aepb zcb dcb s0 s1 : Nat} {y0 y1 : Int × Nat} {vca vcb : Nat × Value} {ys0 ys1 acca accb : List (Int × Nat)} {PA0 TW0 PA1 TW1 SZ : Nat}
    (x1 : PA0 = pa0 + 1103) (x2 : TW0 = tw0 + 1103) (x3 : PA1 = pa1 + 1103) (x4 : TW1 = tw1 + 1103) (x5 : SZ = s0 + 1109)
    (q0 : 1107 < da0)    (q1 : da0 < pa0 + 1103)    (q2 : pa0 + 1103 < da1)    (q3 : da1 < pa1 + 1103)    (q4 : pa1 + 1103 < dw0)    (q5 : dw0 < tw0 + 1103)    (q6 : tw0 + 1103 < tu0)    (q7 : tu0 < dw1)    (q8 : dw1 < tw1 + 1103)    (q9 : tw1 + 1103 < tu1)    (q10 : tu1 < Lst)    (q11 : Lst < it)    (q12 : it < s0 + 1109)
    (H0 : PTok (tW b c w).params it Lst tu0 pa0 tw0 0 da0 dw0 rpa rpa' ep aepa zca dca [.ref tu0, .ref tu1] es ra ra' y0 vca ys0 acca s0 t0)
    (H1 : PTok (tW b c w).params it Lst tu1 pa1 tw1 1 da1 dw1 rpb rpb' ep aepb zcb dcb [.ref tu0, .ref tu1] es rb rb' y1 vcb ys1 accb s1 (t0 + 5 + dca))
    (hs1 : zca + ((ra'.length + (ra.length + (s0 + 1115) + 5)) + 20) + 2 = s1 + 1109) (hZ : Z + (s0 + 1109) = zcb + ((rb'.length + (rb.length + (s1 + 1115) + 5)) + 20) + 4) (hD : D = 5 + dca + (5 + dcb)) :
    (sPT (tW b c w).params i0 i1 i2 i3 i4 i5 i6 i7 i8 i9 i10 i11 i12 i13 i14 i15 it Lst tu0 tu1 PA0 TW0 PA1 TW1 da0 dw0 da1 dw1 rpa rpa' rpb rpb' ep t0 Z D f es ra ra' rb rb').Valid (mdl tP (tW b c w)) (KK (tW b c w)) SZ t0 := by
  subst x1 x2 x3 x4 x5
  exact sPT_ok q0 q1 q2 q3 q4 q5 q6 q7 q8 q9 q10 q11 q12 H0 H1 hs1 hZ hD
variable {x0 : Int} {u0 : Nat} {xr : List Value} {e0 : E} {er : List E} {t ep t1 dA : Nat} {v1 : Value} {rs1 : List E} {rp1 a1 b1 z1 d1 : Nat} {x1 y1 p1 q1 : Value} {rs2 : List E} {rp2 a2 b2 z2 d2 : Nat} {x2 y2 p2 q2 : Value} {rs3 : List E} {rp3 a3 b3 c3 z3 d3 : Nat} {x3 y3 p3 q3 r3 : Value} {rs4 : List E} {rp4 a4 b4 z4 d4 : Nat} {x4 y4 p4 q4 : Value} {Z5 D5 : Nat} {vk : Nat × Value} {zr dr : Nat} {sv1 sv2 sv3 sv4 sv5 : Int} {usv1 usv2 usv3 usv4 usv5 aep' zt dt : Nat} {vk2 : Nat × Value} {y0 : Int × Nat} {ys : List (Int × Nat)}
theorem vU0 (rem : List (Int × Nat)) (hx : xr = rem.map iv) (hg : goA ((x0, u0) :: rem) [] 0 (t + 1) none = (e0 :: er, ep, some (t1, v1))) (hd : dA = 6 * (rem.length + 1)) : OkS b c w (mU0 (tW b c w).params x0 u0 xr e0 er t ep t1 dA v1 rs1 rp1 a1 b1 z1 d1 x1 y1 p1 q1 rs2 rp2 a2 b2 z2 d2 x2 y2 p2 q2 rs3 rp3 a3 b3 c3 z3 d3 x3 y3 p3 q3 r3 rs4 rp4 a4 b4 z4 d4 x4 y4 p4 q4 Z5 D5 vk zr dr sv1 sv2 sv3 sv4 sv5 usv1 usv2 usv3 usv4 usv5 aep' zt dt vk2 y0 ys) := by
  subst hd
  refine OkS.of (S := { sA (tW b c w).params t (.int x0 u0 :: xr) 0 none [] 0 (e0 :: er) ep (some (t1, v1)) 0 with dtok := 6 * (rem.length + 1) }) ?_ List.nodup_nil
  have := sA_ok (b := b) (c := c) (w := w) t (.int x0 u0 :: xr) ((x0, u0) :: rem) 0 none [] 0 (t + 1) (by rw [hx]; rfl) (by rw [hx]; simp) good_set good_line good_nil
  rw [hg] at this
  exact this
theorem vU1 (hG : Good 5 (e0 :: er)) : OkS b c w (mU1 (tW b c w).params x0 u0 xr e0 er t ep t1 dA v1 rs1 rp1 a1 b1 z1 d1 x1 y1 p1 q1 rs2 rp2 a2 b2 z2 d2 x2 y2 p2 q2 rs3 rp3 a3 b3 c3 z3 d3 x3 y3 p3 q3 r3 rs4 rp4 a4 b4 z4 d4 x4 y4 p4 q4 Z5 D5 vk zr dr sv1 sv2 sv3 sv4 sv5 usv1 usv2 usv3 usv4 usv5 aep' zt dt vk2 y0 ys) := by
  intro cc sz tok _ _
  exact ⟨sUpd_ok (by decide) (Nat.le_trans (good_len hG) (by decide)) hG.1 (by decide) (by decide) sz tok, List.nodup_nil⟩
theorem vU2 (hG : Good 5 (e0 :: er)) (hg : (posL (tW b c w).params 32 7 20 22 1137 1112 1125 1127 1111 1126 (e0 :: er).length ((t + 1 + dA) + 21) ((t + 1 + dA) + 32) (e0 :: er)).go (e0 :: er) ⟨.none, .none, none, [], 0⟩ (t + 1 + dA + 33) = (⟨x1, y1, some (a1, p1, b1, q1), rs1, rp1⟩, z1, d1)) : OkS b c w (mU2 (tW b c w).params x0 u0 xr e0 er t ep t1 dA v1 rs1 rp1 a1 b1 z1 d1 x1 y1 p1 q1 rs2 rp2 a2 b2 z2 d2 x2 y2 p2 q2 rs3 rp3 a3 b3 c3 z3 d3 x3 y3 p3 q3 r3 rs4 rp4 a4 b4 z4 d4 x4 y4 p4 q4 Z5 D5 vk zr dr sv1 sv2 sv3 sv4 sv5 usv1 usv2 usv3 usv4 usv5 aep' zt dt vk2 y0 ys) := by
  refine OkS.of (Loop.T_ok (rem := e0 :: er) (posL_ok (Nat.le_trans (good_len hG) (by decide)) (by
    simp only [List.nodup_cons, List.mem_cons, List.not_mem_nil, or_false, not_or, not_false_eq_true, List.nodup_nil, and_true]
    refine ⟨⟨?_, ?_, ?_⟩, ⟨?_, ?_⟩, ?_⟩ <;> omega) (fun a ha => by
    simp only [List.mem_cons, List.not_mem_nil, or_false] at ha
    rcases ha with rfl | rfl | rfl | rfl <;> omega) ⟨.none, .none, none, [], 0⟩ (Nat.le_refl _) _ _) (by simp) hg) List.nodup_nil
theorem vU3 (hG : Good 5 (e0 :: er)) (hg : (negL (tW b c w).params 45 7 33 35 (z1 + 1152) 1112 (z1 + 1140) (z1 + 1142) 1111 (z1 + 1141) (e0 :: er).length ((t + 1 + dA + 33) + d1) ((t + 1 + dA + 33) + d1 + 11) (e0 :: er)).go (e0 :: er) ⟨.none, .none, none, [], 0⟩ (t + 1 + dA + 33 + d1 + 12) = (⟨x2, y2, some (a2, p2, b2, q2), rs2, rp2⟩, z2, d2)) : OkS b c w (mU3 (tW b c w).params x0 u0 xr e0 er t ep t1 dA v1 rs1 rp1 a1 b1 z1 d1 x1 y1 p1 q1 rs2 rp2 a2 b2 z2 d2 x2 y2 p2 q2 rs3 rp3 a3 b3 c3 z3 d3 x3 y3 p3 q3 r3 rs4 rp4 a4 b4 z4 d4 x4 y4 p4 q4 Z5 D5 vk zr dr sv1 sv2 sv3 sv4 sv5 usv1 usv2 usv3 usv4 usv5 aep' zt dt vk2 y0 ys) := by
  refine OkS.of (Loop.T_ok (rem := e0 :: er) (negL_ok (Nat.le_trans (good_len hG) (by decide)) (by
    simp only [List.nodup_cons, List.mem_cons, List.not_mem_nil, or_false, not_or, not_false_eq_true, List.nodup_nil, and_true]
    refine ⟨⟨?_, ?_, ?_⟩, ⟨?_, ?_⟩, ?_⟩ <;> omega) (fun a ha => by
    simp only [List.mem_cons, List.not_mem_nil, or_false] at ha
    rcases ha with rfl | rfl | rfl | rfl <;> omega) ⟨.none, .none, none, [], 0⟩ (Nat.le_refl _) _ _) (by simp) hg) List.nodup_nil
theorem vU4 (hG : Good 5 (e0 :: er)) (hg : (addL (tW b c w).params 72 7 60 62 51 (z2 + (z1 + 1153) + 28) 1112 (z2 + (z1 + 1153) + 16) (z2 + (z1 + 1153) + 18) (z2 + (z1 + 1153) + 7) (z2 + (z1 + 1153) + 6) 1111 (z2 + (z1 + 1153) + 17) (e0 :: er).length 0 ((t + 1 + dA + 33 + d1 + 12) + d2 + 12) ((t + 1 + dA + 33 + d1 + 12) + d2 + 13) ((t + 1 + dA + 33 + d1 + 12) + d2 + 24) (e0 :: er) []).go (e0 :: er) ⟨.none, .none, none, [], 0⟩ (t + 1 + dA + 33 + d1 + 12 + d2 + 25) = (⟨x3, y3, some (a3, p3, b3, q3, c3, r3), rs3, rp3⟩, z3, d3)) : OkS b c w (mU4 (tW b c w).params x0 u0 xr e0 er t ep t1 dA v1 rs1 rp1 a1 b1 z1 d1 x1 y1 p1 q1 rs2 rp2 a2 b2 z2 d2 x2 y2 p2 q2 rs3 rp3 a3 b3 c3 z3 d3 x3 y3 p3 q3 r3 rs4 rp4 a4 b4 z4 d4 x4 y4 p4 q4 Z5 D5 vk zr dr sv1 sv2 sv3 sv4 sv5 usv1 usv2 usv3 usv4 usv5 aep' zt dt vk2 y0 ys) := by
  refine OkS.of (Loop.T_ok (rem := e0 :: er) (addL_ok (fun _ _ => rfl) (Nat.le_trans (good_len hG) (by decide)) (by
    simp only [List.nodup_cons, List.mem_cons, List.not_mem_nil, or_false, not_or, not_false_eq_true, List.nodup_nil, and_true]
    refine ⟨⟨?_, ?_, ?_, ?_⟩, ⟨?_, ?_, ?_⟩, ⟨?_, ?_⟩, ?_⟩ <;> omega) (fun a ha => by
    simp only [List.mem_cons, List.not_mem_nil, or_false] at ha
    rcases ha with rfl | rfl | rfl | rfl | rfl <;> omega) ⟨.none, .none, none, [], 0⟩ (Nat.le_refl _) _ _ (by omega)) (by simp) hg) List.nodup_nil
theorem vU5 (hG : Good 5 (e0 :: er)) (hg : (subL (tW b c w).params 104 7 88 90 79 (z3 + (z2 + (z1 + 1153) + 29) + 33) 1112 (z3 + (z2 + (z1 + 1153) + 29) + 17) (z3 + (z2 + (z1 + 1153) + 29) + 19) (z3 + (z2 + (z1 + 1153) + 29) + 8) (z3 + (z2 + (z1 + 1153) + 29) + 7) 1111 (z3 + (z2 + (z1 + 1153) + 29) + 18) (e0 :: er).length 0 ((t + 1 + dA + 33 + d1 + 12 + d2 + 25) + d3 + 10) ((t + 1 + dA + 33 + d1 + 12 + d2 + 25) + d3 + 11) ((t + 1 + dA + 33 + d1 + 12 + d2 + 25) + d3 + 22) (e0 :: er) []).go (e0 :: er) ⟨.none, .none, none, [], 0⟩ (t + 1 + dA + 33 + d1 + 12 + d2 + 25 + d3 + 23) = (⟨x4, y4, some (a4, p4, b4, q4), rs4, rp4⟩, z4, d4)) : OkS b c w (mU5 (tW b c w).params x0 u0 xr e0 er t ep t1 dA v1 rs1 rp1 a1 b1 z1 d1 x1 y1 p1 q1 rs2 rp2 a2 b2 z2 d2 x2 y2 p2 q2 rs3 rp3 a3 b3 c3 z3 d3 x3 y3 p3 q3 r3 rs4 rp4 a4 b4 z4 d4 x4 y4 p4 q4 Z5 D5 vk zr dr sv1 sv2 sv3 sv4 sv5 usv1 usv2 usv3 usv4 usv5 aep' zt dt vk2 y0 ys) := by
  refine OkS.of (Loop.T_ok (rem := e0 :: er) (subL_ok (fun _ _ => rfl) (Nat.le_trans (good_len hG) (by decide)) (by
    simp only [List.nodup_cons, List.mem_cons, List.not_mem_nil, or_false, not_or, not_false_eq_true, List.nodup_nil, and_true]
    refine ⟨⟨?_, ?_, ?_, ?_⟩, ⟨?_, ?_, ?_⟩, ⟨?_, ?_⟩, ?_⟩ <;> omega) (fun a ha => by
    simp only [List.mem_cons, List.not_mem_nil, or_false] at ha
    rcases ha with rfl | rfl | rfl | rfl | rfl <;> omega) ⟨.none, .none, none, [], 0⟩ (Nat.le_refl _) _ _ (by omega)) (by simp) hg) List.nodup_nil
theorem vU6 {aepa zca dca aepb zcb dcb s1 : Nat} {w0 w1 : Int × Nat} {vca vcb : Nat × Value} {ws0 ws1 acca accb : List (Int × Nat)} (H0 : PTok (tW b c w).params (z4 + (z3 + (z2 + (z1 + 1153) + 29) + 34) + 4) (z4 + (z3 + (z2 + (z1 + 1153) + 29) + 34) + 3) (z3 + (z2 + (z1 + 1153) + 29) + 6) 24 (z2 + (z1 + 50) + 18) 0 1126 (z2 + (z1 + 1153) + 17) rp1 rp3 ep aepa zca dca [.ref (z3 + (z2 + (z1 + 1153) + 29) + 6), .ref (z4 + (z3 + (z2 + (z1 + 1153) + 29) + 34) + 2)] (e0 :: er) rs1 rs3 w0 vca ws0 acca (z4 + (z3 + (z2 + (z1 + 44) + 29) + 34) + 5) (t + 1 + dA + 33 + d1 + 12 + d2 + 25 + d3 + 23 + d4)) (H1 : PTok (tW b c w).params (z4 + (z3 + (z2 + (z1 + 1153) + 29) + 34) + 4) (z4 + (z3 + (z2 + (z1 + 1153) + 29) + 34) + 3) (z4 + (z3 + (z2 + (z1 + 1153) + 29) + 34) + 2) (z1 + 39) (z3 + (z2 + (z1 + 50) + 29) + 19) 1 (z1 + 1141) (z3 + (z2 + (z1 + 1153) + 29) + 18) rp2 rp4 ep aepb zcb dcb [.ref (z3 + (z2 + (z1 + 1153) + 29) + 6), .ref (z4 + (z3 + (z2 + (z1 + 1153) + 29) + 34) + 2)] (e0 :: er) rs2 rs4 w1 vcb ws1 accb s1 ((t + 1 + dA + 33 + d1 + 12 + d2 + 25 + d3 + 23 + d4) + 5 + dca)) (hs1 : zca + ((rs3.length + (rs1.length + ((z4 + (z3 + (z2 + (z1 + 44) + 29) + 34) + 5) + 1115) + 5)) + 20) + 2 = s1 + 1109) (hZ : Z5 + ((z4 + (z3 + (z2 + (z1 + 44) + 29) + 34) + 5) + 1109) = zcb + ((rs4.length + (rs2.length + (s1 + 1115) + 5)) + 20) + 4) (hD : D5 = 5 + dca + (5 + dcb)) : OkS b c w (mU6 (tW b c w).params x0 u0 xr e0 er t ep t1 dA v1 rs1 rp1 a1 b1 z1 d1 x1 y1 p1 q1 rs2 rp2 a2 b2 z2 d2 x2 y2 p2 q2 rs3 rp3 a3 b3 c3 z3 d3 x3 y3 p3 q3 r3 rs4 rp4 a4 b4 z4 d4 x4 y4 p4 q4 Z5 D5 vk zr dr sv1 sv2 sv3 sv4 sv5 usv1 usv2 usv3 usv4 usv5 aep' zt dt vk2 y0 ys) := by
  refine OkS.of (sPT_ok' (pa0 := 24) (tw0 := (z2 + (z1 + 50) + 18)) (pa1 := (z1 + 39)) (tw1 := (z3 + (z2 + (z1 + 50) + 29) + 19)) (s0 := (z4 + (z3 + (z2 + (z1 + 44) + 29) + 34) + 5)) (by omega) (by omega) (by omega) (by omega) (by omega) (by omega) (by omega) (by omega) (by omega) (by omega) (by omega) (by omega) (by omega) (by omega) (by omega) (by omega) (by omega) (by omega) H0 H1 hs1 hZ hD) List.nodup_nil
theorem vU7 (H : Parts (e0 :: er) rs1 rs2 rs3 rs4) (hg : (rgL (tW b c w).params 109 1 2 4 22 35 (Z5 + (z4 + (z3 + (z2 + (z1 + 1153) + 29) + 34) + 5) + 1) 24 (z1 + 39) 1126 (z1 + 1141) rp1 rp2 ep (t + 1 + dA + 33 + d1 + 12 + d2 + 25 + d3 + 23 + d4) (.ref (z3 + (z2 + (z1 + 1153) + 29) + 19)) ⟨t, t1, t + 1 + dA + 20, t + 1 + dA + 33 + d1 + 12 + d2, t + 1 + dA + 33 + d1 + 12 + d2 + 1, v1, 1112, z1 + 1142, 1127⟩ (e0 :: er) rs1 rs2 e0).go [0, 1, 2, 3, 4] ⟨none⟩ (t + 1 + dA + 33 + d1 + 12 + d2 + 25 + d3 + 23 + d4 + D5 + 3) = (⟨some vk⟩, zr, dr)) : OkS b c w (mU7 (tW b c w).params x0 u0 xr e0 er t ep t1 dA v1 rs1 rp1 a1 b1 z1 d1 x1 y1 p1 q1 rs2 rp2 a2 b2 z2 d2 x2 y2 p2 q2 rs3 rp3 a3 b3 c3 z3 d3 x3 y3 p3 q3 r3 rs4 rp4 a4 b4 z4 d4 x4 y4 p4 q4 Z5 D5 vk zr dr sv1 sv2 sv3 sv4 sv5 usv1 usv2 usv3 usv4 usv5 aep' zt dt vk2 y0 ys) := by
  refine OkS.of (Loop.T_ok (rem := [0, 1, 2, 3, 4]) (rgL_ok [0, 1, 2, 3, 4] rfl (fun n _ => H.gap _) (fun n _ => H.apart _) (by
    simp only [List.nodup_cons, List.mem_cons, List.not_mem_nil, or_false, not_or, not_false_eq_true, List.nodup_nil, and_true]
    refine ⟨⟨?_, ?_, ?_, ?_, ?_⟩, ⟨?_, ?_, ?_, ?_⟩, ⟨?_, ?_, ?_⟩, ⟨?_, ?_⟩, ?_⟩ <;> omega) (fun a ha => by
    simp only [List.mem_cons, List.not_mem_nil, or_false] at ha
    rcases ha with rfl | rfl | rfl | rfl | rfl | rfl <;> omega) (fun n e h => ?_) ⟨none⟩ trivial _ _ (by omega)) rfl hg) List.nodup_nil
  match n, h with
  | 0, h => cases h; exact ⟨rfl, by decide⟩
  | 1, h => cases h; exact ⟨rfl, by decide⟩
  | 2, h => cases h; exact ⟨rfl, by decide⟩
  | 3, h => cases h; exact ⟨rfl, by decide⟩
  | 4, h => cases h; exact ⟨rfl, by decide⟩
  | n + 5, h => cases h
theorem vU8 (hv : sv1 = sumV (vs (e0 :: er)) 0) (hu : usv1 = sumT (vs (e0 :: er)) ((t + 1 + dA + 33 + d1 + 12 + d2 + 25 + d3 + 23 + d4 + D5 + 3 + dr) + 1) ((t + 1 + dA + 33 + d1 + 12 + d2 + 25 + d3 + 23 + d4 + D5 + 3 + dr) + 2))  : OkS b c w (mU8 (tW b c w).params x0 u0 xr e0 er t ep t1 dA v1 rs1 rp1 a1 b1 z1 d1 x1 y1 p1 q1 rs2 rp2 a2 b2 z2 d2 x2 y2 p2 q2 rs3 rp3 a3 b3 c3 z3 d3 x3 y3 p3 q3 r3 rs4 rp4 a4 b4 z4 d4 x4 y4 p4 q4 Z5 D5 vk zr dr sv1 sv2 sv3 sv4 sv5 usv1 usv2 usv3 usv4 usv5 aep' zt dt vk2 y0 ys) := by
  refine OkS.of (sSumX_ok (srcVi _ 1112 (e0 :: er).length clsC (some 1111) (e0 :: er)) (by omega) (fun q hq => ?_) (fun q hq => ?_) (by simp [vs]) hv hu) List.nodup_nil
  · rw [List.mem_singleton.mp hq]
    show 1112 ≠ (zr + (Z5 + (z4 + (z3 + (z2 + (z1 + 1153) + 29) + 34) + 5) + 2) + 2) + 2
    omega
  · rw [List.mem_singleton.mp hq]
    show 1112 ≠ (zr + (Z5 + (z4 + (z3 + (z2 + (z1 + 1153) + 29) + 34) + 5) + 2) + 2) + 3
    omega
theorem vU9 (hG : Good 5 (e0 :: er)) (hg : (totL (tW b c w).params 114 4 115 116 2 ((zr + (Z5 + (z4 + (z3 + (z2 + (z1 + 1153) + 29) + 34) + 5) + 2) + 2) + 6) ((zr + (Z5 + (z4 + (z3 + (z2 + (z1 + 1153) + 29) + 34) + 5) + 2) + 2) + 7) ((zr + (Z5 + (z4 + (z3 + (z2 + (z1 + 1153) + 29) + 34) + 5) + 2) + 2) + 8) ep (e0 :: er)).go (e0 :: er) ⟨[], 0, none⟩ (t + 1 + dA + 33 + d1 + 12 + d2 + 25 + d3 + 23 + d4 + D5 + 3 + dr + 2 + (e0 :: er).length) = (⟨nvs (y0 :: ys), aep', some vk2⟩, zt, dt)) : OkS b c w (mU9 (tW b c w).params x0 u0 xr e0 er t ep t1 dA v1 rs1 rp1 a1 b1 z1 d1 x1 y1 p1 q1 rs2 rp2 a2 b2 z2 d2 x2 y2 p2 q2 rs3 rp3 a3 b3 c3 z3 d3 x3 y3 p3 q3 r3 rs4 rp4 a4 b4 z4 d4 x4 y4 p4 q4 Z5 D5 vk zr dr sv1 sv2 sv3 sv4 sv5 usv1 usv2 usv3 usv4 usv5 aep' zt dt vk2 y0 ys) := by
  refine OkS.of (Loop.T_ok (rem := e0 :: er) (totL_ok (e0 :: er) (Nat.le_trans (good_len hG) (by decide)) rfl (by
    simp only [List.nodup_cons, List.mem_cons, List.not_mem_nil, or_false, not_or, not_false_eq_true, List.nodup_nil, and_true]
    refine ⟨⟨?_, ?_, ?_, ?_⟩, ⟨?_, ?_, ?_⟩, ⟨?_, ?_⟩, ?_⟩ <;> omega) (fun a ha => by
    simp only [List.mem_cons, List.not_mem_nil, or_false] at ha
    rcases ha with rfl | rfl | rfl | rfl | rfl <;> omega) (fun n e h => ⟨h, esFind_mem hG.1 (List.mem_of_getElem? h)⟩) ⟨[], 0, none⟩ (Nat.le_refl _) _ _ (by omega)) (by simp) hg) List.nodup_nil
theorem vU10 (hv : sv2 = sumV (y0 :: ys) 0) (hu : usv2 = sumT (y0 :: ys) (t + 1 + dA + 33 + d1 + 12 + d2 + 25 + d3 + 23 + d4 + D5 + 3 + dr + 2 + (e0 :: er).length + dt) ((t + 1 + dA + 33 + d1 + 12 + d2 + 25 + d3 + 23 + d4 + D5 + 3 + dr + 2 + (e0 :: er).length + dt) + 1))  : OkS b c w (mU10 (tW b c w).params x0 u0 xr e0 er t ep t1 dA v1 rs1 rp1 a1 b1 z1 d1 x1 y1 p1 q1 rs2 rp2 a2 b2 z2 d2 x2 y2 p2 q2 rs3 rp3 a3 b3 c3 z3 d3 x3 y3 p3 q3 r3 rs4 rp4 a4 b4 z4 d4 x4 y4 p4 q4 Z5 D5 vk zr dr sv1 sv2 sv3 sv4 sv5 usv1 usv2 usv3 usv4 usv5 aep' zt dt vk2 y0 ys) := by
  refine OkS.of (sSumX_ok (srcLi _ _ _ (y0 :: ys)) (by omega) (fun q hq => ?_) (fun q hq => ?_) rfl hv hu) List.nodup_nil
  · rw [List.mem_singleton.mp hq]
    show (zr + (Z5 + (z4 + (z3 + (z2 + (z1 + 1153) + 29) + 34) + 5) + 2) + 2) + 7 ≠ (zt + ((zr + (Z5 + (z4 + (z3 + (z2 + (z1 + 1153) + 29) + 34) + 5) + 2) + 2) + 9) + 2)
    omega
  · rw [List.mem_singleton.mp hq]
    show (zr + (Z5 + (z4 + (z3 + (z2 + (z1 + 1153) + 29) + 34) + 5) + 2) + 2) + 7 ≠ (zt + ((zr + (Z5 + (z4 + (z3 + (z2 + (z1 + 1153) + 29) + 34) + 5) + 2) + 2) + 9) + 2) + 1
    omega
theorem vU11 (h : sv1 = sv2) : OkS b c w (mU11 (tW b c w).params x0 u0 xr e0 er t ep t1 dA v1 rs1 rp1 a1 b1 z1 d1 x1 y1 p1 q1 rs2 rp2 a2 b2 z2 d2 x2 y2 p2 q2 rs3 rp3 a3 b3 c3 z3 d3 x3 y3 p3 q3 r3 rs4 rp4 a4 b4 z4 d4 x4 y4 p4 q4 Z5 D5 vk zr dr sv1 sv2 sv3 sv4 sv5 usv1 usv2 usv3 usv4 usv5 aep' zt dt vk2 y0 ys) := by
  intro cc sz tok _ _
  exact ⟨sNe_ok (by rw [h]; simp) cc sz tok, List.nodup_nil⟩
theorem vU12 (hv : sv3 = sumV (vs rs1) 0) (hu : usv3 = sumT (vs rs1) ((t + 1 + dA + 33 + d1 + 12 + d2 + 25 + d3 + 23 + d4 + D5 + 3 + dr + 2 + (e0 :: er).length + dt + 1 + (y0 :: ys).length) + 1) ((t + 1 + dA + 33 + d1 + 12 + d2 + 25 + d3 + 23 + d4 + D5 + 3 + dr + 2 + (e0 :: er).length + dt + 1 + (y0 :: ys).length) + 2))  : OkS b c w (mU12 (tW b c w).params x0 u0 xr e0 er t ep t1 dA v1 rs1 rp1 a1 b1 z1 d1 x1 y1 p1 q1 rs2 rp2 a2 b2 z2 d2 x2 y2 p2 q2 rs3 rp3 a3 b3 c3 z3 d3 x3 y3 p3 q3 r3 rs4 rp4 a4 b4 z4 d4 x4 y4 p4 q4 Z5 D5 vk zr dr sv1 sv2 sv3 sv4 sv5 usv1 usv2 usv3 usv4 usv5 aep' zt dt vk2 y0 ys) := by
  refine OkS.of (sSumX_ok (srcVi _ 1127 rp1 clsC (some 1126) rs1) (by omega) (fun q hq => ?_) (fun q hq => ?_) (by simp [vs]) hv hu) List.nodup_nil
  · rw [List.mem_singleton.mp hq]
    show 1127 ≠ ((zt + ((zr + (Z5 + (z4 + (z3 + (z2 + (z1 + 1153) + 29) + 34) + 5) + 2) + 2) + 9) + 2) + 4) + 2
    omega
  · rw [List.mem_singleton.mp hq]
    show 1127 ≠ ((zt + ((zr + (Z5 + (z4 + (z3 + (z2 + (z1 + 1153) + 29) + 34) + 5) + 2) + 2) + 9) + 2) + 4) + 3
    omega
theorem vU13 (hv : sv4 = sumV (vs rs2) 0) (hu : usv4 = sumT (vs rs2) ((t + 1 + dA + 33 + d1 + 12 + d2 + 25 + d3 + 23 + d4 + D5 + 3 + dr + 2 + (e0 :: er).length + dt + 1 + (y0 :: ys).length + 2 + rs1.length) + 1) ((t + 1 + dA + 33 + d1 + 12 + d2 + 25 + d3 + 23 + d4 + D5 + 3 + dr + 2 + (e0 :: er).length + dt + 1 + (y0 :: ys).length + 2 + rs1.length) + 2))  : OkS b c w (mU13 (tW b c w).params x0 u0 xr e0 er t ep t1 dA v1 rs1 rp1 a1 b1 z1 d1 x1 y1 p1 q1 rs2 rp2 a2 b2 z2 d2 x2 y2 p2 q2 rs3 rp3 a3 b3 c3 z3 d3 x3 y3 p3 q3 r3 rs4 rp4 a4 b4 z4 d4 x4 y4 p4 q4 Z5 D5 vk zr dr sv1 sv2 sv3 sv4 sv5 usv1 usv2 usv3 usv4 usv5 aep' zt dt vk2 y0 ys) := by
  refine OkS.of (sSumX_ok (srcVi _ (z1 + 1142) rp2 clsC (some (z1 + 1141)) rs2) (by omega) (fun q hq => ?_) (fun q hq => ?_) (by simp [vs]) hv hu) List.nodup_nil
  · rw [List.mem_singleton.mp hq]
    show (z1 + 1142) ≠ ((zt + ((zr + (Z5 + (z4 + (z3 + (z2 + (z1 + 1153) + 29) + 34) + 5) + 2) + 2) + 9) + 2) + 10) + 2
    omega
  · rw [List.mem_singleton.mp hq]
    show (z1 + 1142) ≠ ((zt + ((zr + (Z5 + (z4 + (z3 + (z2 + (z1 + 1153) + 29) + 34) + 5) + 2) + 2) + 9) + 2) + 10) + 3
    omega
theorem vU14 (hv : sv5 = sumV (vs (e0 :: er)) 0) (hu : usv5 = sumT (vs (e0 :: er)) ((t + 1 + dA + 33 + d1 + 12 + d2 + 25 + d3 + 23 + d4 + D5 + 3 + dr + 2 + (e0 :: er).length + dt + 1 + (y0 :: ys).length + 2 + rs1.length + 2 + rs2.length + 1) + 1) ((t + 1 + dA + 33 + d1 + 12 + d2 + 25 + d3 + 23 + d4 + D5 + 3 + dr + 2 + (e0 :: er).length + dt + 1 + (y0 :: ys).length + 2 + rs1.length + 2 + rs2.length + 1) + 2))  : OkS b c w (mU14 (tW b c w).params x0 u0 xr e0 er t ep t1 dA v1 rs1 rp1 a1 b1 z1 d1 x1 y1 p1 q1 rs2 rp2 a2 b2 z2 d2 x2 y2 p2 q2 rs3 rp3 a3 b3 c3 z3 d3 x3 y3 p3 q3 r3 rs4 rp4 a4 b4 z4 d4 x4 y4 p4 q4 Z5 D5 vk zr dr sv1 sv2 sv3 sv4 sv5 usv1 usv2 usv3 usv4 usv5 aep' zt dt vk2 y0 ys) := by
  refine OkS.of (sSumX_ok (srcVi _ 1112 (e0 :: er).length clsC (some 1111) (e0 :: er)) (by omega) (fun q hq => ?_) (fun q hq => ?_) (by simp [vs]) hv hu) List.nodup_nil
  · rw [List.mem_singleton.mp hq]
    show 1112 ≠ ((zt + ((zr + (Z5 + (z4 + (z3 + (z2 + (z1 + 1153) + 29) + 34) + 5) + 2) + 2) + 9) + 2) + 16) + 2
    omega
  · rw [List.mem_singleton.mp hq]
    show 1112 ≠ ((zt + ((zr + (Z5 + (z4 + (z3 + (z2 + (z1 + 1153) + 29) + 34) + 5) + 2) + 2) + 9) + 2) + 16) + 3
    omega
theorem vU15 (h : sv3 - sv4 = sv5) : OkS b c w (mU15 (tW b c w).params x0 u0 xr e0 er t ep t1 dA v1 rs1 rp1 a1 b1 z1 d1 x1 y1 p1 q1 rs2 rp2 a2 b2 z2 d2 x2 y2 p2 q2 rs3 rp3 a3 b3 c3 z3 d3 x3 y3 p3 q3 r3 rs4 rp4 a4 b4 z4 d4 x4 y4 p4 q4 Z5 D5 vk zr dr sv1 sv2 sv3 sv4 sv5 usv1 usv2 usv3 usv4 usv5 aep' zt dt vk2 y0 ys) := by
  intro cc sz tok _ _
  exact ⟨sNe_ok (by rw [h]; simp) cc sz tok, List.nodup_nil⟩
theorem vU16 (h : rs1.length ≤ 5) : OkS b c w (mU16 (tW b c w).params x0 u0 xr e0 er t ep t1 dA v1 rs1 rp1 a1 b1 z1 d1 x1 y1 p1 q1 rs2 rp2 a2 b2 z2 d2 x2 y2 p2 q2 rs3 rp3 a3 b3 c3 z3 d3 x3 y3 p3 q3 r3 rs4 rp4 a4 b4 z4 d4 x4 y4 p4 q4 Z5 D5 vk zr dr sv1 sv2 sv3 sv4 sv5 usv1 usv2 usv3 usv4 usv5 aep' zt dt vk2 y0 ys) := by
  intro cc sz tok _ _
  exact ⟨sSetC_ok (Nat.le_trans h (by size_fits)) (by decide) sz tok, List.nodup_nil⟩
theorem vU17 (h : rs2.length ≤ 5) : OkS b c w (mU17 (tW b c w).params x0 u0 xr e0 er t ep t1 dA v1 rs1 rp1 a1 b1 z1 d1 x1 y1 p1 q1 rs2 rp2 a2 b2 z2 d2 x2 y2 p2 q2 rs3 rp3 a3 b3 c3 z3 d3 x3 y3 p3 q3 r3 rs4 rp4 a4 b4 z4 d4 x4 y4 p4 q4 Z5 D5 vk zr dr sv1 sv2 sv3 sv4 sv5 usv1 usv2 usv3 usv4 usv5 aep' zt dt vk2 y0 ys) := by
  intro cc sz tok _ _
  exact ⟨sSetC_ok (Nat.le_trans h (by size_fits)) (by omega) sz tok, List.nodup_nil⟩
theorem vU18 (hG : Good 5 (e0 :: er)) : OkS b c w (mU18 (tW b c w).params x0 u0 xr e0 er t ep t1 dA v1 rs1 rp1 a1 b1 z1 d1 x1 y1 p1 q1 rs2 rp2 a2 b2 z2 d2 x2 y2 p2 q2 rs3 rp3 a3 b3 c3 z3 d3 x3 y3 p3 q3 r3 rs4 rp4 a4 b4 z4 d4 x4 y4 p4 q4 Z5 D5 vk zr dr sv1 sv2 sv3 sv4 sv5 usv1 usv2 usv3 usv4 usv5 aep' zt dt vk2 y0 ys) := by
  intro cc sz tok _ _
  exact ⟨sItems_ok (by omega) (by omega) (by omega) (Nat.le_trans (good_len hG) (by decide)) sz tok, List.nodup_nil⟩
theorem vU19 (hG : Good 5 (e0 :: er)) : OkS b c w (mU19 (tW b c w).params x0 u0 xr e0 er t ep t1 dA v1 rs1 rp1 a1 b1 z1 d1 x1 y1 p1 q1 rs2 rp2 a2 b2 z2 d2 x2 y2 p2 q2 rs3 rp3 a3 b3 c3 z3 d3 x3 y3 p3 q3 r3 rs4 rp4 a4 b4 z4 d4 x4 y4 p4 q4 Z5 D5 vk zr dr sv1 sv2 sv3 sv4 sv5 usv1 usv2 usv3 usv4 usv5 aep' zt dt vk2 y0 ys) := by
  intro cc sz tok _ _
  exact ⟨sItems_ok (by omega) (by omega) (by omega) (Nat.le_trans (good_len hG) (by decide)) sz tok, List.nodup_nil⟩
theorem vU20  : OkS b c w (mU20 (tW b c w).params x0 u0 xr e0 er t ep t1 dA v1 rs1 rp1 a1 b1 z1 d1 x1 y1 p1 q1 rs2 rp2 a2 b2 z2 d2 x2 y2 p2 q2 rs3 rp3 a3 b3 c3 z3 d3 x3 y3 p3 q3 r3 rs4 rp4 a4 b4 z4 d4 x4 y4 p4 q4 Z5 D5 vk zr dr sv1 sv2 sv3 sv4 sv5 usv1 usv2 usv3 usv4 usv5 aep' zt dt vk2 y0 ys) := by
  intro cc sz tok _ _
  exact ⟨sLsEq_ok (rdKV (i := 1) List.mem_cons_self) (rdKV (i := 0) (List.mem_cons_of_mem _ List.mem_cons_self)) (by rw [eqvKV]; exact decide_eq_true rfl) sz tok, List.nodup_nil⟩
theorem vM0 : ∀ sz tok, (mM0 x0 u0 xr e0 er t ep t1 dA v1 rs1 rp1 a1 b1 z1 d1 x1 y1 p1 q1 rs2 rp2 a2 b2 z2 d2 x2 y2 p2 q2 rs3 rp3 a3 b3 c3 z3 d3 x3 y3 p3 q3 r3 rs4 rp4 a4 b4 z4 d4 x4 y4 p4 q4 Z5 D5 vk zr dr sv1 sv2 sv3 sv4 sv5 usv1 usv2 usv3 usv4 usv5 aep' zt dt vk2 y0 ys sz tok).Valid (mdl tP (tW b c w)) (KK (tW b c w)) sz tok := fun sz tok => mExt_ok (by omega) rfl rfl sz tok
theorem vM1 : ∀ sz tok, (mM1 x0 u0 xr e0 er t ep t1 dA v1 rs1 rp1 a1 b1 z1 d1 x1 y1 p1 q1 rs2 rp2 a2 b2 z2 d2 x2 y2 p2 q2 rs3 rp3 a3 b3 c3 z3 d3 x3 y3 p3 q3 r3 rs4 rp4 a4 b4 z4 d4 x4 y4 p4 q4 Z5 D5 vk zr dr sv1 sv2 sv3 sv4 sv5 usv1 usv2 usv3 usv4 usv5 aep' zt dt vk2 y0 ys sz tok).Valid (mdl tP (tW b c w)) (KK (tW b c w)) sz tok := fun sz tok => mExt_ok (by omega) rfl rfl sz tok
end Mine
namespace Mine
open PySem PySem.W PySem.Calls PyProof.Rows PySem.Spec
variable {b c : Bool} {w : World}
noncomputable def oZero : Bool → List Op
  | true => [.k 3, .s 1, .s 1, .k 0, .s 2, .s 2, .s 1, .s 0, .s 0, .k 0, .s 0, .s 5, .k 0, .s 5, .k 0, .s 5, .s 5, .s 5, .s 0, .s 5, .s 5, .s 7, .k 0, .s 2, .k 20, .s 9, .k 0, .s 9, .k 7, .s 11, .s 11, .s 11, .s 11, .s 11, .s 11, .k 5, .s 11, .k 3, .s 12, .s 12, .k 0, .s 12, .k 0, .s 9, .s 9, .k 0, .s 12, .s 12, .s 12, .s 12, .s 12, .s 12, .s 12, .s 12, .k 0, .s 12, .s 12, .s 12, .s 12, .k 2, .s 9, .k 0, .s 13, .k 0, .s 13, .s 9, .s 9, .k 0, .s 11, .s 9, .k 6, .s 9, .k 0, .s 9, .k 5, .s 9, .s 9, .k 0, .s 8, .k 1, .s 11, .s 11, .s 10, .s 10, .s 15, .s 10, .s 10, .s 10, .s 15, .s 14, .k 1, .s 14, .k 2, .s 17, .s 17, .s 17, .s 17, .s 17, .s 17, .k 0, .s 17, .k 1, .s 17, .k 1, .s 4, .k 11, .s 18, .s 18, .s 18, .s 18, .k 2, .s 18, .k 0, .s 4, .s 18, .s 18, .s 18, .s 4, .k 0, .s 4, .s 4, .k 0, .s 4, .s 4, .s 18, .s 18, .k 30, .s 18, .s 18, .k 3, .s 19, .s 19, .s 19, .s 19, .k 0, .s 19, .k 2, .s 19, .k 2, .s 17, .s 9, .k 2, .s 9, .k 3, .s 9, .k 3, .s 9, .k 0, .s 9, .k 4, .s 17, .k 3, .s 20, .s 20, .k 0, .s 20, .k 0, .s 9, .s 9, .k 0, .s 20, .s 20, .s 20, .s 20, .s 20, .s 20, .s 20, .s 20, .k 0, .s 20, .s 20, .s 20, .s 20, .k 2, .s 9, .k 0, .s 17, .s 21, .k 0, .s 21, .s 9, .k 0, .s 9, .s 9, .k 1, .s 9, .s 9, .k 0, .s 4, .s 4, .s 4, .s 4, .s 4, .s 4, .s 17, .s 16, .s 16, .k 0, .s 16, .k 0, .s 16, .s 16, .s 1, .s 1, .s 1, .s 9, .k 6, .s 22, .s 22, .k 22, .s 24, .k 0, .s 24, .k 7, .s 26, .s 26, .s 26, .s 26, .s 26, .s 26, .k 5, .s 26, .k 3, .s 27, .s 27, .k 0, .s 27, .k 0, .s 24, .s 24, .k 0, .s 27, .s 27, .s 27, .s 27, .s 27, .s 27, .s 27, .s 27, .k 0, .s 27, .s 27, .s 27, .s 27, .k 2, .s 24, .k 0, .s 28, .k 0, .s 28, .s 24, .s 24, .k 0, .s 26, .s 24, .k 6, .s 24, .k 0, .s 24, .k 5, .s 24, .s 24, .k 0, .s 23, .k 1, .s 26, .s 26, .s 25, .s 25, .s 30, .s 25, .s 25, .s 25, .s 30, .s 29, .k 1, .s 29, .k 2, .s 32, .s 32, .s 32, .s 32, .s 32, .s 32, .k 0, .s 32, .s 32, .s 31, .s 31, .k 0, .s 31, .k 0, .s 31, .s 31, .s 22, .s 22, .s 22, .s 9, .k 2, .s 9, .k 2, .s 9, .k 2, .s 9, .s 8, .k 0, .s 9, .k 0, .s 9, .s 9, .k 0, .s 33, .s 33, .k 0, .s 33, .s 33, .s 9, .s 9, .s 34, .k 0, .s 34, .k 0, .s 34, .s 34, .s 34, .s 9, .s 9, .s 34, .s 34, .s 34, .s 36, .s 22, .s 1, .s 9, .k 6, .s 37, .s 37, .k 22, .s 39, .k 0, .s 39, .k 7, .s 41, .s 41, .s 41, .s 41, .s 41, .s 41, .k 5, .s 41, .k 3, .s 42, .s 42, .k 0, .s 42, .k 0, .s 39, .s 39, .k 0, .s 42, .s 42, .s 42, .s 42, .s 42, .s 42, .s 42, .s 42, .k 0, .s 42, .s 42, .s 42, .s 42, .k 2, .s 39, .k 0, .s 43, .k 0, .s 43, .s 39, .s 39, .k 0, .s 41, .s 39, .k 6, .s 39, .k 0, .s 39, .k 5, .s 39, .s 39, .k 0, .s 38, .k 1, .s 41, .s 41, .s 40, .s 40, .s 45, .s 40, .s 40, .s 40, .s 45, .s 44, .k 1, .s 44, .k 2, .s 47, .s 47, .s 47, .s 47, .s 47, .s 47, .k 0, .s 47, .s 47, .s 46, .s 46, .k 0, .s 46, .k 0, .s 46, .s 46, .s 37, .s 37, .s 37, .s 9, .k 2, .s 9, .k 2, .s 9, .k 2, .s 9, .s 8, .k 0, .s 9, .k 0, .s 9, .s 9, .k 0, .s 48, .s 48, .k 0, .s 48, .s 48, .s 9, .s 9, .s 49, .k 0, .s 49, .k 0, .s 49, .s 49, .s 49, .s 9, .s 9, .s 49, .s 49, .s 49, .s 51, .s 37, .s 52, .s 52, .s 52, .k 0, .s 52, .s 53, .s 53, .k 0, .s 53, .s 53, .s 53, .s 52, .s 53, .s 53, .s 53, .k 0, .s 53, .s 53, .s 53, .s 52, .s 53, .s 53, .s 53, .k 0, .s 53, .s 53, .s 53, .s 52, .s 53, .s 53, .s 55, .s 1, .s 1, .s 1, .s 1, .s 1, .s 1, .k 21, .s 57, .k 0, .s 57, .k 7, .s 59, .s 59, .s 59, .s 59, .s 59, .s 59, .k 5, .s 59, .k 3, .s 60, .s 60, .k 0, .s 60, .k 0, .s 57, .s 57, .k 0, .s 60, .s 60, .s 60, .s 60, .s 60, .s 60, .s 60, .s 60, .k 0, .s 60, .s 60, .s 60, .s 60, .k 2, .s 57, .k 0, .s 61, .k 0, .s 61, .s 57, .s 57, .k 0, .s 59, .s 57, .k 6, .s 57, .k 0, .s 57, .k 5, .s 57, .s 57, .k 0, .s 56, .k 1, .s 59, .s 59, .s 58, .s 58, .s 63, .s 58, .s 58, .s 58, .s 63, .s 62, .k 1, .s 62, .k 2, .s 65, .s 65, .s 65, .s 65, .s 65, .s 65, .k 0, .s 65, .s 65, .s 64, .s 64, .k 0, .s 64, .k 0, .s 64, .s 64, .s 9, .s 57, .k 3, .s 9, .k 6, .s 66, .s 66, .s 66, .s 66, .k 2, .s 66, .k 1, .s 57, .k 21, .s 68, .k 0, .s 68, .k 7, .s 70, .s 70, .s 70, .s 70, .s 70, .s 70, .k 5, .s 70, .k 3, .s 71, .s 71, .k 0, .s 71, .k 0, .s 68, .s 68, .k 0, .s 71, .s 71, .s 71, .s 71, .s 71, .s 71, .s 71, .s 71, .k 0, .s 71, .s 71, .s 71, .s 71, .k 2, .s 68, .k 0, .s 72, .k 0, .s 72, .s 68, .s 68, .k 0, .s 70, .s 68, .k 6, .s 68, .k 0, .s 68, .k 5, .s 68, .s 68, .k 0, .s 67, .k 1, .s 70, .s 70, .s 69, .s 69, .s 74, .s 69, .s 69, .s 69, .s 74, .s 73, .k 1, .s 73, .k 2, .s 76, .s 76, .s 76, .s 76, .s 76, .s 76, .k 0, .s 76, .s 76, .s 75, .s 75, .k 0, .s 75, .k 0, .s 75, .s 75, .s 66, .s 66, .s 66, .s 9, .k 2, .s 9, .k 2, .s 9, .k 2, .s 9, .s 8, .k 0, .s 9, .k 0, .s 9, .s 9, .k 0, .s 77, .s 77, .k 0, .s 77, .s 77, .s 9, .s 9, .s 78, .k 0, .s 78, .k 0, .s 78, .s 78, .s 78, .s 9, .s 9, .s 78, .s 78, .s 78, .s 80, .s 66, .s 57, .k 2, .s 57, .k 2, .s 57, .k 2, .s 57, .s 56, .k 0, .s 57, .k 0, .s 57, .s 57, .k 0, .s 81, .s 81, .k 0, .s 81, .s 81, .s 57, .s 57, .s 82, .k 0, .s 82, .k 0, .s 82, .s 82, .s 82, .s 57, .s 57, .s 82, .s 82, .s 82, .s 84, .s 66, .s 1, .k 21, .s 87, .k 0, .s 87, .k 7, .s 89, .s 89, .s 89, .s 89, .s 89, .s 89, .k 5, .s 89, .k 3, .s 90, .s 90, .k 0, .s 90, .k 0, .s 87, .s 87, .k 0, .s 90, .s 90, .s 90, .s 90, .s 90, .s 90, .s 90, .s 90, .k 0, .s 90, .s 90, .s 90, .s 90, .k 2, .s 87, .k 0, .s 91, .k 0, .s 91, .s 87, .s 87, .k 0, .s 89, .s 87, .k 6, .s 87, .k 0, .s 87, .k 5, .s 87, .s 87, .k 0, .s 86, .k 1, .s 89, .s 89, .s 88, .s 88, .s 93, .s 88, .s 88, .s 88, .s 93, .s 92, .k 1, .s 92, .k 2, .s 95, .s 95, .s 95, .s 95, .s 95, .s 95, .k 0, .s 95, .s 95, .s 94, .s 94, .k 0, .s 94, .k 0, .s 94, .s 94, .s 1, .s 87, .s 9, .k 3, .s 87, .k 6, .s 96, .s 96, .s 96, .s 96, .k 2, .s 96, .k 1, .s 9, .k 21, .s 98, .k 0, .s 98, .k 7, .s 100, .s 100, .s 100, .s 100, .s 100, .s 100, .k 5, .s 100, .k 3, .s 101, .s 101, .k 0, .s 101, .k 0, .s 98, .s 98, .k 0, .s 101, .s 101, .s 101, .s 101, .s 101, .s 101, .s 101, .s 101, .k 0, .s 101, .s 101, .s 101, .s 101, .k 2, .s 98, .k 0, .s 102, .k 0, .s 102, .s 98, .s 98, .k 0, .s 100, .s 98, .k 6, .s 98, .k 0, .s 98, .k 5, .s 98, .s 98, .k 0, .s 97, .k 1, .s 100, .s 100, .s 99, .s 99, .s 104, .s 99, .s 99, .s 99, .s 104, .s 103, .k 1, .s 103, .k 2, .s 106, .s 106, .s 106, .s 106, .s 106, .s 106, .k 0, .s 106, .s 106, .s 105, .s 105, .k 0, .s 105, .k 0, .s 105, .s 105, .s 96, .s 96, .s 96, .s 87, .k 2, .s 87, .k 2, .s 87, .k 2, .s 87, .s 86, .k 0, .s 87, .k 0, .s 87, .s 87, .k 0, .s 107, .s 107, .k 0, .s 107, .s 107, .s 87, .s 87, .s 108, .k 0, .s 108, .k 0, .s 108, .s 108, .s 108, .s 87, .s 87, .s 108, .s 108, .s 108, .s 110, .s 96, .s 9, .k 2, .s 9, .k 2, .s 9, .k 2, .s 9, .s 8, .k 0, .s 9, .k 0, .s 9, .s 9, .k 0, .s 111, .s 111, .k 0, .s 111, .s 111, .s 9, .s 9, .s 112, .k 0, .s 112, .k 0, .s 112, .s 112, .s 112, .s 9, .s 9, .s 112, .s 112, .s 112, .s 114, .s 96, .s 116, .s 116, .k 0, .s 116, .s 117, .k 0, .s 117, .k 0, .s 117, .s 117, .s 117, .s 116, .s 117, .s 117, .s 117, .s 85, .s 85, .s 85, .k 0, .s 85, .s 118, .s 118, .k 0, .s 118, .s 118, .s 118, .s 85, .s 118, .s 118, .s 118, .k 0, .s 118, .s 118, .s 118, .s 85, .s 118, .s 118, .s 118, .k 0, .s 118, .s 118, .s 118, .s 85, .s 118, .s 118, .s 120, .s 3, .s 3, .s 1, .s 1, .k 1, .s 3, .k 0, .s 24, .k 2, .s 1, .k 0, .s 68, .k 2, .s 3, .s 24, .k 2, .s 24, .k 2, .s 24, .k 2, .s 24, .s 23, .k 0, .s 24, .k 0, .s 24, .s 24, .k 2, .s 122, .s 122, .k 0, .s 122, .s 122, .s 122, .s 122, .s 122, .s 121, .s 121, .s 121, .k 0, .s 121, .s 121, .s 24, .s 24, .s 123, .s 121, .s 121, .s 121, .s 122, .s 122, .s 122, .s 122, .s 122, .s 122, .s 123, .k 0, .s 123, .s 123, .s 123, .s 24, .s 24, .s 123, .s 123, .s 123, .s 125, .k 1, .s 1, .s 68, .k 2, .s 68, .k 2, .s 68, .k 2, .s 68, .s 67, .k 0, .s 68, .k 0, .s 68, .s 68, .k 2, .s 127, .s 127, .k 0, .s 127, .s 127, .s 127, .s 127, .s 127, .s 126, .s 126, .s 126, .k 0, .s 126, .s 126, .s 68, .s 68, .s 128, .s 126, .s 126, .s 126, .s 127, .s 127, .s 127, .s 127, .s 127, .s 127, .s 128, .k 0, .s 128, .s 128, .s 128, .s 68, .s 68, .s 128, .s 128, .s 128, .s 130, .s 122, .s 127, .s 122, .k 0, .s 122, .s 127, .s 122, .s 127, .s 122, .s 127, .s 122, .s 127, .k 3, .s 3, .s 24, .k 2, .s 24, .k 2, .s 24, .k 2, .s 24, .s 23, .k 0, .s 24, .k 0, .s 24, .s 24, .k 2, .s 132, .s 132, .k 0, .s 132, .s 132, .s 132, .s 132, .s 132, .s 131, .s 131, .s 131, .k 0, .s 131, .s 131, .s 24, .s 24, .s 133, .s 131, .s 131, .s 131, .s 132, .s 132, .s 132, .s 132, .s 132, .s 132, .s 133, .k 0, .s 133, .s 133, .s 133, .s 24, .s 24, .s 133, .s 133, .s 133, .s 135, .s 132, .s 136, .s 132, .k 0, .s 132, .s 136, .s 132, .s 136, .k 0, .s 137, .s 137, .k 0, .s 137, .s 138, .s 139, .s 138, .k 0, .s 138, .s 138, .s 138, .s 137, .s 138, .s 138, .s 139, .s 139, .s 139, .s 139, .s 138, .k 0, .s 138, .s 138, .s 138, .s 137, .s 138, .s 138, .s 141, .s 139, .s 139, .s 139, .k 2, .s 3, .k 1, .s 142, .s 142, .k 0, .s 142, .s 142, .s 142, .s 142, .s 142, .s 24, .s 24, .k 2, .s 24, .k 3, .s 24, .k 0, .s 24, .s 24, .k 0, .s 24, .s 24, .s 143, .s 24, .k 2, .s 24, .k 0, .s 24, .k 0, .s 24, .k 3, .s 24, .k 0, .s 24, .s 143, .k 0, .s 143, .s 143, .s 143, .s 24, .s 24, .s 143, .s 143, .s 143, .s 145, .s 2, .s 4, .s 4, .k 0, .s 4, .s 4, .s 4, .s 4, .s 146, .k 0, .s 146, .k 0, .s 146, .s 146, .s 146, .s 4, .s 4, .s 146, .s 146, .s 146, .s 150, .s 148, .s 142, .s 147, .s 142, .k 0, .s 142, .s 147, .s 142, .s 147, .s 142, .s 147, .s 142, .s 147, .s 117, .k 0, .s 117, .s 117, .s 117, .s 116, .s 117, .s 117, .s 117, .s 115, .s 115, .s 115, .k 0, .s 115, .s 151, .s 151, .k 0, .s 151, .s 151, .s 151, .s 115, .s 151, .s 151, .s 151, .k 0, .s 151, .s 151, .s 151, .s 115, .s 151, .s 151, .s 151, .k 0, .s 151, .s 151, .s 151, .s 115, .s 151, .s 151, .s 153, .s 3, .s 3, .s 1, .s 1, .k 1, .s 3, .k 0, .s 39, .k 2, .s 1, .k 0, .s 98, .k 2, .s 3, .s 39, .k 2, .s 39, .k 2, .s 39, .k 2, .s 39, .s 38, .k 0, .s 39, .k 0, .s 39, .s 39, .k 2, .s 155, .s 155, .k 0, .s 155, .s 155, .s 155, .s 155, .s 155, .s 154, .s 154, .s 154, .k 0, .s 154, .s 154, .s 39, .s 39, .s 156, .s 154, .s 154, .s 154, .s 155, .s 155, .s 155, .s 155, .s 155, .s 155, .s 156, .k 0, .s 156, .s 156, .s 156, .s 39, .s 39, .s 156, .s 156, .s 156, .s 158, .k 1, .s 1, .s 98, .k 2, .s 98, .k 2, .s 98, .k 2, .s 98, .s 97, .k 0, .s 98, .k 0, .s 98, .s 98, .k 2, .s 160, .s 160, .k 0, .s 160, .s 160, .s 160, .s 160, .s 160, .s 159, .s 159, .s 159, .k 0, .s 159, .s 159, .s 98, .s 98, .s 161, .s 159, .s 159, .s 159, .s 160, .s 160, .s 160, .s 160, .s 160, .s 160, .s 161, .k 0, .s 161, .s 161, .s 161, .s 98, .s 98, .s 161, .s 161, .s 161, .s 163, .s 155, .s 160, .s 155, .k 0, .s 155, .s 160, .s 155, .s 160, .s 155, .s 160, .s 155, .s 160, .k 3, .s 3, .s 39, .k 2, .s 39, .k 2, .s 39, .k 2, .s 39, .s 38, .k 0, .s 39, .k 0, .s 39, .s 39, .k 2, .s 165, .s 165, .k 0, .s 165, .s 165, .s 165, .s 165, .s 165, .s 164, .s 164, .s 164, .k 0, .s 164, .s 164, .s 39, .s 39, .s 166, .s 164, .s 164, .s 164, .s 165, .s 165, .s 165, .s 165, .s 165, .s 165, .s 166, .k 0, .s 166, .s 166, .s 166, .s 39, .s 39, .s 166, .s 166, .s 166, .s 168, .s 165, .s 169, .s 165, .k 0, .s 165, .s 169, .s 165, .s 169, .k 0, .s 170, .s 170, .k 0, .s 170, .s 171, .s 172, .s 171, .k 0, .s 171, .s 171, .s 171, .s 170, .s 171, .s 171, .s 172, .s 172, .s 172, .s 172, .s 171, .k 0, .s 171, .s 171, .s 171, .s 170, .s 171, .s 171, .s 174, .s 172, .s 172, .s 172, .k 2, .s 3, .k 1, .s 175, .s 175, .k 0, .s 175, .s 175, .s 175, .s 175, .s 175, .s 39, .s 39, .k 2, .s 39, .k 3, .s 39, .k 0, .s 39, .s 39, .k 0, .s 39, .s 39, .s 176, .s 39, .k 2, .s 39, .k 0, .s 39, .k 0, .s 39, .k 3, .s 39, .k 0, .s 39, .s 176, .k 0, .s 176, .s 176, .s 176, .s 39, .s 39, .s 176, .s 176, .s 176, .s 178, .s 2, .s 4, .s 4, .k 0, .s 4, .s 4, .s 4, .s 4, .s 179, .k 0, .s 179, .k 0, .s 179, .s 179, .s 179, .s 4, .s 4, .s 179, .s 179, .s 179, .s 183, .s 181, .s 175, .s 180, .s 175, .k 0, .s 175, .s 180, .s 175, .s 180, .s 175, .s 180, .s 175, .s 180, .s 117, .k 0, .s 117, .s 117, .s 117, .s 116, .s 117, .s 117, .s 185, .k 3, .s 186, .s 186, .k 0, .s 186, .s 186, .s 186, .s 186, .k 0, .s 186, .s 186, .s 186, .s 186, .s 187, .k 0, .s 187, .k 0, .s 187, .s 187, .s 187, .s 187, .s 187, .s 187, .s 187, .s 187, .s 1, .s 1, .s 1, .s 1, .s 24, .k 2, .s 24, .k 0, .s 24, .k 3, .s 24, .k 1, .s 24, .s 24, .s 24, .k 6, .s 188, .s 188, .s 188, .s 188, .k 0, .s 1, .s 1, .s 39, .k 2, .s 39, .k 0, .s 39, .k 3, .s 39, .k 1, .s 39, .s 39, .s 39, .k 6, .s 189, .s 189, .s 189, .s 189, .k 1, .s 2, .s 4, .s 4, .s 4, .s 4, .s 1, .k 0, .s 4, .k 0, .s 4, .k 0, .s 1, .s 1, .s 24, .k 2, .s 24, .k 3, .s 24, .k 1, .s 24, .s 187, .k 0, .s 187, .s 187, .s 187, .s 187, .s 187, .s 187, .s 187, .s 187, .s 1, .s 1, .s 1, .s 1, .s 24, .k 2, .s 24, .k 0, .s 24, .k 3, .s 24, .k 1, .s 24, .s 24, .s 24, .k 6, .s 190, .s 190, .s 190, .s 190, .k 0, .s 1, .s 1, .s 39, .k 2, .s 39, .k 0, .s 39, .k 3, .s 39, .k 1, .s 39, .s 39, .s 39, .k 6, .s 191, .s 191, .s 191, .s 191, .k 1, .s 2, .s 4, .s 4, .s 4, .s 4, .s 1, .k 0, .s 4, .k 0, .s 4, .k 0, .s 1, .s 1, .s 24, .k 2, .s 24, .k 3, .s 24, .k 1, .s 24, .s 187, .k 0, .s 187, .s 187, .s 187, .s 187, .s 187, .s 187, .s 187, .s 187, .s 1, .s 1, .s 1, .s 1, .s 24, .k 2, .s 24, .k 0, .s 24, .k 3, .s 24, .k 1, .s 24, .s 24, .s 24, .k 6, .s 192, .s 192, .s 192, .s 192, .k 0, .s 1, .s 1, .s 39, .k 2, .s 39, .k 0, .s 39, .k 3, .s 39, .k 1, .s 39, .s 39, .s 39, .k 6, .s 193, .s 193, .s 193, .s 193, .k 1, .s 2, .s 4, .s 4, .s 4, .s 4, .s 1, .k 0, .s 4, .k 0, .s 4, .k 0, .s 1, .s 1, .s 24, .k 2, .s 24, .k 3, .s 24, .k 1, .s 24, .s 187, .k 0, .s 187, .s 187, .s 187, .s 187, .s 187, .s 187, .s 187, .s 187, .s 1, .s 1, .s 1, .s 1, .s 24, .k 2, .s 24, .k 0, .s 24, .k 3, .s 24, .k 1, .s 24, .s 24, .s 24, .k 6, .s 194, .s 194, .s 194, .s 194, .k 0, .s 1, .s 1, .s 39, .k 2, .s 39, .k 0, .s 39, .k 3, .s 39, .k 1, .s 39, .s 39, .s 39, .k 6, .s 195, .s 195, .s 195, .s 195, .k 1, .s 2, .s 4, .s 4, .s 4, .s 4, .s 1, .k 0, .s 4, .k 0, .s 4, .k 0, .s 1, .s 1, .s 24, .k 2, .s 24, .k 3, .s 24, .k 1, .s 24, .s 187, .k 0, .s 187, .s 187, .s 187, .s 187, .s 187, .s 187, .s 187, .s 187, .s 1, .s 1, .s 1, .s 1, .s 24, .k 2, .s 24, .k 0, .s 24, .k 3, .s 24, .k 1, .s 24, .s 24, .s 24, .k 6, .s 196, .s 196, .s 196, .s 196, .k 0, .s 1, .s 1, .s 39, .k 2, .s 39, .k 0, .s 39, .k 3, .s 39, .k 1, .s 39, .s 39, .s 39, .k 6, .s 197, .s 197, .s 197, .s 197, .k 1, .s 2, .s 4, .s 4, .s 4, .s 4, .s 1, .k 0, .s 4, .k 0, .s 4, .k 0, .s 1, .s 1, .s 24, .k 2, .s 24, .k 3, .s 24, .k 1, .s 24, .s 187, .k 0, .s 187, .s 187, .s 187, .s 187, .s 199, .s 1, .s 9, .k 2, .s 9, .k 2, .s 9, .k 3, .s 9, .s 8, .k 3, .s 200, .s 200, .k 2, .s 200, .s 9, .k 2, .s 9, .k 2, .s 9, .k 2, .s 9, .s 8, .k 0, .s 9, .k 0, .s 9, .s 9, .k 1, .s 201, .s 201, .k 0, .s 201, .s 201, .s 9, .s 9, .s 202, .s 203, .s 202, .k 0, .s 202, .s 202, .s 202, .s 9, .s 9, .s 202, .s 202, .s 202, .s 205, .k 1, .s 2, .s 4, .s 4, .k 0, .s 4, .s 4, .s 4, .s 4, .s 206, .k 0, .s 206, .k 0, .s 206, .s 206, .s 206, .s 4, .s 4, .s 206, .s 206, .s 206, .s 210, .s 208, .k 0, .s 207, .s 207, .k 0, .s 207, .s 211, .s 212, .s 211, .k 0, .s 211, .s 211, .s 211, .s 207, .s 211, .s 211, .s 214, .k 0, .s 1, .s 24, .k 2, .s 24, .k 2, .s 24, .k 3, .s 24, .s 23, .k 3, .s 215, .s 215, .k 2, .s 215, .s 24, .k 2, .s 24, .k 2, .s 24, .k 2, .s 24, .s 23, .k 0, .s 24, .k 0, .s 24, .s 24, .k 1, .s 216, .s 216, .k 0, .s 216, .s 216, .s 24, .s 24, .s 217, .s 218, .s 217, .k 0, .s 217, .s 217, .s 217, .s 24, .s 24, .s 217, .s 217, .s 217, .s 220, .s 1, .s 39, .k 2, .s 39, .k 2, .s 39, .k 3, .s 39, .s 38, .k 3, .s 221, .s 221, .k 2, .s 221, .s 39, .k 2, .s 39, .k 2, .s 39, .k 2, .s 39, .s 38, .k 0, .s 39, .k 0, .s 39, .s 39, .k 1, .s 222, .s 222, .k 0, .s 222, .s 222, .s 39, .s 39, .s 223, .s 224, .s 223, .k 0, .s 223, .s 223, .s 223, .s 39, .s 39, .s 223, .s 223, .s 223, .s 226, .k 0, .s 1, .s 9, .k 2, .s 9, .k 2, .s 9, .k 3, .s 9, .s 8, .k 3, .s 227, .s 227, .k 2, .s 227, .s 9, .k 2, .s 9, .k 2, .s 9, .k 2, .s 9, .s 8, .k 0, .s 9, .k 0, .s 9, .s 9, .k 1, .s 228, .s 228, .k 0, .s 228, .s 228, .s 9, .s 9, .s 229, .s 230, .s 229, .k 0, .s 229, .s 229, .s 229, .s 9, .s 9, .s 229, .s 229, .s 229, .s 232, .k 0, .s 233, .s 233, .s 233, .k 0, .s 233, .s 234, .s 234, .k 0, .s 234, .s 234, .s 234, .s 233, .s 234, .s 234, .s 234, .k 0, .s 234, .s 234, .s 234, .s 233, .s 234, .s 234, .s 234, .k 0, .s 234, .s 234, .s 234, .s 233, .s 234, .s 234, .s 236, .s 1, .s 24, .k 0, .s 24, .k 3, .s 24, .k 0, .s 24, .s 24, .k 1, .s 24, .s 24, .s 24, .s 24, .s 1, .s 39, .k 0, .s 39, .k 3, .s 39, .k 0, .s 39, .s 39, .k 1, .s 39, .s 39, .s 39, .s 39, .k 1, .s 1, .s 9, .k 2, .s 9, .k 2, .s 9, .k 2, .s 9, .s 8, .k 0, .s 9, .k 0, .s 9, .s 9, .k 2, .s 238, .s 238, .k 0, .s 238, .s 238, .s 238, .s 238, .s 238, .s 237, .s 237, .s 237, .k 0, .s 237, .s 237, .s 9, .s 9, .s 239, .s 237, .s 237, .s 237, .s 238, .s 238, .s 238, .s 238, .s 238, .s 238, .s 239, .k 0, .s 239, .s 239, .s 239, .s 9, .s 9, .s 239, .s 239, .s 239, .s 241, .k 1, .s 2, .s 4, .s 4, .s 4, .s 4, .k 0, .s 4, .s 4, .k 1, .s 243, .s 243, .k 0, .s 243, .s 243, .s 243, .s 243, .s 243, .s 242, .s 242, .s 242, .k 0, .s 242, .s 242, .s 4, .s 4, .s 244, .s 242, .s 242, .s 242, .s 243, .s 243, .s 243, .s 243, .s 243, .s 243, .s 244, .k 0, .s 244, .s 244, .s 244, .s 4, .s 4, .s 244, .s 244, .s 244, .s 246, .s 238, .s 243, .s 238, .k 0, .s 238, .s 243, .s 238, .s 243, .s 238, .s 243, .s 238, .s 243]
  | false => [.k 3, .s 1, .s 1, .k 0, .s 2, .s 2, .s 1, .s 0, .s 0, .k 0, .s 0, .s 5, .k 0, .s 5, .k 0, .s 5, .s 5, .s 5, .s 0, .s 5, .s 5, .s 7, .k 0, .s 2, .k 20, .s 9, .k 0, .s 9, .k 7, .s 11, .s 11, .s 11, .s 11, .s 11, .s 11, .k 5, .s 11, .k 3, .s 12, .s 12, .k 0, .s 12, .k 0, .s 9, .s 9, .k 0, .s 12, .s 12, .s 12, .s 12, .s 12, .s 12, .s 12, .s 12, .k 0, .s 12, .s 12, .s 12, .s 12, .k 2, .s 9, .k 0, .s 13, .k 0, .s 13, .s 9, .s 9, .k 0, .s 11, .s 9, .k 6, .s 9, .k 0, .s 9, .k 5, .s 9, .s 9, .k 0, .s 8, .k 1, .s 11, .s 11, .s 10, .s 10, .s 15, .s 10, .s 10, .s 10, .s 15, .s 14, .k 1, .s 14, .k 2, .s 17, .s 17, .s 17, .s 17, .s 17, .s 17, .k 0, .s 17, .k 1, .s 17, .k 1, .s 4, .k 11, .s 18, .s 18, .s 18, .s 18, .k 2, .s 18, .k 0, .s 4, .s 18, .s 18, .s 18, .s 4, .k 0, .s 4, .s 4, .k 0, .s 4, .s 4, .s 18, .s 18, .k 30, .s 18, .s 18, .k 3, .s 19, .s 19, .s 19, .s 19, .k 0, .s 19, .k 2, .s 19, .k 2, .s 17, .s 9, .k 2, .s 9, .k 3, .s 9, .k 3, .s 9, .k 0, .s 9, .k 4, .s 17, .k 3, .s 20, .s 20, .k 0, .s 20, .k 0, .s 9, .s 9, .k 0, .s 20, .s 20, .s 20, .s 20, .s 20, .s 20, .s 20, .s 20, .k 0, .s 20, .s 20, .s 20, .s 20, .k 2, .s 9, .k 0, .s 17, .s 21, .k 0, .s 21, .s 9, .k 0, .s 9, .s 9, .k 1, .s 9, .s 9, .k 0, .s 4, .s 4, .s 4, .s 4, .s 4, .s 4, .s 17, .s 16, .s 16, .k 0, .s 16, .k 0, .s 16, .s 16, .s 1, .s 1, .s 1, .s 9, .k 6, .s 22, .s 22, .k 22, .s 24, .k 0, .s 24, .k 7, .s 26, .s 26, .s 26, .s 26, .s 26, .s 26, .k 5, .s 26, .k 3, .s 27, .s 27, .k 0, .s 27, .k 0, .s 24, .s 24, .k 0, .s 27, .s 27, .s 27, .s 27, .s 27, .s 27, .s 27, .s 27, .k 0, .s 27, .s 27, .s 27, .s 27, .k 2, .s 24, .k 0, .s 28, .k 0, .s 28, .s 24, .s 24, .k 0, .s 26, .s 24, .k 6, .s 24, .k 0, .s 24, .k 5, .s 24, .s 24, .k 0, .s 23, .k 1, .s 26, .s 26, .s 25, .s 25, .s 30, .s 25, .s 25, .s 25, .s 30, .s 29, .k 1, .s 29, .k 2, .s 32, .s 32, .s 32, .s 32, .s 32, .s 32, .k 0, .s 32, .s 32, .s 31, .s 31, .k 0, .s 31, .k 0, .s 31, .s 31, .s 22, .s 22, .s 22, .s 9, .k 2, .s 9, .k 2, .s 9, .k 2, .s 9, .s 8, .k 0, .s 9, .k 0, .s 9, .s 9, .k 0, .s 33, .s 33, .k 0, .s 33, .s 33, .s 9, .s 9, .s 34, .k 0, .s 34, .k 0, .s 34, .s 34, .s 34, .s 9, .s 9, .s 34, .s 34, .s 34, .s 36, .s 22, .s 1, .s 9, .k 6, .s 37, .s 37, .k 22, .s 39, .k 0, .s 39, .k 7, .s 41, .s 41, .s 41, .s 41, .s 41, .s 41, .k 5, .s 41, .k 3, .s 42, .s 42, .k 0, .s 42, .k 0, .s 39, .s 39, .k 0, .s 42, .s 42, .s 42, .s 42, .s 42, .s 42, .s 42, .s 42, .k 0, .s 42, .s 42, .s 42, .s 42, .k 2, .s 39, .k 0, .s 43, .k 0, .s 43, .s 39, .s 39, .k 0, .s 41, .s 39, .k 6, .s 39, .k 0, .s 39, .k 5, .s 39, .s 39, .k 0, .s 38, .k 1, .s 41, .s 41, .s 40, .s 40, .s 45, .s 40, .s 40, .s 40, .s 45, .s 44, .k 1, .s 44, .k 2, .s 47, .s 47, .s 47, .s 47, .s 47, .s 47, .k 0, .s 47, .s 47, .s 46, .s 46, .k 0, .s 46, .k 0, .s 46, .s 46, .s 37, .s 37, .s 37, .s 9, .k 2, .s 9, .k 2, .s 9, .k 2, .s 9, .s 8, .k 0, .s 9, .k 0, .s 9, .s 9, .k 0, .s 48, .s 48, .k 0, .s 48, .s 48, .s 9, .s 9, .s 49, .k 0, .s 49, .k 0, .s 49, .s 49, .s 49, .s 9, .s 9, .s 49, .s 49, .s 49, .s 51, .s 37, .s 52, .s 52, .s 52, .k 0, .s 52, .s 53, .s 53, .k 0, .s 53, .s 53, .s 53, .s 52, .s 53, .s 53, .s 53, .k 0, .s 53, .s 53, .s 53, .s 52, .s 53, .s 53, .s 53, .k 0, .s 53, .s 53, .s 53, .s 52, .s 53, .s 53, .s 55, .s 1, .s 1, .s 1, .s 1, .s 1, .s 1, .k 21, .s 57, .k 0, .s 57, .k 7, .s 59, .s 59, .s 59, .s 59, .s 59, .s 59, .k 5, .s 59, .k 3, .s 60, .s 60, .k 0, .s 60, .k 0, .s 57, .s 57, .k 0, .s 60, .s 60, .s 60, .s 60, .s 60, .s 60, .s 60, .s 60, .k 0, .s 60, .s 60, .s 60, .s 60, .k 2, .s 57, .k 0, .s 61, .k 0, .s 61, .s 57, .s 57, .k 0, .s 59, .s 57, .k 6, .s 57, .k 0, .s 57, .k 5, .s 57, .s 57, .k 0, .s 56, .k 1, .s 59, .s 59, .s 58, .s 58, .s 63, .s 58, .s 58, .s 58, .s 63, .s 62, .k 1, .s 62, .k 2, .s 65, .s 65, .s 65, .s 65, .s 65, .s 65, .k 0, .s 65, .s 65, .s 64, .s 64, .k 0, .s 64, .k 0, .s 64, .s 64, .s 9, .s 57, .k 3, .s 9, .k 6, .s 66, .s 66, .s 66, .s 66, .k 2, .s 66, .k 1, .s 57, .k 21, .s 68, .k 0, .s 68, .k 7, .s 70, .s 70, .s 70, .s 70, .s 70, .s 70, .k 5, .s 70, .k 3, .s 71, .s 71, .k 0, .s 71, .k 0, .s 68, .s 68, .k 0, .s 71, .s 71, .s 71, .s 71, .s 71, .s 71, .s 71, .s 71, .k 0, .s 71, .s 71, .s 71, .s 71, .k 2, .s 68, .k 0, .s 72, .k 0, .s 72, .s 68, .s 68, .k 0, .s 70, .s 68, .k 6, .s 68, .k 0, .s 68, .k 5, .s 68, .s 68, .k 0, .s 67, .k 1, .s 70, .s 70, .s 69, .s 69, .s 74, .s 69, .s 69, .s 69, .s 74, .s 73, .k 1, .s 73, .k 2, .s 76, .s 76, .s 76, .s 76, .s 76, .s 76, .k 0, .s 76, .s 76, .s 75, .s 75, .k 0, .s 75, .k 0, .s 75, .s 75, .s 66, .s 66, .s 66, .s 9, .k 2, .s 9, .k 2, .s 9, .k 2, .s 9, .s 8, .k 0, .s 9, .k 0, .s 9, .s 9, .k 0, .s 77, .s 77, .k 0, .s 77, .s 77, .s 9, .s 9, .s 78, .k 0, .s 78, .k 0, .s 78, .s 78, .s 78, .s 9, .s 9, .s 78, .s 78, .s 78, .s 80, .s 66, .s 57, .k 2, .s 57, .k 2, .s 57, .k 2, .s 57, .s 56, .k 0, .s 57, .k 0, .s 57, .s 57, .k 0, .s 81, .s 81, .k 0, .s 81, .s 81, .s 57, .s 57, .s 82, .k 0, .s 82, .k 0, .s 82, .s 82, .s 82, .s 57, .s 57, .s 82, .s 82, .s 82, .s 84, .s 66, .s 1, .k 21, .s 87, .k 0, .s 87, .k 7, .s 89, .s 89, .s 89, .s 89, .s 89, .s 89, .k 5, .s 89, .k 3, .s 90, .s 90, .k 0, .s 90, .k 0, .s 87, .s 87, .k 0, .s 90, .s 90, .s 90, .s 90, .s 90, .s 90, .s 90, .s 90, .k 0, .s 90, .s 90, .s 90, .s 90, .k 2, .s 87, .k 0, .s 91, .k 0, .s 91, .s 87, .s 87, .k 0, .s 89, .s 87, .k 6, .s 87, .k 0, .s 87, .k 5, .s 87, .s 87, .k 0, .s 86, .k 1, .s 89, .s 89, .s 88, .s 88, .s 93, .s 88, .s 88, .s 88, .s 93, .s 92, .k 1, .s 92, .k 2, .s 95, .s 95, .s 95, .s 95, .s 95, .s 95, .k 0, .s 95, .s 95, .s 94, .s 94, .k 0, .s 94, .k 0, .s 94, .s 94, .s 1, .s 87, .s 9, .k 3, .s 87, .k 6, .s 96, .s 96, .s 96, .s 96, .k 2, .s 96, .k 1, .s 9, .k 21, .s 98, .k 0, .s 98, .k 7, .s 100, .s 100, .s 100, .s 100, .s 100, .s 100, .k 5, .s 100, .k 3, .s 101, .s 101, .k 0, .s 101, .k 0, .s 98, .s 98, .k 0, .s 101, .s 101, .s 101, .s 101, .s 101, .s 101, .s 101, .s 101, .k 0, .s 101, .s 101, .s 101, .s 101, .k 2, .s 98, .k 0, .s 102, .k 0, .s 102, .s 98, .s 98, .k 0, .s 100, .s 98, .k 6, .s 98, .k 0, .s 98, .k 5, .s 98, .s 98, .k 0, .s 97, .k 1, .s 100, .s 100, .s 99, .s 99, .s 104, .s 99, .s 99, .s 99, .s 104, .s 103, .k 1, .s 103, .k 2, .s 106, .s 106, .s 106, .s 106, .s 106, .s 106, .k 0, .s 106, .s 106, .s 105, .s 105, .k 0, .s 105, .k 0, .s 105, .s 105, .s 96, .s 96, .s 96, .s 87, .k 2, .s 87, .k 2, .s 87, .k 2, .s 87, .s 86, .k 0, .s 87, .k 0, .s 87, .s 87, .k 0, .s 107, .s 107, .k 0, .s 107, .s 107, .s 87, .s 87, .s 108, .k 0, .s 108, .k 0, .s 108, .s 108, .s 108, .s 87, .s 87, .s 108, .s 108, .s 108, .s 110, .s 96, .s 9, .k 2, .s 9, .k 2, .s 9, .k 2, .s 9, .s 8, .k 0, .s 9, .k 0, .s 9, .s 9, .k 0, .s 111, .s 111, .k 0, .s 111, .s 111, .s 9, .s 9, .s 112, .k 0, .s 112, .k 0, .s 112, .s 112, .s 112, .s 9, .s 9, .s 112, .s 112, .s 112, .s 114, .s 96, .s 116, .s 116, .k 0, .s 116, .s 117, .k 0, .s 117, .k 0, .s 117, .s 117, .s 117, .s 116, .s 117, .s 117, .s 117, .s 85, .s 85, .s 85, .k 0, .s 85, .s 118, .s 118, .k 0, .s 118, .s 118, .s 118, .s 85, .s 118, .s 118, .s 118, .k 0, .s 118, .s 118, .s 118, .s 85, .s 118, .s 118, .s 118, .k 0, .s 118, .s 118, .s 118, .s 85, .s 118, .s 118, .s 120, .s 3, .s 3, .s 1, .s 1, .k 1, .s 3, .k 0, .s 24, .k 2, .s 1, .k 0, .s 68, .k 2, .s 3, .s 24, .k 2, .s 24, .k 2, .s 24, .k 2, .s 24, .s 23, .k 0, .s 24, .k 0, .s 24, .s 24, .k 2, .s 122, .s 122, .k 0, .s 122, .s 122, .s 122, .s 122, .s 122, .s 121, .s 121, .s 121, .k 0, .s 121, .s 121, .s 24, .s 24, .s 123, .s 121, .s 121, .s 121, .s 122, .s 122, .s 122, .s 122, .s 122, .s 122, .s 123, .k 0, .s 123, .s 123, .s 123, .s 24, .s 24, .s 123, .s 123, .s 123, .s 125, .k 1, .s 1, .s 68, .k 2, .s 68, .k 2, .s 68, .k 2, .s 68, .s 67, .k 0, .s 68, .k 0, .s 68, .s 68, .k 2, .s 127, .s 127, .k 0, .s 127, .s 127, .s 127, .s 127, .s 127, .s 126, .s 126, .s 126, .k 0, .s 126, .s 126, .s 68, .s 68, .s 128, .s 126, .s 126, .s 126, .s 127, .s 127, .s 127, .s 127, .s 127, .s 127, .s 128, .k 0, .s 128, .s 128, .s 128, .s 68, .s 68, .s 128, .s 128, .s 128, .s 130, .s 122, .s 127, .s 122, .k 0, .s 122, .s 127, .s 122, .s 127, .s 122, .s 127, .s 122, .s 127, .k 3, .s 3, .s 24, .k 2, .s 24, .k 2, .s 24, .k 2, .s 24, .s 23, .k 0, .s 24, .k 0, .s 24, .s 24, .k 2, .s 132, .s 132, .k 0, .s 132, .s 132, .s 132, .s 132, .s 132, .s 131, .s 131, .s 131, .k 0, .s 131, .s 131, .s 24, .s 24, .s 133, .s 131, .s 131, .s 131, .s 132, .s 132, .s 132, .s 132, .s 132, .s 132, .s 133, .k 0, .s 133, .s 133, .s 133, .s 24, .s 24, .s 133, .s 133, .s 133, .s 135, .s 132, .s 136, .s 132, .k 0, .s 132, .s 136, .s 132, .s 136, .k 0, .s 137, .s 137, .k 0, .s 137, .s 138, .s 139, .s 138, .k 0, .s 138, .s 138, .s 138, .s 137, .s 138, .s 138, .s 139, .s 139, .s 139, .s 139, .s 138, .k 0, .s 138, .s 138, .s 138, .s 137, .s 138, .s 138, .s 141, .s 139, .s 139, .s 139, .k 2, .s 3, .k 1, .s 142, .s 142, .k 0, .s 142, .s 142, .s 142, .s 142, .s 142, .s 24, .s 24, .k 2, .s 24, .k 3, .s 24, .k 0, .s 24, .s 24, .k 0, .s 24, .s 24, .s 143, .s 24, .k 2, .s 24, .k 0, .s 24, .k 0, .s 24, .k 3, .s 24, .k 0, .s 24, .s 143, .k 0, .s 143, .s 143, .s 143, .s 24, .s 24, .s 143, .s 143, .s 143, .s 145, .s 2, .s 4, .s 4, .k 0, .s 4, .s 4, .s 4, .s 4, .s 146, .k 0, .s 146, .s 146, .k 0, .s 146, .s 146, .s 146, .k 0, .s 146, .s 146, .s 146, .s 4, .s 4, .s 146, .s 146, .s 146, .s 150, .s 148, .s 142, .s 147, .s 142, .k 0, .s 142, .s 147, .s 142, .s 147, .s 142, .s 147, .s 142, .s 147, .s 117, .k 0, .s 117, .s 117, .s 117, .s 116, .s 117, .s 117, .s 117, .s 115, .s 115, .s 115, .k 0, .s 115, .s 151, .s 151, .k 0, .s 151, .s 151, .s 151, .s 115, .s 151, .s 151, .s 151, .k 0, .s 151, .s 151, .s 151, .s 115, .s 151, .s 151, .s 151, .k 0, .s 151, .s 151, .s 151, .s 115, .s 151, .s 151, .s 153, .s 3, .s 3, .s 1, .s 1, .k 1, .s 3, .k 0, .s 39, .k 2, .s 1, .k 0, .s 98, .k 2, .s 3, .s 39, .k 2, .s 39, .k 2, .s 39, .k 2, .s 39, .s 38, .k 0, .s 39, .k 0, .s 39, .s 39, .k 2, .s 155, .s 155, .k 0, .s 155, .s 155, .s 155, .s 155, .s 155, .s 154, .s 154, .s 154, .k 0, .s 154, .s 154, .s 39, .s 39, .s 156, .s 154, .s 154, .s 154, .s 155, .s 155, .s 155, .s 155, .s 155, .s 155, .s 156, .k 0, .s 156, .s 156, .s 156, .s 39, .s 39, .s 156, .s 156, .s 156, .s 158, .k 1, .s 1, .s 98, .k 2, .s 98, .k 2, .s 98, .k 2, .s 98, .s 97, .k 0, .s 98, .k 0, .s 98, .s 98, .k 2, .s 160, .s 160, .k 0, .s 160, .s 160, .s 160, .s 160, .s 160, .s 159, .s 159, .s 159, .k 0, .s 159, .s 159, .s 98, .s 98, .s 161, .s 159, .s 159, .s 159, .s 160, .s 160, .s 160, .s 160, .s 160, .s 160, .s 161, .k 0, .s 161, .s 161, .s 161, .s 98, .s 98, .s 161, .s 161, .s 161, .s 163, .s 155, .s 160, .s 155, .k 0, .s 155, .s 160, .s 155, .s 160, .s 155, .s 160, .s 155, .s 160, .k 3, .s 3, .s 39, .k 2, .s 39, .k 2, .s 39, .k 2, .s 39, .s 38, .k 0, .s 39, .k 0, .s 39, .s 39, .k 2, .s 165, .s 165, .k 0, .s 165, .s 165, .s 165, .s 165, .s 165, .s 164, .s 164, .s 164, .k 0, .s 164, .s 164, .s 39, .s 39, .s 166, .s 164, .s 164, .s 164, .s 165, .s 165, .s 165, .s 165, .s 165, .s 165, .s 166, .k 0, .s 166, .s 166, .s 166, .s 39, .s 39, .s 166, .s 166, .s 166, .s 168, .s 165, .s 169, .s 165, .k 0, .s 165, .s 169, .s 165, .s 169, .k 0, .s 170, .s 170, .k 0, .s 170, .s 171, .s 172, .s 171, .k 0, .s 171, .s 171, .s 171, .s 170, .s 171, .s 171, .s 172, .s 172, .s 172, .s 172, .s 171, .k 0, .s 171, .s 171, .s 171, .s 170, .s 171, .s 171, .s 174, .s 172, .s 172, .s 172, .k 2, .s 3, .k 1, .s 175, .s 175, .k 0, .s 175, .s 175, .s 175, .s 175, .s 175, .s 39, .s 39, .k 2, .s 39, .k 3, .s 39, .k 0, .s 39, .s 39, .k 0, .s 39, .s 39, .s 176, .s 39, .k 2, .s 39, .k 0, .s 39, .k 0, .s 39, .k 3, .s 39, .k 0, .s 39, .s 176, .k 0, .s 176, .s 176, .s 176, .s 39, .s 39, .s 176, .s 176, .s 176, .s 178, .s 2, .s 4, .s 4, .k 0, .s 4, .s 4, .s 4, .s 4, .s 179, .k 0, .s 179, .s 179, .k 0, .s 179, .s 179, .s 179, .k 0, .s 179, .s 179, .s 179, .s 4, .s 4, .s 179, .s 179, .s 179, .s 183, .s 181, .s 175, .s 180, .s 175, .k 0, .s 175, .s 180, .s 175, .s 180, .s 175, .s 180, .s 175, .s 180, .s 117, .k 0, .s 117, .s 117, .s 117, .s 116, .s 117, .s 117, .s 185, .k 3, .s 186, .s 186, .k 0, .s 186, .s 186, .s 186, .s 186, .k 0, .s 186, .s 186, .s 186, .s 186, .s 187, .k 0, .s 187, .k 0, .s 187, .s 187, .s 187, .s 187, .s 187, .s 187, .s 187, .s 187, .s 1, .s 1, .s 1, .s 1, .s 24, .k 2, .s 24, .k 0, .s 24, .k 3, .s 24, .k 1, .s 24, .s 24, .s 24, .k 6, .s 188, .s 188, .s 188, .s 188, .k 0, .s 1, .s 1, .s 39, .k 2, .s 39, .k 0, .s 39, .k 3, .s 39, .k 1, .s 39, .s 39, .s 39, .k 6, .s 189, .s 189, .s 189, .s 189, .k 1, .s 2, .s 4, .s 4, .s 4, .s 4, .s 1, .k 0, .s 4, .k 0, .s 4, .k 0, .s 1, .s 1, .s 24, .k 2, .s 24, .k 3, .s 24, .k 1, .s 24, .s 187, .k 0, .s 187, .s 187, .s 187, .s 187, .s 187, .s 187, .s 187, .s 187, .s 1, .s 1, .s 1, .s 1, .s 24, .k 2, .s 24, .k 0, .s 24, .k 3, .s 24, .k 1, .s 24, .s 24, .s 24, .k 6, .s 190, .s 190, .s 190, .s 190, .k 0, .s 1, .s 1, .s 39, .k 2, .s 39, .k 0, .s 39, .k 3, .s 39, .k 1, .s 39, .s 39, .s 39, .k 6, .s 191, .s 191, .s 191, .s 191, .k 1, .s 2, .s 4, .s 4, .s 4, .s 4, .s 1, .k 0, .s 4, .k 0, .s 4, .k 0, .s 1, .s 1, .s 24, .k 2, .s 24, .k 3, .s 24, .k 1, .s 24, .s 187, .k 0, .s 187, .s 187, .s 187, .s 187, .s 187, .s 187, .s 187, .s 187, .s 1, .s 1, .s 1, .s 1, .s 24, .k 2, .s 24, .k 0, .s 24, .k 3, .s 24, .k 1, .s 24, .s 24, .s 24, .k 6, .s 192, .s 192, .s 192, .s 192, .k 0, .s 1, .s 1, .s 39, .k 2, .s 39, .k 0, .s 39, .k 3, .s 39, .k 1, .s 39, .s 39, .s 39, .k 6, .s 193, .s 193, .s 193, .s 193, .k 1, .s 2, .s 4, .s 4, .s 4, .s 4, .s 1, .k 0, .s 4, .k 0, .s 4, .k 0, .s 1, .s 1, .s 24, .k 2, .s 24, .k 3, .s 24, .k 1, .s 24, .s 187, .k 0, .s 187, .s 187, .s 187, .s 187, .s 187, .s 187, .s 187, .s 187, .s 1, .s 1, .s 1, .s 1, .s 24, .k 2, .s 24, .k 0, .s 24, .k 3, .s 24, .k 1, .s 24, .s 24, .s 24, .k 6, .s 194, .s 194, .s 194, .s 194, .k 0, .s 1, .s 1, .s 39, .k 2, .s 39, .k 0, .s 39, .k 3, .s 39, .k 1, .s 39, .s 39, .s 39, .k 6, .s 195, .s 195, .s 195, .s 195, .k 1, .s 2, .s 4, .s 4, .s 4, .s 4, .s 1, .k 0, .s 4, .k 0, .s 4, .k 0, .s 1, .s 1, .s 24, .k 2, .s 24, .k 3, .s 24, .k 1, .s 24, .s 187, .k 0, .s 187, .s 187, .s 187, .s 187, .s 187, .s 187, .s 187, .s 187, .s 1, .s 1, .s 1, .s 1, .s 24, .k 2, .s 24, .k 0, .s 24, .k 3, .s 24, .k 1, .s 24, .s 24, .s 24, .k 6, .s 196, .s 196, .s 196, .s 196, .k 0, .s 1, .s 1, .s 39, .k 2, .s 39, .k 0, .s 39, .k 3, .s 39, .k 1, .s 39, .s 39, .s 39, .k 6, .s 197, .s 197, .s 197, .s 197, .k 1, .s 2, .s 4, .s 4, .s 4, .s 4, .s 1, .k 0, .s 4, .k 0, .s 4, .k 0, .s 1, .s 1, .s 24, .k 2, .s 24, .k 3, .s 24, .k 1, .s 24, .s 187, .k 0, .s 187, .s 187, .s 187, .s 187, .s 199, .s 1, .s 9, .k 2, .s 9, .k 2, .s 9, .k 3, .s 9, .s 8, .k 3, .s 200, .s 200, .k 2, .s 200, .s 9, .k 2, .s 9, .k 2, .s 9, .k 2, .s 9, .s 8, .k 0, .s 9, .k 0, .s 9, .s 9, .k 1, .s 201, .s 201, .k 0, .s 201, .s 201, .s 9, .s 9, .s 202, .s 203, .s 202, .k 0, .s 202, .s 202, .s 202, .s 9, .s 9, .s 202, .s 202, .s 202, .s 205, .k 1, .s 2, .s 4, .s 4, .k 0, .s 4, .s 4, .s 4, .s 4, .s 206, .k 0, .s 206, .s 206, .k 0, .s 206, .s 206, .s 206, .k 0, .s 206, .s 206, .s 206, .s 4, .s 4, .s 206, .s 206, .s 206, .s 210, .s 208, .k 0, .s 207, .s 207, .k 0, .s 207, .s 211, .s 212, .s 211, .k 0, .s 211, .s 211, .s 211, .s 207, .s 211, .s 211, .s 214, .k 0, .s 1, .s 24, .k 2, .s 24, .k 2, .s 24, .k 3, .s 24, .s 23, .k 3, .s 215, .s 215, .k 2, .s 215, .s 24, .k 2, .s 24, .k 2, .s 24, .k 2, .s 24, .s 23, .k 0, .s 24, .k 0, .s 24, .s 24, .k 1, .s 216, .s 216, .k 0, .s 216, .s 216, .s 24, .s 24, .s 217, .s 218, .s 217, .k 0, .s 217, .s 217, .s 217, .s 24, .s 24, .s 217, .s 217, .s 217, .s 220, .s 1, .s 39, .k 2, .s 39, .k 2, .s 39, .k 3, .s 39, .s 38, .k 3, .s 221, .s 221, .k 2, .s 221, .s 39, .k 2, .s 39, .k 2, .s 39, .k 2, .s 39, .s 38, .k 0, .s 39, .k 0, .s 39, .s 39, .k 1, .s 222, .s 222, .k 0, .s 222, .s 222, .s 39, .s 39, .s 223, .s 224, .s 223, .k 0, .s 223, .s 223, .s 223, .s 39, .s 39, .s 223, .s 223, .s 223, .s 226, .k 0, .s 1, .s 9, .k 2, .s 9, .k 2, .s 9, .k 3, .s 9, .s 8, .k 3, .s 227, .s 227, .k 2, .s 227, .s 9, .k 2, .s 9, .k 2, .s 9, .k 2, .s 9, .s 8, .k 0, .s 9, .k 0, .s 9, .s 9, .k 1, .s 228, .s 228, .k 0, .s 228, .s 228, .s 9, .s 9, .s 229, .s 230, .s 229, .k 0, .s 229, .s 229, .s 229, .s 9, .s 9, .s 229, .s 229, .s 229, .s 232, .k 0, .s 233, .s 233, .s 233, .k 0, .s 233, .s 234, .s 234, .k 0, .s 234, .s 234, .s 234, .s 233, .s 234, .s 234, .s 234, .k 0, .s 234, .s 234, .s 234, .s 233, .s 234, .s 234, .s 234, .k 0, .s 234, .s 234, .s 234, .s 233, .s 234, .s 234, .s 236, .s 1, .s 24, .k 0, .s 24, .k 3, .s 24, .k 0, .s 24, .s 24, .k 1, .s 24, .s 24, .s 24, .s 24, .s 1, .s 39, .k 0, .s 39, .k 3, .s 39, .k 0, .s 39, .s 39, .k 1, .s 39, .s 39, .s 39, .s 39, .k 1, .s 1, .s 9, .k 2, .s 9, .k 2, .s 9, .k 2, .s 9, .s 8, .k 0, .s 9, .k 0, .s 9, .s 9, .k 2, .s 238, .s 238, .k 0, .s 238, .s 238, .s 238, .s 238, .s 238, .s 237, .s 237, .s 237, .k 0, .s 237, .s 237, .s 9, .s 9, .s 239, .s 237, .s 237, .s 237, .s 238, .s 238, .s 238, .s 238, .s 238, .s 238, .s 239, .k 0, .s 239, .s 239, .s 239, .s 9, .s 9, .s 239, .s 239, .s 239, .s 241, .k 1, .s 2, .s 4, .s 4, .s 4, .s 4, .k 0, .s 4, .s 4, .k 1, .s 243, .s 243, .k 0, .s 243, .s 243, .s 243, .s 243, .s 243, .s 242, .s 242, .s 242, .k 0, .s 242, .s 242, .s 4, .s 4, .s 244, .s 242, .s 242, .s 242, .s 243, .s 243, .s 243, .s 243, .s 243, .s 243, .s 244, .k 0, .s 244, .s 244, .s 244, .s 4, .s 4, .s 244, .s 244, .s 244, .s 246, .s 238, .s 243, .s 238, .k 0, .s 238, .s 243, .s 238, .s 243, .s 238, .s 243, .s 238, .s 243]
noncomputable def nZero : Bool → Nat
  | true => 5598
  | false => 5628
theorem zeroRun :
    chk (tR tP (tW b c w) (KK (tW b c w)) [] (nZero c) (oZero c) (mkT [(1103, lsObj [] 0)]) 1 1104 [] 1771 [] (callStub PySem.Challenge.rw_io0001_02.name [.ref 1103]).cur (.builtin "claim.caller" {}) default [] [] []) mainEnds =
    chk' (tR tP (tW b c w) (KK (tW b c w)) [] (nZero c) (oZero c) (mkT [(1103, lsObj [] 0)]) 1 1104 [] 1771 [] (callStub PySem.Challenge.rw_io0001_02.name [.ref 1103]).cur (.builtin "claim.caller" {}) default [] [] [])
      (.pure (.done (.ret (.bool true))), .builtin "claim.caller" {}, [], [], some (1103, lsObj [] 0)) := by
  cases b <;> cases c <;> kernel_rfl
theorem zeroOk {M : Model} {K : Nat → Option Obj} : ∀ c, OpsOk M K (oZero c)
  | true => trivial
  | false => trivial
end Mine
namespace Mine
open PySem PySem.W PySem.Calls PyProof.Rows PySem.Spec

theorem ends_mine {prog : Program} {w : World} {t : Sem PySem.Fin} {s s' : Shared} {f : Flow} {p' : Pos} (hreg : s.asleep)
    (C : Comes (model prog w) s ⟨t, .builtin "claim.caller" {}, default, []⟩ s' ⟨.pure (.done f), .builtin "claim.caller" {}, p', []⟩) (hl : leftWithCleanup s'.gens = false) :
    ∃ n s'', runN (denote table) prog w n s ⟨t, .builtin "claim.caller" {}, default, []⟩ = .halted (outcomeOf (.ok f)) s'' ∧
      schedN (denote table) prog w n (.single s ⟨t, .builtin "claim.caller" {}, default, []⟩) = .halted (outcomeOf (.ok f)) s'' ∧ s''.forget = s'.forget := by
  obtain ⟨n, hn⟩ := C
  have hh : (model prog w).runN (n + 1) s ⟨t, .builtin "claim.caller" {}, default, []⟩ = .halted (outcomeOf (.ok f)) s' := by
    rw [runN_snoc hn]
    show (match (model prog w).step s' ⟨leafOf (.ok f), .builtin "claim.caller" {}, p', []⟩ with | .go a b => _ | .halt a b => _) = _
    rw [step_leaf_nil]
    simp only [finish, hl, Bool.false_eq_true, if_false]
  obtain ⟨s'', hs, hr, hf⟩ := runNI_full (model prog w).den (model prog w).prog (model prog w).w hh (outcomeOf_ends (.ok f)) hreg
  exact ⟨n + 1, s'', hr, hs, hf⟩

/-- the value of a script of ints, laid -/
noncomputable def ivs : List Int → Nat → List (Int × Nat)
  | [], _ => []
  | x :: r, t => (x, t) :: ivs r (t + 1)
theorem ivs_len : ∀ (ns : List Int) (t : Nat), (ivs ns t).length = ns.length
  | [], _ => rfl
  | _ :: r, t => by simp [ivs, ivs_len r]
theorem has_ints {R : WRecords} : ∀ {ds : List WData}, WShape.hasItems R ds .int = true → ∃ ns : List Int, ds = ns.map WData.int
  | [], _ => ⟨[], rfl⟩
  | d :: r, h => by
    unfold WShape.hasItems at h
    obtain ⟨h1, h2⟩ := Bool.and_eq_true_iff.mp h
    obtain ⟨ns, rfl⟩ := has_ints h2
    obtain ⟨n, rfl⟩ : ∃ n, d = WData.int n := by
      cases d <;> first | exact ⟨_, rfl⟩ | exact Bool.noConfusion h1
    exact ⟨n :: ns, rfl⟩
theorem has_list {R : WRecords} {args : List WData} (h : WShape.hasAll R args [.list .int] = true) : ∃ ns : List Int, args = [.list (ns.map WData.int)] := by
  cases args with
  | nil => exact Bool.noConfusion h
  | cons d r =>
    unfold WShape.hasAll at h
    obtain ⟨h1, h2⟩ := Bool.and_eq_true_iff.mp h
    cases r with
    | cons d' r' => exact Bool.noConfusion h2
    | nil =>
      obtain ⟨ds, rfl, h3⟩ : ∃ ds, d = WData.list ds ∧ WShape.hasItems R ds .int = true := by
        cases d <;> first | exact ⟨_, rfl, (Bool.or_false _).symm.trans h1⟩ | exact Bool.noConfusion h1
      obtain ⟨ns, rfl⟩ := has_ints h3
      exact ⟨ns, rfl⟩
theorem lay_ns {R : WRecords} {cl : Str → Option Addr} {P : Params} {ord : List DictEntry → List DictEntry} : ∀ (ns : List Int) (s : Shared),
    layAllW R cl P ord (ns.map WData.int) s = some ((ivs ns s.toks).map (fun x => Value.int x.1 x.2), { s with toks := s.toks + ns.length })
  | [], s => by simp [layAllW, ivs]
  | n :: ns, s => by
    simp only [List.map_cons, layAllW, layW]
    rw [lay_ns ns { s with toks := s.toks + 1 }]
    simp only [ivs, List.map_cons, List.length_cons, Option.some.injEq, Prod.mk.injEq, true_and]
    congr 1
    omega

theorem asmRow {l : OpenLaw} {q : Program} {loose : List Str} {kas : List Nat} {kl : Params → List (Nat × Obj)} {n0 t0 N : Nat} {d : DefRec} {kwd : List (Str × Expr)}
    (k1 : l.row.wellSaid = true) (left : LeftO l.prog q loose (fun _ => true) (fun s => (kas.map s.heap.get?, s.heap.objs.size, s.toks)) (fun w => ((kl w.params).map (fun x => some x.2), n0, t0)) N)
    (hkas : ∀ P, kas = (kl P).map (·.1)) (hdef : defOf q l.name = some (d, kwd)) (hp : l.prog.theDef l.name = some (d.params, d.body, d.scope)) (hk : kwWritten? d.params.kwonlyargs d.params.kw_defaults = some kwd)
    (ok : (chainsOk q && opensWell l.prog) = true) (hb : l.prog.bare) (hwr : l.writes = false) (hmost : l.most = some 63) (hw : l.row.toRowW.promised)
    (call : ∀ (w : World) (s : Shared) (ns : List Int), (∀ x ∈ kl w.params, s.heap.get? x.1 = some x.2) → s.heap.objs.size = n0 + 1 →
      s.heap.get? n0 = some ⟨.type "list", none, .seq ⟨(ivs ns t0).map fun x => Value.int x.1 x.2⟩ 0, #[]⟩ → s.gens = #[] → s.toks = t0 + ns.length → ns.length ≤ 63 →
      ∃ p' h' g' t', Comes (model l.prog w) s (callStub l.name [.ref n0]) { s with heap := h', gens := g', toks := t' } ⟨.pure (.done (.ret (.bool true))), .builtin "claim.caller" {}, p', []⟩ ∧
        (∀ b o, s.heap.get? b = some o → h'.get? b = some o) ∧ AllBare g') : l.row.Holds := by
  refine ⟨k1, hw, ?_⟩
  obtain ⟨hch, o1⟩ := Bool.and_eq_true_iff.mp ok
  have hwit := hw.witness
  refine ⟨⟨hb, o1, rfl⟩, hwit, fun w => ⟨(left.behind (XP := fun _ _ => True) (fun _ _ => trivial) hch w).1, fun s' hs' => ?_⟩⟩
  obtain ⟨s₀, hf, hg0, s, hT, hz, hgens, hg, G, y⟩ := (left.behind (XP := fun _ _ => True) (fun _ _ => trivial) hch w).2 s' hs'
  refine ⟨s₀, hf, hg0, s, hT, fun n hn => ?_, (fun x hx => nomatch hx), (fun x hx => nomatch hx), ?_⟩
  · obtain rfl : n = l.name := by
      have : n ∈ [l.name] := hn
      simpa using this
    exact pinned_of_view hg G hdef hp hk
  · have hgens : s.gens = #[] := Array.eq_empty_of_size_eq_zero (beq_iff_eq.mp hgens)
    intro args hpre hlay ord hord
    obtain ⟨ns, rfl⟩ := has_list (pre_splitW hpre).1
    simp only [Prod.mk.injEq] at y
    obtain ⟨y1, y2, y3⟩ := y
    have hlen : ns.length ≤ 63 := by
      have hp2 : (OpenLaw.pre l).holds [] { args := [WData.list (ns.map WData.int)] } = true := (pre_splitW hpre).2
      unfold OpenLaw.pre at hp2
      rw [hmost] at hp2
      by_cases hn : ns.length ≤ 63
      · exact hn
      · exfalso
        have hlt : decide ((63 : Int) < ((ns.map WData.int).length : Int)) = true := by
          rw [List.length_map]; exact decide_eq_true (by omega)
        have hv : WTm.value [] ((WTm.lit (WData.int ((63 : Nat) : Int))).lt (WTm.arg 0).len).not { args := [WData.list (ns.map WData.int)] } = some (.bool false) := by
          simp only [WTm.value, List.getElem?_cons_zero, W.less?, Num.less?, Option.map_some]
          rw [show ((63 : Nat) : Int) = 63 from rfl, hlt]; rfl
        simp only [WTm.holds] at hp2
        rw [WTm.value, hv] at hp2
        cases hp2
    have hk0 : ∀ x ∈ kl w.params, s.heap.get? x.1 = some x.2 := by
      rw [hkas w.params, List.map_map] at y1
      intro x hx
      have := List.map_inj_left.mp y1 x hx
      exact this
    let s₁ : Shared := { s with heap := s.heap.push ⟨.type "list", none, .seq ⟨(ivs ns s.toks).map fun x => Value.int x.1 x.2⟩ 0, #[]⟩, toks := s.toks + ns.length }
    have hlaid : layAllW [] (classAt s.heap) w.params ord [WData.list (ns.map WData.int)] s = some ([.ref s.heap.objs.size], s₁) := by
      simp only [layAllW, layW, lay_ns]
      rfl
    obtain ⟨p', h', g', t', C, keep, bare⟩ := call w s₁ ns (fun x hx => Heap.get?_push_of_some _ (hk0 x hx)) (by show (s.heap.push _).objs.size = _; rw [Heap.size_push, y2])
      (by show (s.heap.push _).get? n0 = _; rw [← y2, ← y3]; exact Heap.get?_push_size _ rfl) hgens (by show s.toks + ns.length = _; rw [y3]) hlen
    have hz₁ : s₁.asleep := Shared.asleep_of_life rfl hz
    obtain ⟨n, s'', hrun, hsched, hfo⟩ := ends_mine hz₁ C (leftWithCleanup_false_of_bare bare)
    obtain ⟨eh, _, _, eo, _⟩ := Shared.forget_eq hfo
    have keeps := layAllW_keeps _ _ _ hlaid
    have hal := layAllW_rest _ _ _ hlaid
    obtain ⟨as, hrd, hin, hold⟩ := reads_layAllW hord _ _ _ hlaid hlay s₁.heap (fun _ _ e => e)
    have L : Laid [] w s s₁ [WData.list (ns.map WData.int)] [.ref s.heap.objs.size] as := ⟨⟨ord, hord, hlaid⟩, hrd, hin, hold, keeps, hal.1.trans hgens, hal.2.2.1⟩
    have hpost : l.row.toRowW.claim.post [WData.list (ns.map WData.int)] (WData.bool true) [WData.list (ns.map WData.int)] = true := by
      show (WShape.has [] (.bool true) .bool && WTm.holds [] (.eq .res (.lit (.bool true))) { args := [WData.list (ns.map WData.int)], res := some (.bool true), after := [WData.list (ns.map WData.int)] }) = true
      rw [show WShape.has [] (.bool true) .bool = true from rfl, Bool.true_and]
      simp [WTm.holds, WTm.value, W.same]
    have g : GoodWG l.row.toRowW.claim (classAt s.heap) (ExcName.means s.heap) [WData.list (ns.map WData.int)] s₁ (.ok (.ret (.bool true))) { s₁ with heap := h', gens := g', toks := t' } :=
      ⟨.inl ⟨_, _, [], rfl, fun _ => rfl, ReadsW.bool true, hpost, fun _ => ⟨List.nodup_nil, fun _ hm => (nomatch hm)⟩⟩, OldK.of_keep keep, rfl, bare⟩
    have z := g.laid (c := l.row.toRowW.claim) rfl rfl (ident_freeW rfl rfl rfl) L
    have hcase := z.1.congr eh
    have hos : s''.os = s.os := eo.trans z.2.1
    have hlife : s''.heap.life = s.heap.life := (runN_life _ _ _ hrun).trans hal.2.2.2
    refine ⟨[.ref s.heap.objs.size], s₁, hlaid, n, outcomeOf (.ok (.ret (.bool true))), s'', ?_, ?_, (fun _ i x hx => by rw [hgens] at hx; simp at hx), (fun q => by rw [show l.row.writes = l.writes from rfl, hwr] at q; cases q), by rw [hlife], Shared.rest_eq hos⟩
    · rw [← y2] at hsched; exact hsched
    · rcases hcase with ⟨v, e, d1, d2, d3, d4, d5⟩ | ⟨e, ob, cls, er, d1, d2, d3, d4, d5⟩
      · cases e
        exact .inl ⟨_, rfl, d1, d2, d3, fun b o y _ => d4 b o y, d5⟩
      · cases er
end Mine
namespace Mine
open PySem PySem.W
theorem head_eq (w : World) : PySem.W.Fast.tw1099448937126117225 pw w = PySem.W.Fast.tw1116357689577336893 pw w := by kernel_rfl
end Mine
namespace Mine
open PySem PySem.W PySem.Calls PyProof.Rows PySem.Spec
theorem lhs_eq (w : World) : lhsP pw w = rhsP pw w := by
  have h := head_eq w
  rw [show PySem.W.Fast.tw1099448937126117225 = lhsP from PySem.W.Fast.te1099448937126117225.symm, show PySem.W.Fast.tw1116357689577336893 = rhsP from PySem.W.Fast.te1116357689577336893.symm] at h
  exact h
theorem left02 : LeftO pw qv loose (fun _ => true) (fun s => (kas.map s.heap.get?, s.heap.objs.size, s.toks)) (fun w => ((kl w.params).map (fun x => some x.2), 1103, 1771)) 100000 := by
  intro w
  obtain ⟨⟨s₀, s₁⟩, e, e2⟩ := Option.map_eq_some_iff.mp (lhs_eq w)
  obtain ⟨e3, e4⟩ := whole_spec e
  simp only [Prod.mk.injEq] at e2
  obtain ⟨a1, a2, a3, a4⟩ := e2
  have t : topFrom treeTable pw w 100000 s₀.abs = some s₁.abs := by
    unfold topFrom
    rw [a1, e4]
    show (match staticsOk (importedModules pw.main.body) s₀.abs.heap s₁.abs.heap && namesBound pw s₁.abs.heap && gensDone s₁.abs && laidKept s₀.abs.heap s₁.abs.heap with | true => _ | false => _) = _
    rw [a2]
  unfold openEnds
  rw [e3]
  show (topFrom treeTable pw w 100000 s₀.abs).map _ = _
  rw [t]
  show some (_, _) = some (_, _)
  change openSeen qv loose (importedModules pw.main.body) (fun _ => true) true s₁.abs = openGood qv loose at a3
  rw [a3]
  have hz : s₁.abs.heap.objs.size = s₁.n := absHeap_size ..
  unfold lv at a4
  simp only [Prod.mk.injEq] at a4
  obtain ⟨b1, b2, b3⟩ := a4
  have key : (kas.map s₁.abs.heap.get?, s₁.abs.heap.objs.size, s₁.abs.toks) = ((kl w.params).map (fun x => some x.2), 1103, 1771) := by
    rw [b1, hz, b2, show s₁.abs.toks = s₁.toks from rfl, b3]
  exact congrArg (fun z => some (openGood qv loose, z)) key
end Mine
namespace Mine
open PySem PySem.W PySem.Calls PyProof.Rows PySem.Spec
theorem fin02 (call : ∀ (w : World) (s : Shared) (ns : List Int), (∀ x ∈ kl w.params, s.heap.get? x.1 = some x.2) → s.heap.objs.size = 1103 + 1 →
      s.heap.get? 1103 = some ⟨.type "list", none, .seq ⟨(ivs ns 1771).map fun x => Value.int x.1 x.2⟩ 0, #[]⟩ → s.gens = #[] → s.toks = 1771 + ns.length → ns.length ≤ 63 →
      ∃ p' h' g' t', Comes (model pw w) s (callStub PySem.Challenge.rw_io0001_02.name [.ref 1103]) { s with heap := h', gens := g', toks := t' } ⟨.pure (.done (.ret (.bool true))), .builtin "claim.caller" {}, p', []⟩ ∧
        (∀ b o, s.heap.get? b = some o → h'.get? b = some o) ∧ AllBare g') (k1 : PySem.Challenge.rw_io0001_02.row.wellSaid = true) : PySem.Challenge.rw_io0001_02.row.Holds := by
  have hprom : PySem.Challenge.rw_io0001_02.row.toRowW.promised := ⟨[.list []], by decide +kernel, by decide +kernel⟩
  have ok : (chainsOk qv && opensWell PySem.Challenge.rw_io0001_02.prog) = true := by decide +kernel
  refine asmRow (q := qv) (loose := loose) (kas := kas) (kl := kl) (n0 := 1103) (t0 := 1771) (N := 100000) k1 left02 (fun _ => rfl) (by rfl) (by rfl) (by rfl) ok ⟨rfl, rfl, rfl, rfl, rfl, by decide +kernel⟩ rfl rfl hprom call
end Mine
namespace Mine
open PySem PySem.W PySem.Calls PyProof.Rows PySem.Spec
variable {b c : Bool} {w : World}
theorem fromRun {xs : List Value} {t N : Nat} {ops : List Op} (hm : model pw w = mdl tP (tW b c w)) {s : Shared} (hkk : ∀ a o, KK (tW b c w) a = some o → s.heap.get? a = some o) (hz : s.heap.objs.size = 1104) (h3 : s.heap.get? 1103 = some (lsObj xs 0)) (hg : s.gens = #[]) (ht : s.toks = t)
    (ok : OpsOk (mdl tP (tW b c w)) (KK (tW b c w)) ops) (e : chk (tR tP (tW b c w) (KK (tW b c w)) [] N ops (mkT [(1103, lsObj xs 0)]) 1 1104 [] t [] (callStub PySem.Challenge.rw_io0001_02.name [.ref 1103]).cur (.builtin "claim.caller" {}) default [] [] []) mainEnds = chk' (tR tP (tW b c w) (KK (tW b c w)) [] N ops (mkT [(1103, lsObj xs 0)]) 1 1104 [] t [] (callStub PySem.Challenge.rw_io0001_02.name [.ref 1103]).cur (.builtin "claim.caller" {}) default [] [] []) (.pure (.done (.ret (.bool true))), .builtin "claim.caller" {}, [], [], some (1103, lsObj xs 0))) :
    ∃ p' h' g' t', Comes (model pw w) s (callStub PySem.Challenge.rw_io0001_02.name [.ref 1103]) { s with heap := h', gens := g', toks := t' } ⟨.pure (.done (.ret (.bool true))), .builtin "claim.caller" {}, p', []⟩ ∧
      (∀ b o, s.heap.get? b = some o → h'.get? b = some o) ∧ AllBare g' := by
  obtain ⟨h, g, d, toks, os⟩ := s
  replace hg : g = #[] := hg
  replace ht : toks = t := ht
  subst hg ht
  obtain ⟨out, h', e1, C, _, c2, _, c4⟩ := go (d := d) (os := os) (bot := []) (ini := [(1103, lsObj xs 0)]) (F := []) rfl rfl hkk (fun q hq => by rw [List.mem_singleton.mp hq]; exact KK_none (Nat.le_refl _)) (fun q hq => by rw [List.mem_singleton.mp hq]; exact h3) (List.nodup_cons.mpr ⟨List.not_mem_nil, List.nodup_nil⟩) (fun l hl => nomatch hl) hz rfl rfl ok e
  simp only [mainEnds, Prod.mk.injEq] at e1
  obtain ⟨e1, e2, e3, e4, e5⟩ := e1
  rw [e1, e2, e3, e4] at C
  refine ⟨out.pos, h', #[], out.toks, ?_, fun a o ho => ?_, ?_⟩
  · rw [hm]
    exact C
  · by_cases ha : a = 1103
    · subst ha
      rw [show h.get? 1103 = _ from h3] at ho
      cases ho
      exact c2 0 _ _ e5
    · exact c4 a o ho (fun z => ha (List.mem_singleton.mp z))
  · intro g hg
    simp at hg
theorem call02 (w : World) (s : Shared) (ns : List Int) (hk : ∀ x ∈ kl w.params, s.heap.get? x.1 = some x.2) (hz : s.heap.objs.size = 1103 + 1)
    (h3 : s.heap.get? 1103 = some ⟨.type "list", none, .seq ⟨(ivs ns 1771).map fun x => Value.int x.1 x.2⟩ 0, #[]⟩) (hg : s.gens = #[]) (ht : s.toks = 1771 + ns.length) (_hl : ns.length ≤ 63) :
    ∃ p' h' g' t', Comes (model pw w) s (callStub PySem.Challenge.rw_io0001_02.name [.ref 1103]) { s with heap := h', gens := g', toks := t' } ⟨.pure (.done (.ret (.bool true))), .builtin "claim.caller" {}, p', []⟩ ∧
      (∀ b o, s.heap.get? b = some o → h'.get? b = some o) ∧ AllBare g' := by
  obtain ⟨b, c, hw⟩ := wb_self w
  have hm : model pw w = mdl tP (tW b c w) := by
    rw [tW_eq, hw, tP_eq]
    exact congrArg (fun t => (⟨denote t, pw, w⟩ : Model)) table_eq_tree
  have hkk : ∀ a o, KK (tW b c w) a = some o → s.heap.get? a = some o := fun a o q => by
    have q := kget_some q
    rw [tW_eq, hw, tK_eq] at q
    exact hk _ q
  cases ns with
  | nil => exact fromRun hm hkk hz h3 hg ht (zeroOk c) zeroRun
  | cons x0 nr =>
    generalize htt : 1771 + (x0 :: nr).length = t at ht
    obtain ⟨rem, hrem⟩ : ∃ rem, rem = ivs nr (1771 + 1) := ⟨_, rfl⟩
    obtain ⟨u0, hu0⟩ : ∃ u0, u0 = 1771 := ⟨_, rfl⟩
    replace h3 : s.heap.get? 1103 = some (lsObj (.int x0 u0 :: rem.map iv) 0) := by subst hrem hu0; exact h3
    obtain ⟨e0, er, ep, t1, v1, hgA, hG⟩ := goA_out x0 u0 rem (t + 1)
    obtain ⟨dA, hdA⟩ : ∃ dA, dA = 6 * (rem.length + 1) := ⟨_, rfl⟩
    have ne : (e0 :: er) ≠ [] := List.cons_ne_nil _ _
    obtain ⟨x1, y1, a1, p1, b1, q1, rs1, rp1, z1, d1, hg1, hk1⟩ : ∃ x1 y1 a1 p1 b1 q1 rs1 rp1 z1 d1, (posL (tW b c w).params 32 7 20 22 1137 1112 1125 1127 1111 1126 (e0 :: er).length ((t + 1 + dA) + 21) ((t + 1 + dA) + 32) (e0 :: er)).go (e0 :: er) ⟨.none, .none, none, [], 0⟩ (t + 1 + dA + 33) = (⟨x1, y1, some (a1, p1, b1, q1), rs1, rp1⟩, z1, d1) ∧ kvs rs1 = ((e0 :: er).filter fun e => decide (0 < e.v)).map (fun e => (e.k, e.v)) := posL_go _ ne hG.1
    obtain ⟨x2, y2, a2, p2, b2, q2, rs2, rp2, z2, d2, hg2, hk2⟩ : ∃ x2 y2 a2 p2 b2 q2 rs2 rp2 z2 d2, (negL (tW b c w).params 45 7 33 35 (z1 + 1152) 1112 (z1 + 1140) (z1 + 1142) 1111 (z1 + 1141) (e0 :: er).length ((t + 1 + dA + 33) + d1) ((t + 1 + dA + 33) + d1 + 11) (e0 :: er)).go (e0 :: er) ⟨.none, .none, none, [], 0⟩ (t + 1 + dA + 33 + d1 + 12) = (⟨x2, y2, some (a2, p2, b2, q2), rs2, rp2⟩, z2, d2) ∧ kvs rs2 = ((e0 :: er).filter fun e => decide (e.v < 0)).map (fun e => (e.k, 0 - e.v)) := negL_go _ ne hG.1
    obtain ⟨x3, y3, a3, p3, b3, q3, c3, r3, rs3, rp3, z3, d3, hg3, hk3⟩ : ∃ x3 y3 a3 p3 b3 q3 c3 r3 rs3 rp3 z3 d3, (addL (tW b c w).params 72 7 60 62 51 (z2 + (z1 + 1153) + 28) 1112 (z2 + (z1 + 1153) + 16) (z2 + (z1 + 1153) + 18) (z2 + (z1 + 1153) + 7) (z2 + (z1 + 1153) + 6) 1111 (z2 + (z1 + 1153) + 17) (e0 :: er).length 0 ((t + 1 + dA + 33 + d1 + 12) + d2 + 12) ((t + 1 + dA + 33 + d1 + 12) + d2 + 13) ((t + 1 + dA + 33 + d1 + 12) + d2 + 24) (e0 :: er) []).go (e0 :: er) ⟨.none, .none, none, [], 0⟩ (t + 1 + dA + 33 + d1 + 12 + d2 + 25) = (⟨x3, y3, some (a3, p3, b3, q3, c3, r3), rs3, rp3⟩, z3, d3) ∧ kvs rs3 = ((e0 :: er).filter fun e => decide (0 < e.v + 0)).map (fun e => (e.k, e.v + 0)) := addL_go _ ne hG.1
    obtain ⟨x4, y4, a4, p4, b4, q4, rs4, rp4, z4, d4, hg4, hk4⟩ : ∃ x4 y4 a4 p4 b4 q4 rs4 rp4 z4 d4, (subL (tW b c w).params 104 7 88 90 79 (z3 + (z2 + (z1 + 1153) + 29) + 33) 1112 (z3 + (z2 + (z1 + 1153) + 29) + 17) (z3 + (z2 + (z1 + 1153) + 29) + 19) (z3 + (z2 + (z1 + 1153) + 29) + 8) (z3 + (z2 + (z1 + 1153) + 29) + 7) 1111 (z3 + (z2 + (z1 + 1153) + 29) + 18) (e0 :: er).length 0 ((t + 1 + dA + 33 + d1 + 12 + d2 + 25) + d3 + 10) ((t + 1 + dA + 33 + d1 + 12 + d2 + 25) + d3 + 11) ((t + 1 + dA + 33 + d1 + 12 + d2 + 25) + d3 + 22) (e0 :: er) []).go (e0 :: er) ⟨.none, .none, none, [], 0⟩ (t + 1 + dA + 33 + d1 + 12 + d2 + 25 + d3 + 23) = (⟨x4, y4, some (a4, p4, b4, q4), rs4, rp4⟩, z4, d4) ∧ kvs rs4 = ((e0 :: er).filter fun e => decide (e.v < 0)).map (fun e => (e.k, 0 - e.v)) := subL_go _ ne hG.1
    have H : Parts (e0 :: er) rs1 rs2 rs3 rs4 := ⟨hG.1, hk1, hk2, hk3, hk4⟩
    have h5 := good_len hG
    have l1 := H.len1
    have l2 := H.len2
    have l3 := H.len3
    have l4 := H.len4
    obtain ⟨w0, ws0, hws0, hmin0⟩ := min_list (rs := rs1) ((t + 1 + dA + 33 + d1 + 12 + d2 + 25 + d3 + 23 + d4) + 1) H.pos1
    obtain ⟨aepa, vca, zca, dca, hc0⟩ := cmpL_go (P := (tW b c w).params) (i0 := 29) (i1 := 6) (i2 := 30) (i3 := 31) (i4 := 4) (i5 := 7) (it := (rs3.length + (rs1.length + ((z4 + (z3 + (z2 + (z1 + 44) + 29) + 34) + 5) + 1115) + 5)) + 17) (a := (rs3.length + (rs1.length + ((z4 + (z3 + (z2 + (z1 + 44) + 29) + 34) + 5) + 1115) + 5)) + 18) (L := (rs3.length + (rs1.length + ((z4 + (z3 + (z2 + (z1 + 44) + 29) + 34) + 5) + 1115) + 5)) + 19) (pa := 24) (da := 1126) (rp := rp1) (ep := ep) (es := e0 :: er) (rs := rs1) ((t + 1 + dA + 33 + d1 + 12 + d2 + 25 + d3 + 23 + d4) + 5) ne
    obtain ⟨s1, hs1⟩ : ∃ s1, zca + ((rs3.length + (rs1.length + ((z4 + (z3 + (z2 + (z1 + 44) + 29) + 34) + 5) + 1115) + 5)) + 20) + 2 = s1 + 1109 := ⟨zca + ((rs3.length + (rs1.length + ((z4 + (z3 + (z2 + (z1 + 44) + 29) + 34) + 5) + 1115) + 5)) + 20) + 2 - 1109, by omega⟩
    obtain ⟨w1, ws1, hws1, hmin1⟩ := min_list (rs := rs2) (((t + 1 + dA + 33 + d1 + 12 + d2 + 25 + d3 + 23 + d4) + 5 + dca) + 1) H.pos2
    obtain ⟨aepb, vcb, zcb, dcb, hc1⟩ := cmpL_go (P := (tW b c w).params) (i0 := 29) (i1 := 6) (i2 := 30) (i3 := 31) (i4 := 4) (i5 := 7) (it := (rs4.length + (rs2.length + (s1 + 1115) + 5)) + 17) (a := (rs4.length + (rs2.length + (s1 + 1115) + 5)) + 18) (L := (rs4.length + (rs2.length + (s1 + 1115) + 5)) + 19) (pa := (z1 + 39)) (da := (z1 + 1141)) (rp := rp2) (ep := ep) (es := e0 :: er) (rs := rs2) (((t + 1 + dA + 33 + d1 + 12 + d2 + 25 + d3 + 23 + d4) + 5 + dca) + 5) ne
    have H0 : PTok (tW b c w).params (z4 + (z3 + (z2 + (z1 + 1153) + 29) + 34) + 4) (z4 + (z3 + (z2 + (z1 + 1153) + 29) + 34) + 3) (z3 + (z2 + (z1 + 1153) + 29) + 6) 24 (z2 + (z1 + 50) + 18) 0 1126 (z2 + (z1 + 1153) + 17) rp1 rp3 ep aepa zca dca [.ref (z3 + (z2 + (z1 + 1153) + 29) + 6), .ref (z4 + (z3 + (z2 + (z1 + 1153) + 29) + 34) + 2)] (e0 :: er) rs1 rs3 w0 vca ws0 (((e0 :: er).filter fun e => (esFind rs1 e.k).isSome).map fun e => (e.k, e.t)) (z4 + (z3 + (z2 + (z1 + 44) + 29) + 34) + 5) (t + 1 + dA + 33 + d1 + 12 + d2 + 25 + d3 + 23 + d4) := ⟨rfl, by omega, by omega, by omega, by omega, by omega, by omega, H.same1, hws0, hmin0, by rw [keys_filter H.nd H.p1, List.map_map]; rfl, hc0⟩
    have H1 : PTok (tW b c w).params (z4 + (z3 + (z2 + (z1 + 1153) + 29) + 34) + 4) (z4 + (z3 + (z2 + (z1 + 1153) + 29) + 34) + 3) (z4 + (z3 + (z2 + (z1 + 1153) + 29) + 34) + 2) (z1 + 39) (z3 + (z2 + (z1 + 50) + 29) + 19) 1 (z1 + 1141) (z3 + (z2 + (z1 + 1153) + 29) + 18) rp2 rp4 ep aepb zcb dcb [.ref (z3 + (z2 + (z1 + 1153) + 29) + 6), .ref (z4 + (z3 + (z2 + (z1 + 1153) + 29) + 34) + 2)] (e0 :: er) rs2 rs4 w1 vcb ws1 (((e0 :: er).filter fun e => (esFind rs2 e.k).isSome).map fun e => (e.k, e.t)) s1 ((t + 1 + dA + 33 + d1 + 12 + d2 + 25 + d3 + 23 + d4) + 5 + dca) := ⟨rfl, by omega, by omega, by omega, by omega, by omega, by omega, H.same2, hws1, hmin1, by rw [keys_filter H.nd H.p2, List.map_map]; rfl, hc1⟩
    obtain ⟨Z5, hZ⟩ : ∃ Z5, Z5 + ((z4 + (z3 + (z2 + (z1 + 44) + 29) + 34) + 5) + 1109) = zcb + ((rs4.length + (rs2.length + (s1 + 1115) + 5)) + 20) + 4 := ⟨zcb + ((rs4.length + (rs2.length + (s1 + 1115) + 5)) + 20) + 4 - ((z4 + (z3 + (z2 + (z1 + 44) + 29) + 34) + 5) + 1109), by omega⟩
    obtain ⟨D5, hD⟩ : ∃ D5, D5 = 5 + dca + (5 + dcb) := ⟨_, rfl⟩
    obtain ⟨vk, zr, dr, hg7⟩ : ∃ vk zr dr, (rgL (tW b c w).params 109 1 2 4 22 35 (Z5 + (z4 + (z3 + (z2 + (z1 + 1153) + 29) + 34) + 5) + 1) 24 (z1 + 39) 1126 (z1 + 1141) rp1 rp2 ep (t + 1 + dA + 33 + d1 + 12 + d2 + 25 + d3 + 23 + d4) (.ref (z3 + (z2 + (z1 + 1153) + 29) + 19)) ⟨t, t1, t + 1 + dA + 20, t + 1 + dA + 33 + d1 + 12 + d2, t + 1 + dA + 33 + d1 + 12 + d2 + 1, v1, 1112, z1 + 1142, 1127⟩ (e0 :: er) rs1 rs2 e0).go [0, 1, 2, 3, 4] ⟨none⟩ (t + 1 + dA + 33 + d1 + 12 + d2 + 25 + d3 + 23 + d4 + D5 + 3) = (⟨some vk⟩, zr, dr) := rgL_go _ (H.apart _)
    obtain ⟨y0, ys, hy⟩ : ∃ y0 ys, vs (e0 :: er) = y0 :: ys := ⟨_, _, rfl⟩
    obtain ⟨aep', vk2, zt, dt, hg9⟩ : ∃ aep' vk2 zt dt, (totL (tW b c w).params 114 4 115 116 2 ((zr + (Z5 + (z4 + (z3 + (z2 + (z1 + 1153) + 29) + 34) + 5) + 2) + 2) + 6) ((zr + (Z5 + (z4 + (z3 + (z2 + (z1 + 1153) + 29) + 34) + 5) + 2) + 2) + 7) ((zr + (Z5 + (z4 + (z3 + (z2 + (z1 + 1153) + 29) + 34) + 5) + 2) + 2) + 8) ep (e0 :: er)).go (e0 :: er) ⟨[], 0, none⟩ (t + 1 + dA + 33 + d1 + 12 + d2 + 25 + d3 + 23 + d4 + D5 + 3 + dr + 2 + (e0 :: er).length) = (⟨nvs (vs (e0 :: er)), aep', some vk2⟩, zt, dt) := totL_go _ ne
    rw [hy] at hg9
    obtain ⟨sv1, hv1⟩ : ∃ v, v = sumV (vs (e0 :: er)) 0 := ⟨_, rfl⟩
    obtain ⟨usv1, hu1⟩ : ∃ v, v = sumT (vs (e0 :: er)) ((t + 1 + dA + 33 + d1 + 12 + d2 + 25 + d3 + 23 + d4 + D5 + 3 + dr) + 1) ((t + 1 + dA + 33 + d1 + 12 + d2 + 25 + d3 + 23 + d4 + D5 + 3 + dr) + 2) := ⟨_, rfl⟩
    obtain ⟨sv2, hv2⟩ : ∃ v, v = sumV (y0 :: ys) 0 := ⟨_, rfl⟩
    obtain ⟨usv2, hu2⟩ : ∃ v, v = sumT (y0 :: ys) (t + 1 + dA + 33 + d1 + 12 + d2 + 25 + d3 + 23 + d4 + D5 + 3 + dr + 2 + (e0 :: er).length + dt) ((t + 1 + dA + 33 + d1 + 12 + d2 + 25 + d3 + 23 + d4 + D5 + 3 + dr + 2 + (e0 :: er).length + dt) + 1) := ⟨_, rfl⟩
    obtain ⟨sv3, hv3⟩ : ∃ v, v = sumV (vs rs1) 0 := ⟨_, rfl⟩
    obtain ⟨usv3, hu3⟩ : ∃ v, v = sumT (vs rs1) ((t + 1 + dA + 33 + d1 + 12 + d2 + 25 + d3 + 23 + d4 + D5 + 3 + dr + 2 + (e0 :: er).length + dt + 1 + (y0 :: ys).length) + 1) ((t + 1 + dA + 33 + d1 + 12 + d2 + 25 + d3 + 23 + d4 + D5 + 3 + dr + 2 + (e0 :: er).length + dt + 1 + (y0 :: ys).length) + 2) := ⟨_, rfl⟩
    obtain ⟨sv4, hv4⟩ : ∃ v, v = sumV (vs rs2) 0 := ⟨_, rfl⟩
    obtain ⟨usv4, hu4⟩ : ∃ v, v = sumT (vs rs2) ((t + 1 + dA + 33 + d1 + 12 + d2 + 25 + d3 + 23 + d4 + D5 + 3 + dr + 2 + (e0 :: er).length + dt + 1 + (y0 :: ys).length + 2 + rs1.length) + 1) ((t + 1 + dA + 33 + d1 + 12 + d2 + 25 + d3 + 23 + d4 + D5 + 3 + dr + 2 + (e0 :: er).length + dt + 1 + (y0 :: ys).length + 2 + rs1.length) + 2) := ⟨_, rfl⟩
    obtain ⟨sv5, hv5⟩ : ∃ v, v = sumV (vs (e0 :: er)) 0 := ⟨_, rfl⟩
    obtain ⟨usv5, hu5⟩ : ∃ v, v = sumT (vs (e0 :: er)) ((t + 1 + dA + 33 + d1 + 12 + d2 + 25 + d3 + 23 + d4 + D5 + 3 + dr + 2 + (e0 :: er).length + dt + 1 + (y0 :: ys).length + 2 + rs1.length + 2 + rs2.length + 1) + 1) ((t + 1 + dA + 33 + d1 + 12 + d2 + 25 + d3 + 23 + d4 + D5 + 3 + dr + 2 + (e0 :: er).length + dt + 1 + (y0 :: ys).length + 2 + rs1.length + 2 + rs2.length + 1) + 2) := ⟨_, rfl⟩
    have h12 : sv1 = sv2 := by rw [hv1, hv2, hy]
    have h345 : sv3 - sv4 = sv5 := by rw [hv3, hv4, hv5]; exact H.total
    have ok : OpsOk (mdl tP (tW b c w)) (KK (tW b c w)) (oMain c (tW b c w).params x0 u0 (rem.map iv) e0 er t ep t1 dA v1 rs1 rp1 a1 b1 z1 d1 x1 y1 p1 q1 rs2 rp2 a2 b2 z2 d2 x2 y2 p2 q2 rs3 rp3 a3 b3 c3 z3 d3 x3 y3 p3 q3 r3 rs4 rp4 a4 b4 z4 d4 x4 y4 p4 q4 Z5 D5 vk zr dr sv1 sv2 sv3 sv4 sv5 usv1 usv2 usv3 usv4 usv5 aep' zt dt vk2 y0 ys) := by
      cases c <;> exact ⟨vU0 rem rfl hgA hdA, fun acts sz tok => mSupA_ok acts sz tok, fun acts sz tok => mSupA_ok acts sz tok, vU1 hG, fun acts sz tok => mSupA_ok acts sz tok, vU2 hG hg1, fun acts sz tok => mSupA_ok acts sz tok, vU3 hG hg2, fun acts sz tok => mSupA_ok acts sz tok, fun acts sz tok => mSupA_ok acts sz tok, vU4 hG hg3, fun acts sz tok => mSupA_ok acts sz tok, fun acts sz tok => mSupA_ok acts sz tok, vU5 hG hg4, vU6 H0 H1 hs1 hZ hD, vU7 H hg7, vU8 hv1 hu1, vU9 hG hg9, vU10 hv2 hu2, vU11 h12, vU12 hv3 hu3, vU13 hv4 hu4, vU14 hv5 hu5, vU15 h345, vU16 (Nat.le_trans H.len1 (good_len hG)), vU17 (Nat.le_trans H.len2 (good_len hG)), vM0, vU18 hG, vM1, vU19 hG, vU20 , trivial⟩
    exact fromRun hm hkk hz h3 hg ht ok (mainRun x0 u0 (rem.map iv) e0 er t ep t1 dA v1 rs1 rp1 a1 b1 z1 d1 x1 y1 p1 q1 rs2 rp2 a2 b2 z2 d2 x2 y2 p2 q2 rs3 rp3 a3 b3 c3 z3 d3 x3 y3 p3 q3 r3 rs4 rp4 a4 b4 z4 d4 x4 y4 p4 q4 Z5 D5 vk zr dr sv1 sv2 sv3 sv4 sv5 usv1 usv2 usv3 usv4 usv5 aep' zt dt vk2 y0 ys)
end Mine
namespace Mine
open PySem PySem.W
noncomputable def saidP (p : Program) : Bool := (⟨p, "law", ["Counter", "total"], 1, some 63, none, false⟩ : OpenLaw).wellSaid
end Mine
lay_quick Mine.saidP
namespace Mine
open PySem PySem.W
theorem said_eq : PySem.W.Fast.tw8935794307430482537 PySem.Challenge.pw_io0001_02 = true := by kernel_rfl
theorem said02 : PySem.Challenge.rw_io0001_02.wellSaid = true := by
  have h := said_eq
  rw [← PySem.W.Fast.te8935794307430482537] at h
  exact h
end Mine
open PySem PySem.W PyProof.Rows
theorem PySem.Challenge.cw_io0001_02_holds : PySem.Challenge.rw_io0001_02.Holds :=
  holds_law Mine.said02 fun said => Mine.fin02 Mine.call02 said
