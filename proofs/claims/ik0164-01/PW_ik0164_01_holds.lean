import PyProof.Rows.All
import Wide.All
import OpenK.AllK
import Wide.FinOn
import KE.KSortTup
import KE.KPairComp
import PySem.Sre
import Lean
import PySem.Challenge.RW_ik0164_01
set_option Elab.async false
section
open PySem PySem.W PyProof.Rows
set_option maxRecDepth 100000
namespace Mine
/-- the tree's stores, each handing on a tree that is written out -/
noncomputable def setK {α : Type} (t : BT) : Nat → (Obj → Obj) → (BT → α) → α :=
  @BT.rec (fun _ => Nat → (Obj → Obj) → (BT → α) → α) (fun _ _ k => k .nil)
    (fun v l r il ir i f k => @Bool.rec (fun _ => α) (@Bool.rec (fun _ => α) (ir (i / 2 - 1) f (fun r' => k (.node v l r'))) (il (i / 2) f (fun l' => k (.node v l' r))) (Nat.beq (i % 2) 1))
      (@Obj.rec (fun _ => α) (fun c d dt sl => k (.node ⟨c, d, dt, sl⟩ l r)) (f v)) (Nat.beq i 0)) t
noncomputable def insK {α : Type} (t : BT) : Nat → Obj → (BT → α) → α :=
  @BT.rec (fun _ => Nat → Obj → (BT → α) → α) (fun _ o k => @Obj.rec (fun _ => α) (fun c d dt sl => k (.node ⟨c, d, dt, sl⟩ .nil .nil)) o)
    (fun v l r il ir i o k => @Bool.rec (fun _ => α) (@Bool.rec (fun _ => α) (ir (i / 2 - 1) o (fun r' => k (.node v l r'))) (il (i / 2) o (fun l' => k (.node v l' r))) (Nat.beq (i % 2) 1))
      (k (.node o l r)) (Nat.beq i 0)) t
noncomputable def natK {α : Type} (n : Nat) (k : Nat → α) : α := @Nat.rec (fun _ => α) (k 0) (fun m _ => k (m + 1)) n
theorem natK_eq {α : Type} (n : Nat) (k : Nat → α) : natK n k = k n := by cases n <;> rfl
theorem setK_eq {α : Type} : ∀ (t : BT) (i : Nat) (f : Obj → Obj) (k : BT → α), setK t i f k = k (t.set i f)
  | .nil, _, _, _ => rfl
  | .node v l r, i, f, k => by
    have e1 : setK (.node v l r) i f k = @Bool.rec (fun _ => α) (@Bool.rec (fun _ => α) (setK r (i / 2 - 1) f (fun r' => k (.node v l r'))) (setK l (i / 2) f (fun l' => k (.node v l' r))) (Nat.beq (i % 2) 1)) (@Obj.rec (fun _ => α) (fun c d dt sl => k (.node ⟨c, d, dt, sl⟩ l r)) (f v)) (Nat.beq i 0) := rfl
    have e2 : BT.set (.node v l r) i f = match Nat.beq i 0 with
      | true => .node (f v) l r
      | false => match Nat.beq (i % 2) 1 with
        | true => .node v (l.set (i / 2) f) r
        | false => .node v l (r.set (i / 2 - 1) f) := rfl
    rw [e1, e2, setK_eq r, setK_eq l]
    cases Nat.beq i 0 <;> cases Nat.beq (i % 2) 1 <;> cases f v <;> rfl
theorem insK_eq {α : Type} : ∀ (t : BT) (i : Nat) (o : Obj) (k : BT → α), insK t i o k = k (t.ins i o)
  | .nil, _, o, _ => by cases o; rfl
  | .node v l r, i, o, k => by
    have e1 : insK (.node v l r) i o k = @Bool.rec (fun _ => α) (@Bool.rec (fun _ => α) (insK r (i / 2 - 1) o (fun r' => k (.node v l r'))) (insK l (i / 2) o (fun l' => k (.node v l' r))) (Nat.beq (i % 2) 1)) (k (.node o l r)) (Nat.beq i 0) := rfl
    have e2 : BT.ins (.node v l r) i o = match Nat.beq i 0 with
      | true => .node o l r
      | false => match Nat.beq (i % 2) 1 with
        | true => .node v (l.ins (i / 2) o) r
        | false => .node v l (r.ins (i / 2 - 1) o) := rfl
    rw [e1, e2, insK_eq r, insK_eq l]
    cases Nat.beq i 0 <;> cases Nat.beq (i % 2) 1 <;> rfl
/-- a step, the state handed on written out -/
noncomputable def stepK {β : Type} (stp : Program → World → Shared → Thread → Step) (p : Program) (w : World) (k : SharedT → Thread → Option β) : SharedT → Thread → Option β
  | ⟨T, n, life, gens, drawn, toks, os⟩, ⟨cur, code, pos, stack⟩ => match cur with
    | .load a _ kk => match Nat.blt a n with
      | true => match T.get a with
        | some o => match alive o with
          | some o' => k ⟨T, n, life, gens, drawn, toks, os⟩ ⟨kk o', code, pos, stack⟩
          | none => none
        | none => none
      | false => none
    | .update a _ f kk => match Nat.blt a n with
      | true => match T.get a with
        | some o => match alive o with
          | some _ => setK T a f fun T' => k ⟨T', n, life, gens, drawn, toks, os⟩ ⟨kk (), code, pos, stack⟩
          | none => none
        | none => none
      | false => none
    | .alloc o kk => insK T n o fun T' => match (T'.get n).isSome with
      | true => natK (n + 1) fun n' => k ⟨T', n', life, gens, drawn, toks, os⟩ ⟨kk n, code, pos, stack⟩
      | false => none
    | .loadIfAlive a kk => match Nat.blt a n with
      | true => match T.get a with
        | some o => k ⟨T, n, life, gens, drawn, toks, os⟩ ⟨kk (alive o), code, pos, stack⟩
        | none => none
      | false => k ⟨T, n, life, gens, drawn, toks, os⟩ ⟨kk none, code, pos, stack⟩
    | c => match stp p w ⟨{}, gens, drawn, toks, os⟩ ⟨c, code, pos, stack⟩ with
      | .go s' t' => natK s'.toks fun tk => k ⟨T, n, life, s'.gens, s'.drawn, tk, s'.os⟩ t'
      | .halt _ _ => none
section
variable {β : Type} {tb : String → Option Builtin} {p : Program} {w : World} {r : β}
theorem stepK_spec {den : Code → Sem Fin} {k : SharedT → Thread → Option β} {s : SharedT} {t : Thread} (h : stepK (step den) p w k s t = some r) : ∃ s' t', stepT den p w s t = some (s', t') ∧ k s' t' = some r := by
  obtain ⟨T, n, life, gens, drawn, toks, os⟩ := s
  obtain ⟨cur, code, pos, stack⟩ := t
  unfold stepK at h
  unfold stepT
  dsimp only at h ⊢
  cases cur with
  | load a q kk =>
    dsimp only at h ⊢
    cases e : Nat.blt a n with
    | false => rw [e] at h; cases h
    | true =>
      rw [e] at h
      dsimp only at h ⊢
      cases g : T.get a with
      | none => rw [g] at h; cases h
      | some o =>
        rw [g] at h
        dsimp only at h ⊢
        cases al : alive o with
        | none => rw [al] at h; cases h
        | some o' => rw [al] at h; exact ⟨_, _, rfl, h⟩
  | update a q f kk =>
    dsimp only at h ⊢
    cases e : Nat.blt a n with
    | false => rw [e] at h; cases h
    | true =>
      rw [e] at h
      dsimp only at h ⊢
      cases g : T.get a with
      | none => rw [g] at h; cases h
      | some o =>
        rw [g] at h
        dsimp only at h ⊢
        cases al : alive o with
        | none => rw [al] at h; cases h
        | some o' => rw [al] at h; dsimp only at h; rw [setK_eq] at h; exact ⟨_, _, rfl, h⟩
  | alloc o kk =>
    dsimp only at h ⊢
    rw [insK_eq] at h
    cases e : ((T.ins n o).get n).isSome with
    | false => rw [e] at h; cases h
    | true => rw [e] at h; dsimp only at h; rw [natK_eq] at h; exact ⟨_, _, rfl, h⟩
  | loadIfAlive a kk =>
    dsimp only at h ⊢
    cases e : Nat.blt a n with
    | false => rw [e] at h; exact ⟨_, _, rfl, h⟩
    | true =>
      rw [e] at h
      dsimp only at h ⊢
      cases g : T.get a with
      | none => rw [g] at h; cases h
      | some o => rw [g] at h; exact ⟨_, _, rfl, h⟩
  | _ =>
    dsimp only at h ⊢
    generalize step den p w _ _ = st at h ⊢
    cases st with
    | go s' t' => exact ⟨_, _, rfl, (natK_eq s'.toks (fun tk => k ⟨T, n, life, s'.gens, s'.drawn, tk, s'.os⟩ t')).symm.trans h⟩
    | halt _ _ => cases h
/-- the same by one small word a step -/
noncomputable def getK (t : BT) : Nat → Option Obj :=
  @BT.rec (fun _ => Nat → Option Obj) (fun _ => none) (fun v _ _ il ir i => @Bool.rec (fun _ => Option Obj) (@Bool.rec (fun _ => Option Obj) (ir (i / 2 - 1)) (il (i / 2)) (Nat.beq (i % 2) 1)) (some v) (Nat.beq i 0)) t
theorem getK_eq : ∀ (t : BT) (i : Nat), getK t i = t.get i
  | .nil, _ => rfl
  | .node v l r, i => by
    have e1 : getK (.node v l r) i = @Bool.rec (fun _ => Option Obj) (@Bool.rec (fun _ => Option Obj) (getK r (i / 2 - 1)) (getK l (i / 2)) (Nat.beq (i % 2) 1)) (some v) (Nat.beq i 0) := rfl
    have e2 : BT.get (.node v l r) i = match Nat.beq i 0 with
      | true => some v
      | false => match Nat.beq (i % 2) 1 with
        | true => l.get (i / 2)
        | false => r.get (i / 2 - 1) := rfl
    rw [e1, e2, getK_eq r, getK_eq l]
    cases Nat.beq i 0 <;> cases Nat.beq (i % 2) 1 <;> rfl
/-- the end of a run: how, and where it stands -/
abbrev RS := Option (Flow × SharedT × Code × Pos)
abbrev KS := SharedT → Thread → RS
abbrev HS := (Program → World → Shared → Thread → Step) → (Code → Sem PySem.Fin) → (Nat → Option Value → Thread → Bool) → Program → World → Nat → Option Value → KS → SharedT → Code → Pos → List Frame → RS
noncomputable def hGen (c : Sem PySem.Fin) : HS := fun stp _ ok p w n₀ ann ih s code pos stack =>
  @Option.rec Flow (fun _ => RS) (@Bool.rec (fun _ => RS) none (stepK stp p w ih s ⟨c, code, pos, stack⟩) (ok n₀ ann ⟨c, code, pos, stack⟩)) (fun f => some (f, s, code, pos)) (endAt 1 ⟨c, code, pos, stack⟩)
noncomputable def hLoad (a : Addr) (_ : Option Value) (kk : Obj → Sem PySem.Fin) : HS := fun _ _ _ _ _ _ _ ih s code pos stack =>
  @Bool.rec (fun _ => RS) none (@Option.rec Obj (fun _ => RS) none (fun o => @Option.rec Obj (fun _ => RS) none (fun o' => ih s ⟨kk o', code, pos, stack⟩) (alive o)) (getK s.tree a)) (Nat.blt a s.n)
noncomputable def hUpd (a : Addr) (q : Option Value) (f : Obj → Obj) (kk : Unit → Sem PySem.Fin) : HS := fun _ _ ok _ _ n₀ ann ih s code pos stack =>
  @Bool.rec (fun _ => RS) none (@Bool.rec (fun _ => RS) none (@Option.rec Obj (fun _ => RS) none (fun o => @Option.rec Obj (fun _ => RS) none (fun _ =>
    @SharedT.rec (fun _ => RS) (fun T n life gens drawn toks os => setK T a f fun T' => ih ⟨T', n, life, gens, drawn, toks, os⟩ ⟨kk (), code, pos, stack⟩) s) (alive o)) (getK s.tree a)) (Nat.blt a s.n)) (ok n₀ ann ⟨.update a q f kk, code, pos, stack⟩)
noncomputable def hAlloc (o : Obj) (kk : Addr → Sem PySem.Fin) : HS := fun _ _ _ _ _ _ _ ih s code pos stack =>
  @SharedT.rec (fun _ => RS) (fun T n life gens drawn toks os => insK T n o fun T' => @Bool.rec (fun _ => RS) none (natK (n + 1) fun n' => ih ⟨T', n', life, gens, drawn, toks, os⟩ ⟨kk n, code, pos, stack⟩) (getK T' n).isSome) s
noncomputable def hAt (q : Pos) (kk : Unit → Sem PySem.Fin) : HS := fun _ _ _ _ _ _ _ ih s code _ stack => ih s ⟨kk (), code, q, stack⟩
noncomputable def hRule (_ : String) (kk : Unit → Sem PySem.Fin) : HS := fun _ _ _ _ _ _ _ ih s code pos stack => ih s ⟨kk (), code, pos, stack⟩
noncomputable def hPoint (_ : List Value) (kk : Unit → Sem PySem.Fin) : HS := fun _ _ _ _ _ _ _ ih s code pos stack => ih s ⟨kk (), code, pos, stack⟩
noncomputable def hFresh (kk : Tok → Sem PySem.Fin) : HS := fun _ _ _ _ _ _ _ ih s code pos stack =>
  @SharedT.rec (fun _ => RS) (fun T n life gens drawn toks os => natK (toks + 1) fun tk => ih ⟨T, n, life, gens, drawn, tk, os⟩ ⟨kk toks, code, pos, stack⟩) s
noncomputable def hAsk (kk : Setting → Sem PySem.Fin) : HS := fun _ _ _ p w _ _ ih s code pos stack => ih s ⟨kk ⟨p, w.params⟩, code, pos, stack⟩
noncomputable def hDone (f : Flow) : HS := fun stp den ok p w n₀ ann ih s code pos stack => match stack with
  | [_] => some (f, s, code, pos)
  | .ret k _ _ _ c q _ :: fr :: rest => ih s ⟨k (.ok f), c, q, fr :: rest⟩
  | stack => hGen (.pure (.done f)) stp den ok p w n₀ ann ih s code pos stack
noncomputable def hAgain (c : Code) : HS := fun stp den ok p w n₀ ann ih s code pos stack => match stack with
  | .ret k h g l cd q kept :: rest => @Bool.rec (fun _ => RS) none (ih s ⟨den c, c, pos, .ret k h g l cd q (keptBy code c l kept) :: rest⟩) (ok n₀ ann ⟨.pure (.again c), code, pos, .ret k h g l cd q kept :: rest⟩)
  | stack => hGen (.pure (.again c)) stp den ok p w n₀ ann ih s code pos stack
noncomputable def hPure (f : PySem.Fin) : HS := match f with
  | .done f => hDone f
  | .again c => hAgain c
noncomputable def goH (cur : Sem PySem.Fin) : HS := match cur with
  | .load a q kk => hLoad a q kk
  | .update a q f kk => hUpd a q f kk
  | .alloc o kk => hAlloc o kk
  | .at q kk => hAt q kk
  | .rule t kk => hRule t kk
  | .point l kk => hPoint l kk
  | .fresh kk => hFresh kk
  | .ask kk => hAsk kk
  | .pure f => hPure f
  | c => hGen c
noncomputable def segH (stp : Program → World → Shared → Thread → Step) (den : Code → Sem PySem.Fin) (ok : Nat → Option Value → Thread → Bool) (p : Program) (w : World) (n₀ : Nat) (ann : Option Value) (N : Nat) : KS :=
  @Nat.rec (fun _ => KS) (fun _ _ => none) (fun _ ih s t => @Thread.rec (fun _ => RS) (fun cur code pos stack => goH cur stp den ok p w n₀ ann ih s code pos stack) t) N
def absR (x : Flow × SharedT × Code × Pos) : Flow × Shared × Code × Pos := (x.1, x.2.1.abs, x.2.2)
section
variable {n₀ : Nat} {ann : Option Value} {n : Nat} {ih : KS} {s : SharedT} {r : Flow × SharedT × Code × Pos} {r' : Flow × Shared × Code × Pos}
theorem seg_step {s' : SharedT} {t t' : Thread} (h1 : endAt 1 t = none) (h2 : stepOk n₀ ann t = true) (h3 : stepT (denote tb) p w s t = some (s', t')) (h : segRun tb p w n₀ ann 1 n s'.abs t' = some r') : segRun tb p w n₀ ann 1 (n + 1) s.abs t = some r' := by
  unfold segRun
  rw [h1]
  dsimp only
  rw [h2]
  dsimp only
  rw [stepT_spec h3]
  exact h
theorem end_none {cur : Sem PySem.Fin} {code : Code} {pos : Pos} {stack : List Frame} (h : ∀ f, cur ≠ .pure (.done f)) : endAt 1 ⟨cur, code, pos, stack⟩ = none := by
  unfold endAt
  split
  · rename_i f _ e; exact absurd e (h f)
  · rfl
theorem hGen_spec {c : Sem PySem.Fin} {code : Code} {pos : Pos} {stack : List Frame} (IH : ∀ s t r, ih s t = some r → segRun tb p w n₀ ann 1 n s.abs t = some (absR r))
    (h : hGen c (step (denote tb)) (denote tb) stepOk p w n₀ ann ih s code pos stack = some r) : segRun tb p w n₀ ann 1 (n + 1) s.abs ⟨c, code, pos, stack⟩ = some (absR r) := by
  unfold hGen at h
  cases e : endAt 1 ⟨c, code, pos, stack⟩ with
  | some f =>
    rw [e] at h
    have h : some (f, s, code, pos) = some r := h
    cases h
    unfold segRun
    rw [e]
    rfl
  | none =>
    rw [e] at h
    dsimp only at h
    cases q : stepOk n₀ ann ⟨c, code, pos, stack⟩ with
    | false => rw [q] at h; cases h
    | true =>
      rw [q] at h
      obtain ⟨s', t', a, b⟩ := stepK_spec h
      exact seg_step e q a (IH _ _ _ b)
theorem goH_spec {cur : Sem PySem.Fin} {code : Code} {pos : Pos} {stack : List Frame} (IH : ∀ s t r, ih s t = some r → segRun tb p w n₀ ann 1 n s.abs t = some (absR r))
    (h : goH cur (step (denote tb)) (denote tb) stepOk p w n₀ ann ih s code pos stack = some r) : segRun tb p w n₀ ann 1 (n + 1) s.abs ⟨cur, code, pos, stack⟩ = some (absR r) := by
  obtain ⟨T, m, life, gens, drawn, toks, os⟩ := s
  cases cur with
  | load a q kk =>
    have h : hLoad a q kk (step (denote tb)) (denote tb) stepOk p w n₀ ann ih ⟨T, m, life, gens, drawn, toks, os⟩ code pos stack = some r := h
    unfold hLoad at h
    dsimp only at h
    rw [getK_eq] at h
    cases e : Nat.blt a m with
    | false => rw [e] at h; cases h
    | true =>
      rw [e] at h
      dsimp only at h
      cases g : T.get a with
      | none => rw [g] at h; cases h
      | some o =>
        rw [g] at h
        dsimp only at h
        cases al : alive o with
        | none => rw [al] at h; cases h
        | some o' =>
          rw [al] at h
          exact seg_step (end_none fun _ h => nomatch h) rfl (by simp only [stepT, e, g, al]) (IH _ _ _ h)
  | update a q f kk =>
    have h : hUpd a q f kk (step (denote tb)) (denote tb) stepOk p w n₀ ann ih ⟨T, m, life, gens, drawn, toks, os⟩ code pos stack = some r := h
    unfold hUpd at h
    dsimp only at h
    rw [getK_eq] at h
    cases k : stepOk n₀ ann ⟨.update a q f kk, code, pos, stack⟩ with
    | false => rw [k] at h; cases h
    | true =>
      rw [k] at h
      dsimp only at h
      cases e : Nat.blt a m with
      | false => rw [e] at h; cases h
      | true =>
        rw [e] at h
        dsimp only at h
        cases g : T.get a with
        | none => rw [g] at h; cases h
        | some o =>
          rw [g] at h
          dsimp only at h
          cases al : alive o with
          | none => rw [al] at h; cases h
          | some o' =>
            rw [al] at h
            dsimp only at h
            rw [setK_eq] at h
            exact seg_step (end_none fun _ h => nomatch h) k (by simp only [stepT, e, g, al]) (IH _ _ _ h)
  | alloc o kk =>
    have h : hAlloc o kk (step (denote tb)) (denote tb) stepOk p w n₀ ann ih ⟨T, m, life, gens, drawn, toks, os⟩ code pos stack = some r := h
    unfold hAlloc at h
    dsimp only at h
    rw [insK_eq, getK_eq] at h
    cases e : ((T.ins m o).get m).isSome with
    | false => rw [e] at h; cases h
    | true =>
      rw [e] at h
      dsimp only at h
      rw [natK_eq] at h
      exact seg_step (end_none fun _ h => nomatch h) rfl (by simp only [stepT, e]) (IH _ _ _ h)
  | «at» q kk => exact seg_step (s' := ⟨T, m, life, gens, drawn, toks, os⟩) (end_none fun _ h => nomatch h) rfl rfl (IH _ _ _ h)
  | rule t kk => exact seg_step (s' := ⟨T, m, life, gens, drawn, toks, os⟩) (end_none fun _ h => nomatch h) rfl rfl (IH _ _ _ h)
  | point l kk => exact seg_step (s' := ⟨T, m, life, gens, drawn, toks, os⟩) (end_none fun _ h => nomatch h) rfl rfl (IH _ _ _ h)
  | fresh kk =>
    have h : hFresh kk (step (denote tb)) (denote tb) stepOk p w n₀ ann ih ⟨T, m, life, gens, drawn, toks, os⟩ code pos stack = some r := h
    unfold hFresh at h
    dsimp only at h
    rw [natK_eq] at h
    exact seg_step (s' := ⟨T, m, life, gens, drawn, toks + 1, os⟩) (end_none fun _ h => nomatch h) rfl rfl (IH _ _ _ h)
  | ask kk => exact seg_step (s' := ⟨T, m, life, gens, drawn, toks, os⟩) (end_none fun _ h => nomatch h) rfl rfl (IH _ _ _ h)
  | pure f =>
    cases f with
    | done f =>
      have h : hDone f (step (denote tb)) (denote tb) stepOk p w n₀ ann ih ⟨T, m, life, gens, drawn, toks, os⟩ code pos stack = some r := h
      unfold hDone at h
      split at h
      · cases h
        rfl
      · exact seg_step (s' := ⟨T, m, life, gens, drawn, toks, os⟩) rfl rfl rfl (IH _ _ _ h)
      · exact hGen_spec IH h
    | again c =>
      have h : hAgain c (step (denote tb)) (denote tb) stepOk p w n₀ ann ih ⟨T, m, life, gens, drawn, toks, os⟩ code pos stack = some r := h
      unfold hAgain at h
      split at h
      · rename_i k hh g l cd q kept rest _
        cases e : stepOk n₀ ann ⟨.pure (.again c), code, pos, .ret k hh g l cd q kept :: rest⟩ with
        | false => rw [e] at h; cases h
        | true =>
          rw [e] at h
          refine seg_step (s' := ⟨T, m, life, gens, drawn, toks, os⟩) (end_none fun _ h => nomatch h) e ?_ (IH _ _ _ h)
          show (match step (denote tb) p w ⟨{}, gens, drawn, toks, os⟩ ⟨.pure (.again c), code, pos, .ret k hh g l cd q kept :: rest⟩ with
            | .go s' t' => some ((⟨T, m, life, s'.gens, s'.drawn, s'.toks, s'.os⟩ : SharedT), t')
            | .halt _ _ => none) = _
          rw [PySem.W.step_again]
      · exact hGen_spec IH h
  | _ => exact hGen_spec IH h
theorem segH_spec : ∀ {N : Nat} {s : SharedT} {t : Thread} {r}, segH (step (denote tb)) (denote tb) stepOk p w n₀ ann N s t = some r → segRun tb p w n₀ ann 1 N s.abs t = some (absR r)
  | 0, _, _, _, h => by cases h
  | n + 1, s, t, r, h => by
    obtain ⟨cur, code, pos, stack⟩ := t
    exact goH_spec (ih := segH (step (denote tb)) (denote tb) stepOk p w n₀ ann n) (fun _ _ _ h => segH_spec h) h
end
noncomputable def impK (stp : Program → World → Shared → Thread → Step) (atx : Thread → Option (List Value)) (p : Program) (w : World) (k : SharedT → Option β) (N : Nat) : SharedT → Thread → Option β :=
  @Nat.rec (fun _ => SharedT → Thread → Option β) (fun _ _ => none) (fun _ ih s t =>
    @Option.rec _ (fun _ => Option β) (stepK stp p w ih s t) (fun l => @List.rec _ (fun _ => Option β) (k s) (fun _ _ _ => none) l) (atx t)) N
theorem impK_spec {k : SharedT → Option β} : ∀ {N : Nat} {s : SharedT} {t : Thread}, impK (step (denote tb)) Thread.atExitBegin p w k N s t = some r → ∃ s₁, importEnds tb p w N s.abs t = some s₁.abs ∧ k s₁ = some r
  | 0, _, _, h => by cases h
  | n + 1, s, t, h => by
    have h : @Option.rec _ (fun _ => Option β) (stepK (step (denote tb)) p w (impK (step (denote tb)) Thread.atExitBegin p w k n) s t) (fun l => @List.rec _ (fun _ => Option β) (k s) (fun _ _ _ => none) l) t.atExitBegin = some r := h
    unfold importEnds
    cases e : t.atExitBegin with
    | some l =>
      rw [e] at h
      cases l with
      | nil => exact ⟨s, rfl, h⟩
      | cons => cases h
    | none =>
      rw [e] at h
      obtain ⟨s', t', a, b⟩ := stepK_spec h
      obtain ⟨s₁, c, d⟩ := impK_spec b
      refine ⟨s₁, ?_, d⟩
      dsimp only
      rw [stepT_spec a]
      exact c
noncomputable def listK {α : Type} (l : List Obj) : (List Obj → α) → α :=
  @List.rec Obj (fun _ => (List Obj → α) → α) (fun k => k []) (fun o _ ih k => @Obj.rec (fun _ => α) (fun c d dt sl => ih (fun l' => k (⟨c, d, dt, sl⟩ :: l'))) o) l
theorem listK_eq {α : Type} : ∀ (l : List Obj) (k : List Obj → α), listK l k = k l
  | [], _ => rfl
  | o :: l, k => by
    have e : listK (o :: l) k = @Obj.rec (fun _ => α) (fun c d dt sl => listK l (fun l' => k (⟨c, d, dt, sl⟩ :: l'))) o := rfl
    rw [e]
    cases o
    exact listK_eq l _
noncomputable def treeK (k : BT → Nat → Option β) (l : List Obj) : BT → Nat → Option β :=
  @List.rec Obj (fun _ => BT → Nat → Option β) (fun T n => k T n) (fun o _ ih T n => insK T n o fun T' => @Bool.rec (fun _ => Option β) none (natK (n + 1) fun n' => ih T' n') (T'.get n).isSome) l
theorem treeK_spec {k : BT → Nat → Option β} : ∀ {l : List Obj} {T : BT} {n : Nat}, treeK k l T n = some r → ∃ T', (∀ life, absHeap T' (n + l.length) life = ⟨⟨(absHeap T n life).objs.toList ++ l⟩, life⟩) ∧ k T' (n + l.length) = some r
  | [], T, n, h => ⟨T, fun life => (by rw [List.append_nil]; rfl), h⟩
  | o :: l, T, n, h => by
    have h : (insK T n o fun T' => @Bool.rec (fun _ => Option β) none (natK (n + 1) fun n' => treeK k l T' n') (T'.get n).isSome) = some r := h
    rw [insK_eq] at h
    cases e : ((T.ins n o).get n).isSome with
    | false => rw [e] at h; cases h
    | true =>
      rw [e] at h
      have h : (natK (n + 1) fun n' => treeK k l (T.ins n o) n') = some r := h
      rw [natK_eq] at h
      obtain ⟨T', a, b⟩ := treeK_spec h
      refine ⟨T', fun life => ?_, ?_⟩
      · have a := a life
        rw [absHeap_ins e] at a
        rw [List.length_cons, show n + (l.length + 1) = n + 1 + l.length by omega, a]
        show Heap.mk _ _ = Heap.mk _ _
        congr 2
        show ((absHeap T n life).objs.push o).toList ++ l = _
        rw [Array.toList_push, List.append_assoc]
        rfl
      · rw [List.length_cons, show n + (l.length + 1) = n + 1 + l.length by omega]
        exact b
theorem absHeap_nil (life : Life) : absHeap .nil 0 life = ⟨⟨[]⟩, life⟩ := rfl
/-- a segment, run through: the objects as a list at both ends -/
noncomputable def segK (stp : Program → World → Shared → Thread → Step) (den : Code → Sem PySem.Fin) (ok : Nat → Option Value → Thread → Bool) (p : Program) (w : World) (n₀ : Nat) (ann : Option Value) (N : Nat) (l : List Obj) (life : Life) (gens : Array GenState) (drawn : Drawn) (toks : Nat) (os : OsState) (t : Thread) : Option (Flow × Shared × Code × Pos) :=
  treeK (fun T n => @Option.rec (Flow × SharedT × Code × Pos) (fun _ => Option (Flow × Shared × Code × Pos)) none (fun x => match x with
    | (f, ⟨T, n, life, gens, drawn, toks, os⟩, c, q) => listK (T.list n) fun l => some (f, ⟨⟨⟨l⟩, life⟩, gens, drawn, toks, os⟩, c, q)) (segH stp den ok p w n₀ ann N ⟨T, n, life, gens, drawn, toks, os⟩ t)) l .nil 0
theorem segK_spec {n₀ : Nat} {ann : Option Value} {N : Nat} {l : List Obj} {life : Life} {gens : Array GenState} {drawn : Drawn} {toks : Nat} {os : OsState} {t : Thread} {r' : Flow × Shared × Code × Pos}
    (h : segK (step (denote tb)) (denote tb) stepOk p w n₀ ann N l life gens drawn toks os t = some r') : segRun tb p w n₀ ann 1 N ⟨⟨⟨l⟩, life⟩, gens, drawn, toks, os⟩ t = some r' := by
  unfold segK at h
  obtain ⟨T, a, h⟩ := treeK_spec h
  have a := a life
  rw [absHeap_nil, Nat.zero_add] at a
  rw [Nat.zero_add] at h
  cases e : segH (step (denote tb)) (denote tb) stepOk p w n₀ ann N ⟨T, l.length, life, gens, drawn, toks, os⟩ t with
  | none => rw [e] at h; cases h
  | some x =>
    rw [e] at h
    obtain ⟨f, ⟨T', n', life', gens', drawn', toks', os'⟩, c, q⟩ := x
    dsimp only at h
    rw [listK_eq] at h
    have c' := segH_spec e
    have ab : (SharedT.mk T l.length life gens drawn toks os).abs = ⟨⟨⟨l⟩, life⟩, gens, drawn, toks, os⟩ := by
      show Shared.mk (absHeap T l.length life) _ _ _ _ = _
      rw [a]
      rfl
    rw [ab] at c'
    rw [c', ← h]
    rfl
/-- the opening and the fence -/
noncomputable def openK (stp : Program → World → Shared → Thread → Step) (atx : Thread → Option (List Value)) (fen : Program → Shared → Option Shared) (st : Program → Shared × Thread) (p : Program) (w : World) (N : Nat) : Option (Heap × Array GenState × Drawn × Nat) :=
  match st (opening p) with
  | (⟨⟨⟨l⟩, life⟩, gens, drawn, toks, os⟩, t) => treeK (fun T n => impK stp atx (opening p) w (fun S => match fen p S.abs with
      | none => none
      | some ⟨⟨⟨l⟩, life⟩, gens, drawn, toks, _⟩ => listK l fun l => some (⟨⟨l⟩, life⟩, gens, drawn, toks)) N ⟨T, n, life, gens, drawn, toks, os⟩ t) l .nil 0
theorem openK_spec {N : Nat} {r : Heap × Array GenState × Drawn × Nat} (h : openK (step (denote treeTable)) Thread.atExitBegin fenceModules? start p w N = some r) : (fencedOpening treeTable p w N).map (fun s => (s.heap, s.gens, s.drawn, s.toks)) = some r := by
  unfold openK at h
  cases e : start (opening p) with
  | mk s t =>
    rw [e] at h
    obtain ⟨⟨⟨l⟩, life⟩, gens, drawn, toks, os⟩ := s
    dsimp only at h
    obtain ⟨T, a, h⟩ := treeK_spec h
    have a := a life
    rw [absHeap_nil] at a
    have a : absHeap T (0 + l.length) life = ⟨⟨l⟩, life⟩ := a
    obtain ⟨S, b, h⟩ := impK_spec h
    have b' : importEnds treeTable (opening p) w N ⟨⟨⟨l⟩, life⟩, gens, drawn, toks, os⟩ t = some S.abs := by
      rw [← a]; exact b
    unfold fencedOpening
    rw [e]
    show ((Option.bind (importEnds treeTable (opening p) w N ⟨⟨⟨l⟩, life⟩, gens, drawn, toks, os⟩ t) (fenceModules? p))).map _ = _
    rw [b']
    show ((fenceModules? p S.abs)).map _ = _
    cases f : fenceModules? p S.abs with
    | none => rw [f] at h; cases h
    | some s₀ =>
      rw [f] at h
      obtain ⟨⟨⟨l₀⟩, life₀⟩, gens₀, drawn₀, toks₀, os₀⟩ := s₀
      dsimp only at h
      rw [listK_eq] at h
      exact h
end
end Mine
end
section
open PySem PySem.W PyProof.Rows
set_option maxRecDepth 100000
set_option maxHeartbeats 4000000
namespace Mine
/-- the n-th statement of the text -/
noncomputable def nthS : List Stmt → Nat → Option Stmt
  | [], _ => none
  | a :: _, 0 => some a
  | _ :: r, n + 1 => nthS r n
/-- the def that is the i-th statement -/
noncomputable def defS (i : Nat) : Option (Arguments × FuncBody × Scope) := match nthS PySem.Challenge.pw_ik0164_01.main.body i with
  | some (.FunctionDef _ a b _ _ _ sc _ _ _) => some (a, .stmts b, sc)
  | _ => none
abbrev FdAt (i : Nat) := { fd : FuncData // some (fd.params, fd.body, fd.scope) = defS i }
noncomputable def fd59 : FdAt 13 :=
  ⟨⟨(Str.ofString "unquote"), (Str.ofString "unquote"), ⟨_, _, _, _, _, _, _⟩, .stmts _, ⟨_, _, _, _, _⟩, 3, [], .none, .none, .none, .str (Str.ofString "cpy313.email.quoprimime") 1355, none, .ref 58, .none, 0⟩, rfl⟩
noncomputable def fd67 : FdAt 14 :=
  ⟨⟨(Str.ofString "header_encode"), (Str.ofString "header_encode"), ⟨_, _, _, _, _, _, _⟩, .stmts _, ⟨_, _, _, _, _⟩, 3, [], .ref 60, .none, .none, .str (Str.ofString "cpy313.email.quoprimime") 1355, none, .ref 66, .none, 0⟩, rfl⟩
noncomputable def fd79 : FdAt 18 :=
  ⟨⟨(Str.ofString "_unquote_match"), (Str.ofString "_unquote_match"), ⟨_, _, _, _, _, _, _⟩, .stmts _, ⟨_, _, _, _, _⟩, 3, [], .none, .none, .none, .str (Str.ofString "cpy313.email.quoprimime") 1355, none, .ref 78, .none, 0⟩, rfl⟩
noncomputable def fd86 : FdAt 19 :=
  ⟨⟨(Str.ofString "header_decode"), (Str.ofString "header_decode"), ⟨_, _, _, _, _, _, _⟩, .stmts _, ⟨_, _, _, _, _⟩, 3, [], .none, .none, .none, .str (Str.ofString "cpy313.email.quoprimime") 1355, none, .ref 85, .none, 0⟩, rfl⟩
noncomputable def fd98 : FdAt 22 :=
  ⟨⟨(Str.ofString "translate"), (Str.ofString "translate"), ⟨_, _, _, _, _, _, _⟩, .stmts _, ⟨_, _, _, _, _⟩, 3, [], .none, .none, .none, .str (Str.ofString "cpy313.fnmatch") 1894, none, .ref 97, .none, 0⟩, rfl⟩
noncomputable def fd110 : FdAt 25 :=
  ⟨⟨(Str.ofString "escape"), (Str.ofString "escape"), ⟨_, _, _, _, _, _, _⟩, .stmts _, ⟨_, _, _, _, _⟩, 3, [], .none, .none, .none, .str (Str.ofString "re") 1943, none, .ref 109, .none, 0⟩, rfl⟩
noncomputable def fd117 : FdAt 27 :=
  ⟨⟨(Str.ofString "_translate"), (Str.ofString "_translate"), ⟨_, _, _, _, _, _, _⟩, .stmts _, ⟨_, _, _, _, _⟩, 3, [], .none, .none, .none, .str (Str.ofString "cpy313.fnmatch") 2098, none, .ref 116, .none, 0⟩, rfl⟩
noncomputable def fd124 : FdAt 28 :=
  ⟨⟨(Str.ofString "_join_translated_parts"), (Str.ofString "_join_translated_parts"), ⟨_, _, _, _, _, _, _⟩, .stmts _, ⟨_, _, _, _, _⟩, 3, [], .none, .none, .none, .str (Str.ofString "cpy313.fnmatch") 2098, none, .ref 123, .none, 0⟩, rfl⟩
noncomputable def fd131 : FdAt 30 :=
  ⟨⟨(Str.ofString "_heapreplace_max"), (Str.ofString "_heapreplace_max"), ⟨_, _, _, _, _, _, _⟩, .stmts _, ⟨_, _, _, _, _⟩, 3, [], .none, .none, .none, .str (Str.ofString "cpy313.heapq") 2132, none, .ref 130, .none, 0⟩, rfl⟩
noncomputable def fd138 : FdAt 31 :=
  ⟨⟨(Str.ofString "_heapify_max"), (Str.ofString "_heapify_max"), ⟨_, _, _, _, _, _, _⟩, .stmts _, ⟨_, _, _, _, _⟩, 3, [], .none, .none, .none, .str (Str.ofString "cpy313.heapq") 2132, none, .ref 137, .none, 0⟩, rfl⟩
noncomputable def fd145 : FdAt 32 :=
  ⟨⟨(Str.ofString "_siftdown_max"), (Str.ofString "_siftdown_max"), ⟨_, _, _, _, _, _, _⟩, .stmts _, ⟨_, _, _, _, _⟩, 3, [], .none, .none, .none, .str (Str.ofString "cpy313.heapq") 2132, none, .ref 144, .none, 0⟩, rfl⟩
noncomputable def fd152 : FdAt 33 :=
  ⟨⟨(Str.ofString "_siftup_max"), (Str.ofString "_siftup_max"), ⟨_, _, _, _, _, _, _⟩, .stmts _, ⟨_, _, _, _, _⟩, 3, [], .none, .none, .none, .str (Str.ofString "cpy313.heapq") 2132, none, .ref 151, .none, 0⟩, rfl⟩
noncomputable def fd158 : FdAt 34 :=
  ⟨⟨(Str.ofString "nsmallest"), (Str.ofString "nsmallest"), ⟨_, _, _, _, _, _, _⟩, .stmts _, ⟨_, _, _, _, _⟩, 3, [], .ref 153, .none, .none, .str (Str.ofString "cpy313.heapq") 2132, none, .ref 157, .none, 0⟩, rfl⟩
noncomputable def fd163 : FdAt 36 :=
  ⟨⟨(Str.ofString "_law_rows"), (Str.ofString "_law_rows"), ⟨_, _, _, _, _, _, _⟩, .stmts _, ⟨_, _, _, _, _⟩, 3, [], .none, .none, .none, .str (Str.ofString "law_ik0164_01") 2183, none, .ref 162, .none, 0⟩, rfl⟩
noncomputable def fd168 : FdAt 37 :=
  ⟨⟨(Str.ofString "_law_word"), (Str.ofString "_law_word"), ⟨_, _, _, _, _, _, _⟩, .stmts _, ⟨_, _, _, _, _⟩, 3, [], .none, .none, .none, .str (Str.ofString "law_ik0164_01") 2183, none, .ref 167, .none, 0⟩, rfl⟩
noncomputable def fd173 : FdAt 38 :=
  ⟨⟨(Str.ofString "_law_written"), (Str.ofString "_law_written"), ⟨_, _, _, _, _, _, _⟩, .stmts _, ⟨_, _, _, _, _⟩, 3, [], .none, .none, .none, .str (Str.ofString "law_ik0164_01") 2183, none, .ref 172, .none, 0⟩, rfl⟩
noncomputable def fd178 : FdAt 39 :=
  ⟨⟨(Str.ofString "_law_expression"), (Str.ofString "_law_expression"), ⟨_, _, _, _, _, _, _⟩, .stmts _, ⟨_, _, _, _, _⟩, 3, [], .none, .none, .none, .str (Str.ofString "law_ik0164_01") 2183, none, .ref 177, .none, 0⟩, rfl⟩
noncomputable def fd183 : FdAt 40 :=
  ⟨⟨(Str.ofString "_law_open"), (Str.ofString "_law_open"), ⟨_, _, _, _, _, _, _⟩, .stmts _, ⟨_, _, _, _, _⟩, 3, [], .none, .none, .none, .str (Str.ofString "law_ik0164_01") 2183, none, .ref 182, .none, 0⟩, rfl⟩
noncomputable def fd188 : FdAt 41 :=
  ⟨⟨(Str.ofString "_law_count"), (Str.ofString "_law_count"), ⟨_, _, _, _, _, _, _⟩, .stmts _, ⟨_, _, _, _, _⟩, 3, [], .none, .none, .none, .str (Str.ofString "law_ik0164_01") 2183, none, .ref 187, .none, 0⟩, rfl⟩
noncomputable def fd193 : FdAt 42 :=
  ⟨⟨(Str.ofString "_law_takes"), (Str.ofString "_law_takes"), ⟨_, _, _, _, _, _, _⟩, .stmts _, ⟨_, _, _, _, _⟩, 3, [], .none, .none, .none, .str (Str.ofString "law_ik0164_01") 2183, none, .ref 192, .none, 0⟩, rfl⟩
noncomputable def fd200 : FdAt 43 :=
  ⟨⟨(Str.ofString "_law_holds"), (Str.ofString "_law_holds"), ⟨_, _, _, _, _, _, _⟩, .stmts _, ⟨_, _, _, _, _⟩, 3, [], .none, .none, .none, .str (Str.ofString "law_ik0164_01") 2183, none, .ref 199, .none, 0⟩, rfl⟩
noncomputable def fd207 : FdAt 44 :=
  ⟨⟨(Str.ofString "_law_well_told"), (Str.ofString "_law_well_told"), ⟨_, _, _, _, _, _, _⟩, .stmts _, ⟨_, _, _, _, _⟩, 3, [], .none, .none, .none, .str (Str.ofString "law_ik0164_01") 2183, none, .ref 206, .none, 0⟩, rfl⟩
noncomputable def fd212 : FdAt 45 :=
  ⟨⟨(Str.ofString "law"), (Str.ofString "law"), ⟨_, _, _, _, _, _, _⟩, .stmts _, ⟨_, _, _, _, _⟩, 3, [], .none, .none, .none, .str (Str.ofString "law_ik0164_01") 2183, none, .ref 211, .none, 0⟩, rfl⟩
noncomputable def ob2 (P : Params) : Obj := ⟨.none, none, .dict #[⟨PyData.keyHash P (Str.ofString "\x69mport.loaded._sre"), .str (Str.ofString "\x69mport.loaded._sre") 183, .bool true⟩, ⟨PyData.keyHash P (Str.ofString "class._frozen_importlib.BuiltinImporter"), .str (Str.ofString "class._frozen_importlib.BuiltinImporter") 185, .ref 14⟩, ⟨PyData.keyHash P (Str.ofString "watched.\x69mport"), .str (Str.ofString "watched.\x69mport") 206, .ref 18⟩, ⟨PyData.keyHash P (Str.ofString "class._frozen_importlib.ModuleSpec"), .str (Str.ofString "class._frozen_importlib.ModuleSpec") 216, .ref 22⟩, ⟨PyData.keyHash P (Str.ofString "sys.modules.booked-epoch"), .str (Str.ofString "sys.modules.booked-epoch") 245, .int 3 0⟩, ⟨PyData.keyHash P (Str.ofString "\x69mport.later-laid._sre"), .str (Str.ofString "\x69mport.later-laid._sre") 270, .bool true⟩, ⟨PyData.keyHash P (Str.ofString "watched.library"), .str (Str.ofString "watched.library") 272, .ref 27⟩, ⟨PyData.keyHash P (Str.ofString "watched.library-objects"), .str (Str.ofString "watched.library-objects") 0, .str (Str.ofString "\x0c") 0⟩, ⟨PyData.keyHash P (Str.ofString "watched.library-deep._sre"), .str (Str.ofString "watched.library-deep._sre") 273, .str (Str.ofString "\x04\x00\x00\x0b\x04\x00\x00\x0b\x04\x00\x00\x03\x04\x00\x00\x0b\x08\x04dict\x02") 0⟩] 9, #[]⟩
noncomputable def ob3 (P : Params) : Obj := ⟨.type "dict", none, .dict #[⟨PyData.keyHash P (Str.ofString "__name__"), .str (Str.ofString "__name__") 165, .str (Str.ofString "law_ik0164_01") 2183⟩, ⟨PyData.keyHash P (Str.ofString "__doc__"), .str (Str.ofString "__doc__") 166, .none⟩, ⟨PyData.keyHash P (Str.ofString "__package__"), .str (Str.ofString "__package__") 167, .none⟩, ⟨PyData.keyHash P (Str.ofString "__loader__"), .str (Str.ofString "__loader__") 168, .builtin "__main__.__loader__#opaque"⟩, ⟨PyData.keyHash P (Str.ofString "__spec__"), .str (Str.ofString "__spec__") 169, .none⟩, ⟨PyData.keyHash P (Str.ofString "__annotations__"), .str (Str.ofString "__annotations__") 170, .ref 6⟩, ⟨PyData.keyHash P (Str.ofString "__builtins__"), .str (Str.ofString "__builtins__") 171, .ref 4⟩, ⟨PyData.keyHash P (Str.ofString "__file__"), .str (Str.ofString "__file__") 173, .str (Str.ofString "/claim/cut.py") 172⟩, ⟨PyData.keyHash P (Str.ofString "__cached__"), .str (Str.ofString "__cached__") 174, .none⟩, ⟨PyData.keyHash P (Str.ofString "_sre"), .str (Str.ofString "_sre") 275, .ref 12⟩, ⟨PyData.keyHash P (Str.ofString "twin_re_1_quoprimime"), .str (Str.ofString "twin_re_1_quoprimime") 316, .ref 36⟩, ⟨PyData.keyHash P (Str.ofString "_QUOPRI_MAP"), .str (Str.ofString "_QUOPRI_MAP") 1344, .ref 39⟩, ⟨PyData.keyHash P (Str.ofString "_QUOPRI_HEADER_MAP"), .str (Str.ofString "_QUOPRI_HEADER_MAP") 1345, .ref 44⟩, ⟨PyData.keyHash P (Str.ofString "_QUOPRI_BODY_MAP"), .str (Str.ofString "_QUOPRI_BODY_MAP") 1346, .ref 46⟩, ⟨PyData.keyHash P (Str.ofString "ascii_lowercase"), .str (Str.ofString "ascii_lowercase") 1348, .str (Str.ofString "abcdefghijklmnopqrstuvwxyz") 1347⟩, ⟨PyData.keyHash P (Str.ofString "ascii_uppercase"), .str (Str.ofString "ascii_uppercase") 1350, .str (Str.ofString "ABCDEFGHIJKLMNOPQRSTUVWXYZ") 1349⟩, ⟨PyData.keyHash P (Str.ofString "ascii_letters"), .str (Str.ofString "ascii_letters") 1352, .str (Str.ofString "abcdefghijklmnopqrstuvwxyzABCDEFGHIJKLMNOPQRSTUVWXYZ") 1351⟩, ⟨PyData.keyHash P (Str.ofString "digits"), .str (Str.ofString "digits") 1354, .str (Str.ofString "0123456789") 1353⟩, ⟨PyData.keyHash P (Str.ofString "unquote"), .str (Str.ofString "unquote") 1860, .ref 59⟩, ⟨PyData.keyHash P (Str.ofString "header_encode"), .str (Str.ofString "header_encode") 1870, .ref 67⟩, ⟨PyData.keyHash P (Str.ofString "_QUOPRI_BODY_ENCODE_MAP"), .str (Str.ofString "_QUOPRI_BODY_ENCODE_MAP") 1871, .ref 69⟩, ⟨PyData.keyHash P (Str.ofString "_unquote_match"), .str (Str.ofString "_unquote_match") 1886, .ref 79⟩, ⟨PyData.keyHash P (Str.ofString "header_decode"), .str (Str.ofString "header_decode") 1893, .ref 86⟩, ⟨PyData.keyHash P (Str.ofString "twin_re_1_fnmatch"), .str (Str.ofString "twin_re_1_fnmatch") 1933, .ref 91⟩, ⟨PyData.keyHash P (Str.ofString "translate"), .str (Str.ofString "translate") 1942, .ref 98⟩, ⟨PyData.keyHash P (Str.ofString "_special_chars_map"), .str (Str.ofString "_special_chars_map") 2090, .ref 100⟩, ⟨PyData.keyHash P (Str.ofString "escape"), .str (Str.ofString "escape") 2097, .ref 110⟩, ⟨PyData.keyHash P (Str.ofString "_translate"), .str (Str.ofString "_translate") 2118, .ref 117⟩, ⟨PyData.keyHash P (Str.ofString "_join_translated_parts"), .str (Str.ofString "_join_translated_parts") 2131, .ref 124⟩, ⟨PyData.keyHash P (Str.ofString "_heapreplace_max"), .str (Str.ofString "_heapreplace_max") 2142, .ref 131⟩, ⟨PyData.keyHash P (Str.ofString "_heapify_max"), .str (Str.ofString "_heapify_max") 2151, .ref 138⟩, ⟨PyData.keyHash P (Str.ofString "_siftdown_max"), .str (Str.ofString "_siftdown_max") 2163, .ref 145⟩, ⟨PyData.keyHash P (Str.ofString "_siftup_max"), .str (Str.ofString "_siftup_max") 2176, .ref 152⟩, ⟨PyData.keyHash P (Str.ofString "nsmallest"), .str (Str.ofString "nsmallest") 2182, .ref 158⟩, ⟨PyData.keyHash P (Str.ofString "_law_rows"), .str (Str.ofString "_law_rows") 2190, .ref 163⟩, ⟨PyData.keyHash P (Str.ofString "_law_word"), .str (Str.ofString "_law_word") 2196, .ref 168⟩, ⟨PyData.keyHash P (Str.ofString "_law_written"), .str (Str.ofString "_law_written") 2202, .ref 173⟩, ⟨PyData.keyHash P (Str.ofString "_law_expression"), .str (Str.ofString "_law_expression") 2208, .ref 178⟩, ⟨PyData.keyHash P (Str.ofString "_law_open"), .str (Str.ofString "_law_open") 2214, .ref 183⟩, ⟨PyData.keyHash P (Str.ofString "_law_count"), .str (Str.ofString "_law_count") 2220, .ref 188⟩, ⟨PyData.keyHash P (Str.ofString "_law_takes"), .str (Str.ofString "_law_takes") 2226, .ref 193⟩, ⟨PyData.keyHash P (Str.ofString "_law_holds"), .str (Str.ofString "_law_holds") 2234, .ref 200⟩, ⟨PyData.keyHash P (Str.ofString "_law_well_told"), .str (Str.ofString "_law_well_told") 2244, .ref 207⟩, ⟨PyData.keyHash P (Str.ofString "law"), .str (Str.ofString "law") 2250, .ref 212⟩] 46, #[]⟩
noncomputable def ob35 (_ : Params) : Obj := ⟨.type "tuple", none, .seq #[.int 14 0, .int 8 0, .int 1 0, .int 3 0, .int 3 0, .int 1 0, .int 1 0, .int 61 0, .int 0 0, .int 16 0, .int 61 0, .int 24 0, .int 16 0, .int 2 0, .int 2 0, .int 13 0, .int 11 0, .int 9 0, .int 0 0, .int 67043328 0, .int 126 0, .int 126 0, .int 0 0, .int 0 0, .int 0 0, .int 0 0, .int 0 0, .int 1 0, .int 1 0] 0, #[]⟩
noncomputable def ob36 (_ : Params) : Obj := ⟨.type "re.Pattern", none, .fields #[.str (Str.ofString "=[a-fA-F0-9]{2}") 283, .int 256 315, .int 0 0, .none, .none, .ref 35, .int 0 0], #[]⟩
noncomputable def ob44 (_ : Params) : Obj := ⟨.type "list", none, .seq #[.str (Str.ofString "=00") 323, .str (Str.ofString "=01") 327, .str (Str.ofString "=02") 331, .str (Str.ofString "=03") 335, .str (Str.ofString "=04") 339, .str (Str.ofString "=05") 343, .str (Str.ofString "=06") 347, .str (Str.ofString "=07") 351, .str (Str.ofString "=08") 355, .str (Str.ofString "=09") 359, .str (Str.ofString "=0A") 363, .str (Str.ofString "=0B") 367, .str (Str.ofString "=0C") 371, .str (Str.ofString "=0D") 375, .str (Str.ofString "=0E") 379, .str (Str.ofString "=0F") 383, .str (Str.ofString "=10") 387, .str (Str.ofString "=11") 391, .str (Str.ofString "=12") 395, .str (Str.ofString "=13") 399, .str (Str.ofString "=14") 403, .str (Str.ofString "=15") 407, .str (Str.ofString "=16") 411, .str (Str.ofString "=17") 415, .str (Str.ofString "=18") 419, .str (Str.ofString "=19") 423, .str (Str.ofString "=1A") 427, .str (Str.ofString "=1B") 431, .str (Str.ofString "=1C") 435, .str (Str.ofString "=1D") 439, .str (Str.ofString "=1E") 443, .str (Str.ofString "=1F") 447, .str (Str.ofString "_") 1565, .str (Str.ofString "!") 1369, .str (Str.ofString "=22") 459, .str (Str.ofString "=23") 463, .str (Str.ofString "=24") 467, .str (Str.ofString "=25") 471, .str (Str.ofString "=26") 475, .str (Str.ofString "=27") 479, .str (Str.ofString "=28") 483, .str (Str.ofString "=29") 487, .str (Str.ofString "*") 1372, .str (Str.ofString "+") 1375, .str (Str.ofString "=2C") 499, .str (Str.ofString "-") 1366, .str (Str.ofString "=2E") 507, .str (Str.ofString "/") 1378, .str (Str.ofString "0") 1537, .str (Str.ofString "1") 1540, .str (Str.ofString "2") 1543, .str (Str.ofString "3") 1546, .str (Str.ofString "4") 1549, .str (Str.ofString "5") 1552, .str (Str.ofString "6") 1555, .str (Str.ofString "7") 1558, .str (Str.ofString "8") 1561, .str (Str.ofString "9") 1564, .str (Str.ofString "=3A") 555, .str (Str.ofString "=3B") 559, .str (Str.ofString "=3C") 563, .str (Str.ofString "=3D") 567, .str (Str.ofString "=3E") 571, .str (Str.ofString "=3F") 575, .str (Str.ofString "=40") 579, .str (Str.ofString "A") 1459, .str (Str.ofString "B") 1462, .str (Str.ofString "C") 1465, .str (Str.ofString "D") 1468, .str (Str.ofString "E") 1471, .str (Str.ofString "F") 1474, .str (Str.ofString "G") 1477, .str (Str.ofString "H") 1480, .str (Str.ofString "I") 1483, .str (Str.ofString "J") 1486, .str (Str.ofString "K") 1489, .str (Str.ofString "L") 1492, .str (Str.ofString "M") 1495, .str (Str.ofString "N") 1498, .str (Str.ofString "O") 1501, .str (Str.ofString "P") 1504, .str (Str.ofString "Q") 1507, .str (Str.ofString "R") 1510, .str (Str.ofString "S") 1513, .str (Str.ofString "T") 1516, .str (Str.ofString "U") 1519, .str (Str.ofString "V") 1522, .str (Str.ofString "W") 1525, .str (Str.ofString "X") 1528, .str (Str.ofString "Y") 1531, .str (Str.ofString "Z") 1534, .str (Str.ofString "=5B") 687, .str (Str.ofString "=5C") 691, .str (Str.ofString "=5D") 695, .str (Str.ofString "=5E") 699, .str (Str.ofString "=5F") 703, .str (Str.ofString "=60") 707, .str (Str.ofString "a") 1381, .str (Str.ofString "b") 1384, .str (Str.ofString "c") 1387, .str (Str.ofString "d") 1390, .str (Str.ofString "e") 1393, .str (Str.ofString "f") 1396, .str (Str.ofString "g") 1399, .str (Str.ofString "h") 1402, .str (Str.ofString "i") 1405, .str (Str.ofString "j") 1408, .str (Str.ofString "k") 1411, .str (Str.ofString "l") 1414, .str (Str.ofString "m") 1417, .str (Str.ofString "n") 1420, .str (Str.ofString "o") 1423, .str (Str.ofString "p") 1426, .str (Str.ofString "q") 1429, .str (Str.ofString "r") 1432, .str (Str.ofString "s") 1435, .str (Str.ofString "t") 1438, .str (Str.ofString "u") 1441, .str (Str.ofString "v") 1444, .str (Str.ofString "w") 1447, .str (Str.ofString "x") 1450, .str (Str.ofString "y") 1453, .str (Str.ofString "z") 1456, .str (Str.ofString "=7B") 815, .str (Str.ofString "=7C") 819, .str (Str.ofString "=7D") 823, .str (Str.ofString "=7E") 827, .str (Str.ofString "=7F") 831, .str (Str.ofString "=80") 835, .str (Str.ofString "=81") 839, .str (Str.ofString "=82") 843, .str (Str.ofString "=83") 847, .str (Str.ofString "=84") 851, .str (Str.ofString "=85") 855, .str (Str.ofString "=86") 859, .str (Str.ofString "=87") 863, .str (Str.ofString "=88") 867, .str (Str.ofString "=89") 871, .str (Str.ofString "=8A") 875, .str (Str.ofString "=8B") 879, .str (Str.ofString "=8C") 883, .str (Str.ofString "=8D") 887, .str (Str.ofString "=8E") 891, .str (Str.ofString "=8F") 895, .str (Str.ofString "=90") 899, .str (Str.ofString "=91") 903, .str (Str.ofString "=92") 907, .str (Str.ofString "=93") 911, .str (Str.ofString "=94") 915, .str (Str.ofString "=95") 919, .str (Str.ofString "=96") 923, .str (Str.ofString "=97") 927, .str (Str.ofString "=98") 931, .str (Str.ofString "=99") 935, .str (Str.ofString "=9A") 939, .str (Str.ofString "=9B") 943, .str (Str.ofString "=9C") 947, .str (Str.ofString "=9D") 951, .str (Str.ofString "=9E") 955, .str (Str.ofString "=9F") 959, .str (Str.ofString "=A0") 963, .str (Str.ofString "=A1") 967, .str (Str.ofString "=A2") 971, .str (Str.ofString "=A3") 975, .str (Str.ofString "=A4") 979, .str (Str.ofString "=A5") 983, .str (Str.ofString "=A6") 987, .str (Str.ofString "=A7") 991, .str (Str.ofString "=A8") 995, .str (Str.ofString "=A9") 999, .str (Str.ofString "=AA") 1003, .str (Str.ofString "=AB") 1007, .str (Str.ofString "=AC") 1011, .str (Str.ofString "=AD") 1015, .str (Str.ofString "=AE") 1019, .str (Str.ofString "=AF") 1023, .str (Str.ofString "=B0") 1027, .str (Str.ofString "=B1") 1031, .str (Str.ofString "=B2") 1035, .str (Str.ofString "=B3") 1039, .str (Str.ofString "=B4") 1043, .str (Str.ofString "=B5") 1047, .str (Str.ofString "=B6") 1051, .str (Str.ofString "=B7") 1055, .str (Str.ofString "=B8") 1059, .str (Str.ofString "=B9") 1063, .str (Str.ofString "=BA") 1067, .str (Str.ofString "=BB") 1071, .str (Str.ofString "=BC") 1075, .str (Str.ofString "=BD") 1079, .str (Str.ofString "=BE") 1083, .str (Str.ofString "=BF") 1087, .str (Str.ofString "=C0") 1091, .str (Str.ofString "=C1") 1095, .str (Str.ofString "=C2") 1099, .str (Str.ofString "=C3") 1103, .str (Str.ofString "=C4") 1107, .str (Str.ofString "=C5") 1111, .str (Str.ofString "=C6") 1115, .str (Str.ofString "=C7") 1119, .str (Str.ofString "=C8") 1123, .str (Str.ofString "=C9") 1127, .str (Str.ofString "=CA") 1131, .str (Str.ofString "=CB") 1135, .str (Str.ofString "=CC") 1139, .str (Str.ofString "=CD") 1143, .str (Str.ofString "=CE") 1147, .str (Str.ofString "=CF") 1151, .str (Str.ofString "=D0") 1155, .str (Str.ofString "=D1") 1159, .str (Str.ofString "=D2") 1163, .str (Str.ofString "=D3") 1167, .str (Str.ofString "=D4") 1171, .str (Str.ofString "=D5") 1175, .str (Str.ofString "=D6") 1179, .str (Str.ofString "=D7") 1183, .str (Str.ofString "=D8") 1187, .str (Str.ofString "=D9") 1191, .str (Str.ofString "=DA") 1195, .str (Str.ofString "=DB") 1199, .str (Str.ofString "=DC") 1203, .str (Str.ofString "=DD") 1207, .str (Str.ofString "=DE") 1211, .str (Str.ofString "=DF") 1215, .str (Str.ofString "=E0") 1219, .str (Str.ofString "=E1") 1223, .str (Str.ofString "=E2") 1227, .str (Str.ofString "=E3") 1231, .str (Str.ofString "=E4") 1235, .str (Str.ofString "=E5") 1239, .str (Str.ofString "=E6") 1243, .str (Str.ofString "=E7") 1247, .str (Str.ofString "=E8") 1251, .str (Str.ofString "=E9") 1255, .str (Str.ofString "=EA") 1259, .str (Str.ofString "=EB") 1263, .str (Str.ofString "=EC") 1267, .str (Str.ofString "=ED") 1271, .str (Str.ofString "=EE") 1275, .str (Str.ofString "=EF") 1279, .str (Str.ofString "=F0") 1283, .str (Str.ofString "=F1") 1287, .str (Str.ofString "=F2") 1291, .str (Str.ofString "=F3") 1295, .str (Str.ofString "=F4") 1299, .str (Str.ofString "=F5") 1303, .str (Str.ofString "=F6") 1307, .str (Str.ofString "=F7") 1311, .str (Str.ofString "=F8") 1315, .str (Str.ofString "=F9") 1319, .str (Str.ofString "=FA") 1323, .str (Str.ofString "=FB") 1327, .str (Str.ofString "=FC") 1331, .str (Str.ofString "=FD") 1335, .str (Str.ofString "=FE") 1339, .str (Str.ofString "=FF") 1343] 0, #[]⟩
noncomputable def ob53 (_ : Params) : Obj := ⟨.type "tuple", none, .seq #[] 0, #[]⟩
noncomputable def ob55 (_ : Params) : Obj := ⟨.type "tuple", none, .seq #[.str (Str.ofString "s") 1857] 0, #[]⟩
noncomputable def ob56 (_ : Params) : Obj := ⟨.type "tuple", none, .seq #[] 0, #[]⟩
noncomputable def ob58 (_ : Params) : Obj := ⟨.type "code", none, .fields #[.str (Str.ofString "unquote") 1854, .str (Str.ofString "unquote") 1855, .str (Str.ofString "/claim/cut.py") 1856, .int 16 0, .int 1 0, .int 0 0, .int 0 0, .int 3 0, .ref 53, .bool true, .int 276 0, .ref 54, .none, .ref 55, .ref 56, .ref 57, .int 1858 0, .int 16 0, .str (Str.ofString "/claim/cut.py") 1859], #[]⟩
noncomputable def ob59 (_ : Params) : Obj := ⟨.type "function", none, .func fd59.1, #[]⟩
noncomputable def ob60 (_ : Params) : Obj := ⟨.type "tuple", none, .seq #[.str (Str.ofString "iso-8859-1") 1861] 0, #[]⟩
noncomputable def ob61 (_ : Params) : Obj := ⟨.type "tuple", none, .seq #[] 0, #[]⟩
noncomputable def ob63 (_ : Params) : Obj := ⟨.type "tuple", none, .seq #[.str (Str.ofString "header_bytes") 1865, .str (Str.ofString "charset") 1866, .str (Str.ofString "encoded") 1867] 0, #[]⟩
noncomputable def ob64 (_ : Params) : Obj := ⟨.type "tuple", none, .seq #[] 0, #[]⟩
noncomputable def ob66 (_ : Params) : Obj := ⟨.type "code", none, .fields #[.str (Str.ofString "header_encode") 1862, .str (Str.ofString "header_encode") 1863, .str (Str.ofString "/claim/cut.py") 1864, .int 18 0, .int 2 0, .int 0 0, .int 0 0, .int 3 0, .ref 61, .bool true, .int 276 0, .ref 62, .none, .ref 63, .ref 64, .ref 65, .int 1868 0, .int 18 0, .str (Str.ofString "/claim/cut.py") 1869], #[]⟩
noncomputable def ob67 (_ : Params) : Obj := ⟨.type "function", none, .func fd67.1, #[]⟩
noncomputable def ob73 (_ : Params) : Obj := ⟨.type "tuple", none, .seq #[] 0, #[]⟩
noncomputable def ob75 (_ : Params) : Obj := ⟨.type "tuple", none, .seq #[.str (Str.ofString "match") 1882, .str (Str.ofString "s") 1883] 0, #[]⟩
noncomputable def ob76 (_ : Params) : Obj := ⟨.type "tuple", none, .seq #[] 0, #[]⟩
noncomputable def ob78 (_ : Params) : Obj := ⟨.type "code", none, .fields #[.str (Str.ofString "_unquote_match") 1879, .str (Str.ofString "_unquote_match") 1880, .str (Str.ofString "/claim/cut.py") 1881, .int 27 0, .int 1 0, .int 0 0, .int 0 0, .int 3 0, .ref 73, .bool true, .int 276 0, .ref 74, .none, .ref 75, .ref 76, .ref 77, .int 1884 0, .int 27 0, .str (Str.ofString "/claim/cut.py") 1885], #[]⟩
noncomputable def ob79 (_ : Params) : Obj := ⟨.type "function", none, .func fd79.1, #[]⟩
noncomputable def ob80 (_ : Params) : Obj := ⟨.type "tuple", none, .seq #[] 0, #[]⟩
noncomputable def ob82 (_ : Params) : Obj := ⟨.type "tuple", none, .seq #[.str (Str.ofString "s") 1890] 0, #[]⟩
noncomputable def ob83 (_ : Params) : Obj := ⟨.type "tuple", none, .seq #[] 0, #[]⟩
noncomputable def ob85 (_ : Params) : Obj := ⟨.type "code", none, .fields #[.str (Str.ofString "header_decode") 1887, .str (Str.ofString "header_decode") 1888, .str (Str.ofString "/claim/cut.py") 1889, .int 30 0, .int 1 0, .int 0 0, .int 0 0, .int 3 0, .ref 80, .bool true, .int 276 0, .ref 81, .none, .ref 82, .ref 83, .ref 84, .int 1891 0, .int 30 0, .str (Str.ofString "/claim/cut.py") 1892], #[]⟩
noncomputable def ob86 (_ : Params) : Obj := ⟨.type "function", none, .func fd86.1, #[]⟩
noncomputable def ob90 (_ : Params) : Obj := ⟨.type "tuple", none, .seq #[.int 14 0, .int 14 0, .int 4 0, .int 1 0, .int 1 0, .int 9 0, .int 0 0, .int 64 0, .int 0 0, .int 1342177280 0, .int 0 0, .int 0 0, .int 0 0, .int 0 0, .int 0 0, .int 17 0, .int 0 0, .int 13 0, .int 11 0, .int 9 0, .int 0 0, .int 64 0, .int 0 0, .int 1342177280 0, .int 0 0, .int 0 0, .int 0 0, .int 0 0, .int 0 0, .int 17 0, .int 1 0, .int 1 0] 0, #[]⟩
noncomputable def ob91 (_ : Params) : Obj := ⟨.type "re.Pattern", none, .fields #[.str (Str.ofString "([&~|])") 1897, .int 32 1932, .int 1 0, .none, .none, .ref 90, .int 0 0], #[]⟩
noncomputable def ob92 (_ : Params) : Obj := ⟨.type "tuple", none, .seq #[] 0, #[]⟩
noncomputable def ob94 (_ : Params) : Obj := ⟨.type "tuple", none, .seq #[.str (Str.ofString "pat") 1937, .str (Str.ofString "STAR") 1938, .str (Str.ofString "parts") 1939] 0, #[]⟩
noncomputable def ob95 (_ : Params) : Obj := ⟨.type "tuple", none, .seq #[] 0, #[]⟩
noncomputable def ob97 (_ : Params) : Obj := ⟨.type "code", none, .fields #[.str (Str.ofString "translate") 1934, .str (Str.ofString "translate") 1935, .str (Str.ofString "/claim/cut.py") 1936, .int 35 0, .int 1 0, .int 0 0, .int 0 0, .int 3 0, .ref 92, .bool true, .int 276 0, .ref 93, .none, .ref 94, .ref 95, .ref 96, .int 1940 0, .int 35 0, .str (Str.ofString "/claim/cut.py") 1941], #[]⟩
noncomputable def ob98 (_ : Params) : Obj := ⟨.type "function", none, .func fd98.1, #[]⟩
noncomputable def ob100 (_ : Params) : Obj := ⟨.type "dict", none, .dict #[⟨40, .int 40 1946, .str (Str.ofString "\\(") 1950⟩, ⟨41, .int 41 1952, .str (Str.ofString "\\)") 1956⟩, ⟨91, .int 91 1958, .str (Str.ofString "\\[") 1962⟩, ⟨93, .int 93 1964, .str (Str.ofString "\\]") 1968⟩, ⟨123, .int 123 1970, .str (Str.ofString "\\{") 1974⟩, ⟨125, .int 125 1976, .str (Str.ofString "\\}") 1980⟩, ⟨63, .int 63 1982, .str (Str.ofString "\\?") 1986⟩, ⟨42, .int 42 1988, .str (Str.ofString "\\*") 1992⟩, ⟨43, .int 43 1994, .str (Str.ofString "\\+") 1998⟩, ⟨45, .int 45 2000, .str (Str.ofString "\\-") 2004⟩, ⟨124, .int 124 2006, .str (Str.ofString "\\|") 2010⟩, ⟨94, .int 94 2012, .str (Str.ofString "\\^") 2016⟩, ⟨36, .int 36 2018, .str (Str.ofString "\\$") 2022⟩, ⟨92, .int 92 2024, .str (Str.ofString "\\\\") 2028⟩, ⟨46, .int 46 2030, .str (Str.ofString "\\.") 2034⟩, ⟨38, .int 38 2036, .str (Str.ofString "\\&") 2040⟩, ⟨126, .int 126 2042, .str (Str.ofString "\\~") 2046⟩, ⟨35, .int 35 2048, .str (Str.ofString "\\#") 2052⟩, ⟨32, .int 32 2054, .str (Str.ofString "\\ ") 2058⟩, ⟨9, .int 9 2060, .str (Str.ofString "\\\t") 2064⟩, ⟨10, .int 10 2066, .str (Str.ofString "\\\n") 2070⟩, ⟨13, .int 13 2072, .str (Str.ofString "\\\x0d") 2076⟩, ⟨11, .int 11 2078, .str (Str.ofString "\\\x0b") 2082⟩, ⟨12, .int 12 2084, .str (Str.ofString "\\\x0c") 2088⟩] 24, #[]⟩
noncomputable def ob104 (_ : Params) : Obj := ⟨.type "tuple", none, .seq #[] 0, #[]⟩
noncomputable def ob106 (_ : Params) : Obj := ⟨.type "tuple", none, .seq #[.str (Str.ofString "pattern") 2094] 0, #[]⟩
noncomputable def ob107 (_ : Params) : Obj := ⟨.type "tuple", none, .seq #[] 0, #[]⟩
noncomputable def ob109 (_ : Params) : Obj := ⟨.type "code", none, .fields #[.str (Str.ofString "escape") 2091, .str (Str.ofString "escape") 2092, .str (Str.ofString "/claim/cut.py") 2093, .int 41 0, .int 1 0, .int 0 0, .int 0 0, .int 3 0, .ref 104, .bool true, .int 276 0, .ref 105, .none, .ref 106, .ref 107, .ref 108, .int 2095 0, .int 41 0, .str (Str.ofString "/claim/cut.py") 2096], #[]⟩
noncomputable def ob110 (_ : Params) : Obj := ⟨.type "function", none, .func fd110.1, #[]⟩
noncomputable def ob111 (_ : Params) : Obj := ⟨.type "tuple", none, .seq #[] 0, #[]⟩
noncomputable def ob113 (_ : Params) : Obj := ⟨.type "tuple", none, .seq #[.str (Str.ofString "pat") 2103, .str (Str.ofString "STAR") 2104, .str (Str.ofString "QUESTION_MARK") 2105, .str (Str.ofString "res") 2106, .str (Str.ofString "add") 2107, .str (Str.ofString "i") 2108, .str (Str.ofString "n") 2109, .str (Str.ofString "c") 2110, .str (Str.ofString "j") 2111, .str (Str.ofString "stuff") 2112, .str (Str.ofString "chunks") 2113, .str (Str.ofString "k") 2114, .str (Str.ofString "chunk") 2115] 0, #[]⟩
noncomputable def ob114 (_ : Params) : Obj := ⟨.type "tuple", none, .seq #[] 0, #[]⟩
noncomputable def ob116 (_ : Params) : Obj := ⟨.type "code", none, .fields #[.str (Str.ofString "_translate") 2100, .str (Str.ofString "_translate") 2101, .str (Str.ofString "/claim/cut.py") 2102, .int 48 0, .int 3 0, .int 0 0, .int 0 0, .int 3 0, .ref 111, .bool true, .int 276 0, .ref 112, .none, .ref 113, .ref 114, .ref 115, .int 2116 0, .int 48 0, .str (Str.ofString "/claim/cut.py") 2117], #[]⟩
noncomputable def ob117 (_ : Params) : Obj := ⟨.type "function", none, .func fd117.1, #[]⟩
noncomputable def ob118 (_ : Params) : Obj := ⟨.type "tuple", none, .seq #[] 0, #[]⟩
noncomputable def ob120 (_ : Params) : Obj := ⟨.type "tuple", none, .seq #[.str (Str.ofString "inp") 2122, .str (Str.ofString "STAR") 2123, .str (Str.ofString "res") 2124, .str (Str.ofString "add") 2125, .str (Str.ofString "i") 2126, .str (Str.ofString "n") 2127, .str (Str.ofString "fixed") 2128] 0, #[]⟩
noncomputable def ob121 (_ : Params) : Obj := ⟨.type "tuple", none, .seq #[] 0, #[]⟩
noncomputable def ob123 (_ : Params) : Obj := ⟨.type "code", none, .fields #[.str (Str.ofString "_join_translated_parts") 2119, .str (Str.ofString "_join_translated_parts") 2120, .str (Str.ofString "/claim/cut.py") 2121, .int 110 0, .int 2 0, .int 0 0, .int 0 0, .int 3 0, .ref 118, .bool true, .int 276 0, .ref 119, .none, .ref 120, .ref 121, .ref 122, .int 2129 0, .int 110 0, .str (Str.ofString "/claim/cut.py") 2130], #[]⟩
noncomputable def ob124 (_ : Params) : Obj := ⟨.type "function", none, .func fd124.1, #[]⟩
noncomputable def ob125 (_ : Params) : Obj := ⟨.type "tuple", none, .seq #[] 0, #[]⟩
noncomputable def ob127 (_ : Params) : Obj := ⟨.type "tuple", none, .seq #[.str (Str.ofString "heap") 2137, .str (Str.ofString "item") 2138, .str (Str.ofString "returnitem") 2139] 0, #[]⟩
noncomputable def ob128 (_ : Params) : Obj := ⟨.type "tuple", none, .seq #[] 0, #[]⟩
noncomputable def ob130 (_ : Params) : Obj := ⟨.type "code", none, .fields #[.str (Str.ofString "_heapreplace_max") 2134, .str (Str.ofString "_heapreplace_max") 2135, .str (Str.ofString "/claim/cut.py") 2136, .int 138 0, .int 2 0, .int 0 0, .int 0 0, .int 3 0, .ref 125, .bool true, .int 276 0, .ref 126, .none, .ref 127, .ref 128, .ref 129, .int 2140 0, .int 138 0, .str (Str.ofString "/claim/cut.py") 2141], #[]⟩
noncomputable def ob131 (_ : Params) : Obj := ⟨.type "function", none, .func fd131.1, #[]⟩
noncomputable def ob132 (_ : Params) : Obj := ⟨.type "tuple", none, .seq #[] 0, #[]⟩
noncomputable def ob134 (_ : Params) : Obj := ⟨.type "tuple", none, .seq #[.str (Str.ofString "x") 2146, .str (Str.ofString "n") 2147, .str (Str.ofString "i") 2148] 0, #[]⟩
noncomputable def ob135 (_ : Params) : Obj := ⟨.type "tuple", none, .seq #[] 0, #[]⟩
noncomputable def ob137 (_ : Params) : Obj := ⟨.type "code", none, .fields #[.str (Str.ofString "_heapify_max") 2143, .str (Str.ofString "_heapify_max") 2144, .str (Str.ofString "/claim/cut.py") 2145, .int 143 0, .int 1 0, .int 0 0, .int 0 0, .int 3 0, .ref 132, .bool true, .int 276 0, .ref 133, .none, .ref 134, .ref 135, .ref 136, .int 2149 0, .int 143 0, .str (Str.ofString "/claim/cut.py") 2150], #[]⟩
noncomputable def ob138 (_ : Params) : Obj := ⟨.type "function", none, .func fd138.1, #[]⟩
noncomputable def ob139 (_ : Params) : Obj := ⟨.type "tuple", none, .seq #[] 0, #[]⟩
noncomputable def ob141 (_ : Params) : Obj := ⟨.type "tuple", none, .seq #[.str (Str.ofString "heap") 2155, .str (Str.ofString "startpos") 2156, .str (Str.ofString "pos") 2157, .str (Str.ofString "newitem") 2158, .str (Str.ofString "parentpos") 2159, .str (Str.ofString "parent") 2160] 0, #[]⟩
noncomputable def ob142 (_ : Params) : Obj := ⟨.type "tuple", none, .seq #[] 0, #[]⟩
noncomputable def ob144 (_ : Params) : Obj := ⟨.type "code", none, .fields #[.str (Str.ofString "_siftdown_max") 2152, .str (Str.ofString "_siftdown_max") 2153, .str (Str.ofString "/claim/cut.py") 2154, .int 147 0, .int 3 0, .int 0 0, .int 0 0, .int 3 0, .ref 139, .bool true, .int 276 0, .ref 140, .none, .ref 141, .ref 142, .ref 143, .int 2161 0, .int 147 0, .str (Str.ofString "/claim/cut.py") 2162], #[]⟩
noncomputable def ob145 (_ : Params) : Obj := ⟨.type "function", none, .func fd145.1, #[]⟩
noncomputable def ob146 (_ : Params) : Obj := ⟨.type "tuple", none, .seq #[] 0, #[]⟩
noncomputable def ob148 (_ : Params) : Obj := ⟨.type "tuple", none, .seq #[.str (Str.ofString "heap") 2167, .str (Str.ofString "pos") 2168, .str (Str.ofString "endpos") 2169, .str (Str.ofString "startpos") 2170, .str (Str.ofString "newitem") 2171, .str (Str.ofString "childpos") 2172, .str (Str.ofString "rightpos") 2173] 0, #[]⟩
noncomputable def ob149 (_ : Params) : Obj := ⟨.type "tuple", none, .seq #[] 0, #[]⟩
noncomputable def ob151 (_ : Params) : Obj := ⟨.type "code", none, .fields #[.str (Str.ofString "_siftup_max") 2164, .str (Str.ofString "_siftup_max") 2165, .str (Str.ofString "/claim/cut.py") 2166, .int 158 0, .int 2 0, .int 0 0, .int 0 0, .int 3 0, .ref 146, .bool true, .int 276 0, .ref 147, .none, .ref 148, .ref 149, .ref 150, .int 2174 0, .int 158 0, .str (Str.ofString "/claim/cut.py") 2175], #[]⟩
noncomputable def ob152 (_ : Params) : Obj := ⟨.type "function", none, .func fd152.1, #[]⟩
noncomputable def ob153 (_ : Params) : Obj := ⟨.type "tuple", none, .seq #[.none] 0, #[]⟩
noncomputable def ob154 (_ : Params) : Obj := ⟨.type "tuple", none, .seq #[] 0, #[]⟩
noncomputable def ob157 (_ : Params) : Obj := ⟨.type "code", none, .fields #[.str (Str.ofString "nsmallest") 2177, .str (Str.ofString "nsmallest") 2178, .str (Str.ofString "/claim/cut.py") 2179, .int 172 0, .int 3 0, .int 0 0, .int 0 0, .int 3 0, .ref 154, .bool true, .int 276 0, .ref 155, .none, .none, .none, .ref 156, .int 2180 0, .int 172 0, .str (Str.ofString "/claim/cut.py") 2181], #[]⟩
noncomputable def ob158 (_ : Params) : Obj := ⟨.type "function", none, .func fd158.1, #[]⟩
noncomputable def ob159 (_ : Params) : Obj := ⟨.type "tuple", none, .seq #[] 0, #[]⟩
noncomputable def ob162 (_ : Params) : Obj := ⟨.type "code", none, .fields #[.str (Str.ofString "_law_rows") 2185, .str (Str.ofString "_law_rows") 2186, .str (Str.ofString "/claim/cut.py") 2187, .int 218 0, .int 1 0, .int 0 0, .int 0 0, .int 3 0, .ref 159, .bool true, .int 276 0, .ref 160, .none, .none, .none, .ref 161, .int 2188 0, .int 218 0, .str (Str.ofString "/claim/cut.py") 2189], #[]⟩
noncomputable def ob163 (_ : Params) : Obj := ⟨.type "function", none, .func fd163.1, #[]⟩
noncomputable def ob164 (_ : Params) : Obj := ⟨.type "tuple", none, .seq #[] 0, #[]⟩
noncomputable def ob167 (_ : Params) : Obj := ⟨.type "code", none, .fields #[.str (Str.ofString "_law_word") 2191, .str (Str.ofString "_law_word") 2192, .str (Str.ofString "/claim/cut.py") 2193, .int 222 0, .int 1 0, .int 0 0, .int 0 0, .int 3 0, .ref 164, .bool true, .int 276 0, .ref 165, .none, .none, .none, .ref 166, .int 2194 0, .int 222 0, .str (Str.ofString "/claim/cut.py") 2195], #[]⟩
noncomputable def ob168 (_ : Params) : Obj := ⟨.type "function", none, .func fd168.1, #[]⟩
noncomputable def ob169 (_ : Params) : Obj := ⟨.type "tuple", none, .seq #[] 0, #[]⟩
noncomputable def ob172 (_ : Params) : Obj := ⟨.type "code", none, .fields #[.str (Str.ofString "_law_written") 2197, .str (Str.ofString "_law_written") 2198, .str (Str.ofString "/claim/cut.py") 2199, .int 224 0, .int 1 0, .int 0 0, .int 0 0, .int 3 0, .ref 169, .bool true, .int 276 0, .ref 170, .none, .none, .none, .ref 171, .int 2200 0, .int 224 0, .str (Str.ofString "/claim/cut.py") 2201], #[]⟩
noncomputable def ob173 (_ : Params) : Obj := ⟨.type "function", none, .func fd173.1, #[]⟩
noncomputable def ob174 (_ : Params) : Obj := ⟨.type "tuple", none, .seq #[] 0, #[]⟩
noncomputable def ob177 (_ : Params) : Obj := ⟨.type "code", none, .fields #[.str (Str.ofString "_law_expression") 2203, .str (Str.ofString "_law_expression") 2204, .str (Str.ofString "/claim/cut.py") 2205, .int 227 0, .int 1 0, .int 0 0, .int 0 0, .int 3 0, .ref 174, .bool true, .int 276 0, .ref 175, .none, .none, .none, .ref 176, .int 2206 0, .int 227 0, .str (Str.ofString "/claim/cut.py") 2207], #[]⟩
noncomputable def ob178 (_ : Params) : Obj := ⟨.type "function", none, .func fd178.1, #[]⟩
noncomputable def ob179 (_ : Params) : Obj := ⟨.type "tuple", none, .seq #[] 0, #[]⟩
noncomputable def ob182 (_ : Params) : Obj := ⟨.type "code", none, .fields #[.str (Str.ofString "_law_open") 2209, .str (Str.ofString "_law_open") 2210, .str (Str.ofString "/claim/cut.py") 2211, .int 233 0, .int 1 0, .int 0 0, .int 0 0, .int 3 0, .ref 179, .bool true, .int 276 0, .ref 180, .none, .none, .none, .ref 181, .int 2212 0, .int 233 0, .str (Str.ofString "/claim/cut.py") 2213], #[]⟩
noncomputable def ob183 (_ : Params) : Obj := ⟨.type "function", none, .func fd183.1, #[]⟩
noncomputable def ob184 (_ : Params) : Obj := ⟨.type "tuple", none, .seq #[] 0, #[]⟩
noncomputable def ob187 (_ : Params) : Obj := ⟨.type "code", none, .fields #[.str (Str.ofString "_law_count") 2215, .str (Str.ofString "_law_count") 2216, .str (Str.ofString "/claim/cut.py") 2217, .int 236 0, .int 1 0, .int 0 0, .int 0 0, .int 3 0, .ref 184, .bool true, .int 276 0, .ref 185, .none, .none, .none, .ref 186, .int 2218 0, .int 236 0, .str (Str.ofString "/claim/cut.py") 2219], #[]⟩
noncomputable def ob188 (_ : Params) : Obj := ⟨.type "function", none, .func fd188.1, #[]⟩
noncomputable def ob189 (_ : Params) : Obj := ⟨.type "tuple", none, .seq #[] 0, #[]⟩
noncomputable def ob192 (_ : Params) : Obj := ⟨.type "code", none, .fields #[.str (Str.ofString "_law_takes") 2221, .str (Str.ofString "_law_takes") 2222, .str (Str.ofString "/claim/cut.py") 2223, .int 239 0, .int 2 0, .int 0 0, .int 0 0, .int 3 0, .ref 189, .bool true, .int 276 0, .ref 190, .none, .none, .none, .ref 191, .int 2224 0, .int 239 0, .str (Str.ofString "/claim/cut.py") 2225], #[]⟩
noncomputable def ob193 (_ : Params) : Obj := ⟨.type "function", none, .func fd193.1, #[]⟩
noncomputable def ob194 (_ : Params) : Obj := ⟨.type "tuple", none, .seq #[] 0, #[]⟩
noncomputable def ob196 (_ : Params) : Obj := ⟨.type "tuple", none, .seq #[.str (Str.ofString "outer") 2230, .str (Str.ofString "inner") 2231] 0, #[]⟩
noncomputable def ob197 (_ : Params) : Obj := ⟨.type "tuple", none, .seq #[] 0, #[]⟩
noncomputable def ob199 (_ : Params) : Obj := ⟨.type "code", none, .fields #[.str (Str.ofString "_law_holds") 2227, .str (Str.ofString "_law_holds") 2228, .str (Str.ofString "/claim/cut.py") 2229, .int 247 0, .int 2 0, .int 0 0, .int 0 0, .int 3 0, .ref 194, .bool true, .int 276 0, .ref 195, .none, .ref 196, .ref 197, .ref 198, .int 2232 0, .int 247 0, .str (Str.ofString "/claim/cut.py") 2233], #[]⟩
noncomputable def ob200 (_ : Params) : Obj := ⟨.type "function", none, .func fd200.1, #[]⟩
noncomputable def ob201 (_ : Params) : Obj := ⟨.type "tuple", none, .seq #[] 0, #[]⟩
noncomputable def ob203 (_ : Params) : Obj := ⟨.type "tuple", none, .seq #[.str (Str.ofString "row") 2238, .str (Str.ofString "word") 2239, .str (Str.ofString "parts") 2240, .str (Str.ofString "due") 2241] 0, #[]⟩
noncomputable def ob204 (_ : Params) : Obj := ⟨.type "tuple", none, .seq #[] 0, #[]⟩
noncomputable def ob206 (_ : Params) : Obj := ⟨.type "code", none, .fields #[.str (Str.ofString "_law_well_told") 2235, .str (Str.ofString "_law_well_told") 2236, .str (Str.ofString "/claim/cut.py") 2237, .int 253 0, .int 3 0, .int 0 0, .int 0 0, .int 3 0, .ref 201, .bool true, .int 276 0, .ref 202, .none, .ref 203, .ref 204, .ref 205, .int 2242 0, .int 253 0, .str (Str.ofString "/claim/cut.py") 2243], #[]⟩
noncomputable def ob207 (_ : Params) : Obj := ⟨.type "function", none, .func fd207.1, #[]⟩
noncomputable def ob208 (_ : Params) : Obj := ⟨.type "tuple", none, .seq #[] 0, #[]⟩
noncomputable def ob211 (_ : Params) : Obj := ⟨.type "code", none, .fields #[.str (Str.ofString "law") 2245, .str (Str.ofString "law") 2246, .str (Str.ofString "/claim/cut.py") 2247, .int 258 0, .int 1 0, .int 0 0, .int 0 0, .int 3 0, .ref 208, .bool true, .int 276 0, .ref 209, .none, .none, .none, .ref 210, .int 2248 0, .int 258 0, .str (Str.ofString "/claim/cut.py") 2249], #[]⟩
noncomputable def ob212 (_ : Params) : Obj := ⟨.type "function", none, .func fd212.1, #[]⟩
noncomputable def hdK (P : Params) : Frag := (nat_lit 2, ob2 P) :: (nat_lit 3, ob3 P) :: (nat_lit 35, ob35 P) :: (nat_lit 36, ob36 P) :: (nat_lit 44, ob44 P) :: (nat_lit 53, ob53 P) :: (nat_lit 55, ob55 P) :: (nat_lit 56, ob56 P) :: (nat_lit 58, ob58 P) :: (nat_lit 59, ob59 P) :: (nat_lit 60, ob60 P) :: (nat_lit 61, ob61 P) :: (nat_lit 63, ob63 P) :: (nat_lit 64, ob64 P) :: (nat_lit 66, ob66 P) :: (nat_lit 67, ob67 P) :: (nat_lit 73, ob73 P) :: (nat_lit 75, ob75 P) :: (nat_lit 76, ob76 P) :: (nat_lit 78, ob78 P) :: (nat_lit 79, ob79 P) :: (nat_lit 80, ob80 P) :: (nat_lit 82, ob82 P) :: (nat_lit 83, ob83 P) :: (nat_lit 85, ob85 P) :: (nat_lit 86, ob86 P) :: (nat_lit 90, ob90 P) :: (nat_lit 91, ob91 P) :: (nat_lit 92, ob92 P) :: (nat_lit 94, ob94 P) :: (nat_lit 95, ob95 P) :: (nat_lit 97, ob97 P) :: (nat_lit 98, ob98 P) :: (nat_lit 100, ob100 P) :: (nat_lit 104, ob104 P) :: (nat_lit 106, ob106 P) :: (nat_lit 107, ob107 P) :: (nat_lit 109, ob109 P) :: (nat_lit 110, ob110 P) :: (nat_lit 111, ob111 P) :: (nat_lit 113, ob113 P) :: (nat_lit 114, ob114 P) :: (nat_lit 116, ob116 P) :: (nat_lit 117, ob117 P) :: (nat_lit 118, ob118 P) :: (nat_lit 120, ob120 P) :: (nat_lit 121, ob121 P) :: (nat_lit 123, ob123 P) :: (nat_lit 124, ob124 P) :: (nat_lit 125, ob125 P) :: (nat_lit 127, ob127 P) :: (nat_lit 128, ob128 P) :: (nat_lit 130, ob130 P) :: (nat_lit 131, ob131 P) :: (nat_lit 132, ob132 P) :: (nat_lit 134, ob134 P) :: (nat_lit 135, ob135 P) :: (nat_lit 137, ob137 P) :: (nat_lit 138, ob138 P) :: (nat_lit 139, ob139 P) :: (nat_lit 141, ob141 P) :: (nat_lit 142, ob142 P) :: (nat_lit 144, ob144 P) :: (nat_lit 145, ob145 P) :: (nat_lit 146, ob146 P) :: (nat_lit 148, ob148 P) :: (nat_lit 149, ob149 P) :: (nat_lit 151, ob151 P) :: (nat_lit 152, ob152 P) :: (nat_lit 153, ob153 P) :: (nat_lit 154, ob154 P) :: (nat_lit 157, ob157 P) :: (nat_lit 158, ob158 P) :: (nat_lit 159, ob159 P) :: (nat_lit 162, ob162 P) :: (nat_lit 163, ob163 P) :: (nat_lit 164, ob164 P) :: (nat_lit 167, ob167 P) :: (nat_lit 168, ob168 P) :: (nat_lit 169, ob169 P) :: (nat_lit 172, ob172 P) :: (nat_lit 173, ob173 P) :: (nat_lit 174, ob174 P) :: (nat_lit 177, ob177 P) :: (nat_lit 178, ob178 P) :: (nat_lit 179, ob179 P) :: (nat_lit 182, ob182 P) :: (nat_lit 183, ob183 P) :: (nat_lit 184, ob184 P) :: (nat_lit 187, ob187 P) :: (nat_lit 188, ob188 P) :: (nat_lit 189, ob189 P) :: (nat_lit 192, ob192 P) :: (nat_lit 193, ob193 P) :: (nat_lit 194, ob194 P) :: (nat_lit 196, ob196 P) :: (nat_lit 197, ob197 P) :: (nat_lit 199, ob199 P) :: (nat_lit 200, ob200 P) :: (nat_lit 201, ob201 P) :: (nat_lit 203, ob203 P) :: (nat_lit 204, ob204 P) :: (nat_lit 206, ob206 P) :: (nat_lit 207, ob207 P) :: (nat_lit 208, ob208 P) :: (nat_lit 211, ob211 P) :: (nat_lit 212, ob212 P) :: []
noncomputable def hdA : List Nat := [2, 3, 35, 36, 44, 53, 55, 56, 58, 59, 60, 61, 63, 64, 66, 67, 73, 75, 76, 78, 79, 80, 82, 83, 85, 86, 90, 91, 92, 94, 95, 97, 98, 100, 104, 106, 107, 109, 110, 111, 113, 114, 116, 117, 118, 120, 121, 123, 124, 125, 127, 128, 130, 131, 132, 134, 135, 137, 138, 139, 141, 142, 144, 145, 146, 148, 149, 151, 152, 153, 154, 157, 158, 159, 162, 163, 164, 167, 168, 169, 172, 173, 174, 177, 178, 179, 182, 183, 184, 187, 188, 189, 192, 193, 194, 196, 197, 199, 200, 201, 203, 204, 206, 207, 208, 211, 212]
end Mine
end
section
open PySem PySem.W PySem.Calls PyProof.Rows
set_option maxRecDepth 100000
set_option maxHeartbeats 4000000
theorem Mine.fillNow : PySem.Challenge.rw_ik0164_01.name = PySem.Challenge.rw_ik0164_01.name ∧ Mine.hdK = Mine.hdK := by k_fill; exact ⟨rfl, rfl⟩
end
section
open PySem PySem.W PySem.Calls PyProof.Rows
set_option maxRecDepth 100000
set_option maxHeartbeats 8000000
namespace Mine
noncomputable def keepS (l : List Stmt) : List Nat → List Stmt
  | [] => []
  | i :: r => match nthS l i with
    | some a => a :: keepS l r
    | none => keepS l r
noncomputable def vwB : { b : List Stmt // b = keepS PySem.Challenge.pw_ik0164_01.main.body [0, 1, 2, 3, 4, 5, 6, 7, 8, 13, 15, 18, 19, 21, 22, 24, 25, 27, 28, 30, 31, 32, 33, 36, 37, 38, 39, 40, 41, 42, 43, 44, 45] } :=
  ⟨[_, _, _, _, _, _, _, _, _, _, _, _, _, _, _, _, _, _, _, _, _, _, _, _, _, _, _, _, _, _, _, _, _], rfl⟩
noncomputable def vw : Program := { PySem.Challenge.pw_ik0164_01 with main := { PySem.Challenge.pw_ik0164_01.main with body := vwB.1 } }
noncomputable def looseN : List Str := [Str.ofString "twin_re_1_quoprimime", Str.ofString "_QUOPRI_MAP", Str.ofString "_QUOPRI_HEADER_MAP", Str.ofString "_QUOPRI_BODY_MAP", Str.ofString "ascii_letters", Str.ofString "header_encode", Str.ofString "_QUOPRI_BODY_ENCODE_MAP", Str.ofString "twin_re_1_fnmatch", Str.ofString "_special_chars_map", Str.ofString "nsmallest"]
noncomputable def lvN : List (Str × WData) := [(Str.ofString "ascii_letters", .str (Str.ofString "abcdefghijklmnopqrstuvwxyzABCDEFGHIJKLMNOPQRSTUVWXYZ"))]
noncomputable abbrev HK : Hook := kmHook hdK hdA (fun _ => by kernel_rfl) [112, 209]
abbrev rowW : RowW := OpenRow.toRowW PySem.Challenge.rw_ik0164_01.row
noncomputable abbrev XtN : Shared → Bool := fun s => xlAt vw lvN s && recOk (RowW.records rowW) s
noncomputable def fd57 : FdAt 13 :=
  ⟨⟨(Str.ofString "unquote"), (Str.ofString "unquote"), ⟨_, _, _, _, _, _, _⟩, .stmts _, ⟨_, _, _, _, _⟩, 0, [], .none, .none, .none, .none, none, .none, .none, 0⟩, rfl⟩
noncomputable def fd65 : FdAt 14 :=
  ⟨⟨(Str.ofString "header_encode"), (Str.ofString "header_encode"), ⟨_, _, _, _, _, _, _⟩, .stmts _, ⟨_, _, _, _, _⟩, 0, [], .none, .none, .none, .none, none, .none, .none, 0⟩, rfl⟩
noncomputable def fd77 : FdAt 18 :=
  ⟨⟨(Str.ofString "_unquote_match"), (Str.ofString "_unquote_match"), ⟨_, _, _, _, _, _, _⟩, .stmts _, ⟨_, _, _, _, _⟩, 0, [], .none, .none, .none, .none, none, .none, .none, 0⟩, rfl⟩
noncomputable def fd84 : FdAt 19 :=
  ⟨⟨(Str.ofString "header_decode"), (Str.ofString "header_decode"), ⟨_, _, _, _, _, _, _⟩, .stmts _, ⟨_, _, _, _, _⟩, 0, [], .none, .none, .none, .none, none, .none, .none, 0⟩, rfl⟩
noncomputable def fd96 : FdAt 22 :=
  ⟨⟨(Str.ofString "translate"), (Str.ofString "translate"), ⟨_, _, _, _, _, _, _⟩, .stmts _, ⟨_, _, _, _, _⟩, 0, [], .none, .none, .none, .none, none, .none, .none, 0⟩, rfl⟩
noncomputable def fd108 : FdAt 25 :=
  ⟨⟨(Str.ofString "escape"), (Str.ofString "escape"), ⟨_, _, _, _, _, _, _⟩, .stmts _, ⟨_, _, _, _, _⟩, 0, [], .none, .none, .none, .none, none, .none, .none, 0⟩, rfl⟩
noncomputable def fd115 : FdAt 27 :=
  ⟨⟨(Str.ofString "_translate"), (Str.ofString "_translate"), ⟨_, _, _, _, _, _, _⟩, .stmts _, ⟨_, _, _, _, _⟩, 0, [], .none, .none, .none, .none, none, .none, .none, 0⟩, rfl⟩
noncomputable def fd122 : FdAt 28 :=
  ⟨⟨(Str.ofString "_join_translated_parts"), (Str.ofString "_join_translated_parts"), ⟨_, _, _, _, _, _, _⟩, .stmts _, ⟨_, _, _, _, _⟩, 0, [], .none, .none, .none, .none, none, .none, .none, 0⟩, rfl⟩
noncomputable def fd129 : FdAt 30 :=
  ⟨⟨(Str.ofString "_heapreplace_max"), (Str.ofString "_heapreplace_max"), ⟨_, _, _, _, _, _, _⟩, .stmts _, ⟨_, _, _, _, _⟩, 0, [], .none, .none, .none, .none, none, .none, .none, 0⟩, rfl⟩
noncomputable def fd136 : FdAt 31 :=
  ⟨⟨(Str.ofString "_heapify_max"), (Str.ofString "_heapify_max"), ⟨_, _, _, _, _, _, _⟩, .stmts _, ⟨_, _, _, _, _⟩, 0, [], .none, .none, .none, .none, none, .none, .none, 0⟩, rfl⟩
noncomputable def fd143 : FdAt 32 :=
  ⟨⟨(Str.ofString "_siftdown_max"), (Str.ofString "_siftdown_max"), ⟨_, _, _, _, _, _, _⟩, .stmts _, ⟨_, _, _, _, _⟩, 0, [], .none, .none, .none, .none, none, .none, .none, 0⟩, rfl⟩
noncomputable def fd150 : FdAt 33 :=
  ⟨⟨(Str.ofString "_siftup_max"), (Str.ofString "_siftup_max"), ⟨_, _, _, _, _, _, _⟩, .stmts _, ⟨_, _, _, _, _⟩, 0, [], .none, .none, .none, .none, none, .none, .none, 0⟩, rfl⟩
noncomputable def fd156 : FdAt 34 :=
  ⟨⟨(Str.ofString "nsmallest"), (Str.ofString "nsmallest"), ⟨_, _, _, _, _, _, _⟩, .stmts _, ⟨_, _, _, _, _⟩, 0, [], .none, .none, .none, .none, none, .none, .none, 0⟩, rfl⟩
noncomputable def fd161 : FdAt 36 :=
  ⟨⟨(Str.ofString "_law_rows"), (Str.ofString "_law_rows"), ⟨_, _, _, _, _, _, _⟩, .stmts _, ⟨_, _, _, _, _⟩, 0, [], .none, .none, .none, .none, none, .none, .none, 0⟩, rfl⟩
noncomputable def fd166 : FdAt 37 :=
  ⟨⟨(Str.ofString "_law_word"), (Str.ofString "_law_word"), ⟨_, _, _, _, _, _, _⟩, .stmts _, ⟨_, _, _, _, _⟩, 0, [], .none, .none, .none, .none, none, .none, .none, 0⟩, rfl⟩
noncomputable def fd171 : FdAt 38 :=
  ⟨⟨(Str.ofString "_law_written"), (Str.ofString "_law_written"), ⟨_, _, _, _, _, _, _⟩, .stmts _, ⟨_, _, _, _, _⟩, 0, [], .none, .none, .none, .none, none, .none, .none, 0⟩, rfl⟩
noncomputable def fd176 : FdAt 39 :=
  ⟨⟨(Str.ofString "_law_expression"), (Str.ofString "_law_expression"), ⟨_, _, _, _, _, _, _⟩, .stmts _, ⟨_, _, _, _, _⟩, 0, [], .none, .none, .none, .none, none, .none, .none, 0⟩, rfl⟩
noncomputable def fd181 : FdAt 40 :=
  ⟨⟨(Str.ofString "_law_open"), (Str.ofString "_law_open"), ⟨_, _, _, _, _, _, _⟩, .stmts _, ⟨_, _, _, _, _⟩, 0, [], .none, .none, .none, .none, none, .none, .none, 0⟩, rfl⟩
noncomputable def fd186 : FdAt 41 :=
  ⟨⟨(Str.ofString "_law_count"), (Str.ofString "_law_count"), ⟨_, _, _, _, _, _, _⟩, .stmts _, ⟨_, _, _, _, _⟩, 0, [], .none, .none, .none, .none, none, .none, .none, 0⟩, rfl⟩
noncomputable def fd191 : FdAt 42 :=
  ⟨⟨(Str.ofString "_law_takes"), (Str.ofString "_law_takes"), ⟨_, _, _, _, _, _, _⟩, .stmts _, ⟨_, _, _, _, _⟩, 0, [], .none, .none, .none, .none, none, .none, .none, 0⟩, rfl⟩
noncomputable def fd198 : FdAt 43 :=
  ⟨⟨(Str.ofString "_law_holds"), (Str.ofString "_law_holds"), ⟨_, _, _, _, _, _, _⟩, .stmts _, ⟨_, _, _, _, _⟩, 0, [], .none, .none, .none, .none, none, .none, .none, 0⟩, rfl⟩
noncomputable def fd205 : FdAt 44 :=
  ⟨⟨(Str.ofString "_law_well_told"), (Str.ofString "_law_well_told"), ⟨_, _, _, _, _, _, _⟩, .stmts _, ⟨_, _, _, _, _⟩, 0, [], .none, .none, .none, .none, none, .none, .none, 0⟩, rfl⟩
noncomputable def fd210 : FdAt 45 :=
  ⟨⟨(Str.ofString "law"), (Str.ofString "law"), ⟨_, _, _, _, _, _, _⟩, .stmts _, ⟨_, _, _, _, _⟩, 0, [], .none, .none, .none, .none, none, .none, .none, 0⟩, rfl⟩
noncomputable def bS0_0 (P : Params) : Obj := ⟨.type "dict", none, .dict #[⟨PyData.keyHash P (Str.ofString "__name__"), .str (Str.ofString "__name__") 1, .str (Str.ofString "builtins") 160⟩, ⟨PyData.keyHash P (Str.ofString "__doc__"), .str (Str.ofString "__doc__") 2, .builtin "builtins.__doc__:str#opaque"⟩, ⟨PyData.keyHash P (Str.ofString "__package__"), .str (Str.ofString "__package__") 3, .builtin "builtins.__package__:str#opaque"⟩, ⟨PyData.keyHash P (Str.ofString "__loader__"), .str (Str.ofString "__loader__") 4, .builtin "builtins.__loader__:shared#opaque"⟩, ⟨PyData.keyHash P (Str.ofString "__spec__"), .str (Str.ofString "__spec__") 5, .builtin "builtins.__spec__#opaque"⟩, ⟨PyData.keyHash P (Str.ofString "__build_class__"), .str (Str.ofString "__build_class__") 6, .builtin "__build_class__"⟩, ⟨PyData.keyHash P (Str.ofString "__import__"), .str (Str.ofString "__import__") 7, .builtin "__import__"⟩, ⟨PyData.keyHash P (Str.ofString "abs"), .str (Str.ofString "abs") 8, .builtin "abs"⟩, ⟨PyData.keyHash P (Str.ofString "all"), .str (Str.ofString "all") 9, .builtin "all"⟩, ⟨PyData.keyHash P (Str.ofString "any"), .str (Str.ofString "any") 10, .builtin "any"⟩, ⟨PyData.keyHash P (Str.ofString "ascii"), .str (Str.ofString "ascii") 11, .builtin "ascii"⟩, ⟨PyData.keyHash P (Str.ofString "bin"), .str (Str.ofString "bin") 12, .builtin "bin"⟩, ⟨PyData.keyHash P (Str.ofString "breakpoint"), .str (Str.ofString "breakpoint") 13, .builtin "breakpoint"⟩, ⟨PyData.keyHash P (Str.ofString "callable"), .str (Str.ofString "callable") 14, .builtin "callable"⟩, ⟨PyData.keyHash P (Str.ofString "chr"), .str (Str.ofString "chr") 15, .builtin "chr"⟩, ⟨PyData.keyHash P (Str.ofString "compile"), .str (Str.ofString "compile") 16, .builtin "compile"⟩, ⟨PyData.keyHash P (Str.ofString "delattr"), .str (Str.ofString "delattr") 17, .builtin "delattr"⟩, ⟨PyData.keyHash P (Str.ofString "dir"), .str (Str.ofString "dir") 18, .builtin "dir"⟩, ⟨PyData.keyHash P (Str.ofString "divmod"), .str (Str.ofString "divmod") 19, .builtin "divmod"⟩, ⟨PyData.keyHash P (Str.ofString "eval"), .str (Str.ofString "eval") 20, .builtin "eval"⟩, ⟨PyData.keyHash P (Str.ofString "exec"), .str (Str.ofString "exec") 21, .builtin "exec"⟩, ⟨PyData.keyHash P (Str.ofString "format"), .str (Str.ofString "format") 22, .builtin "format"⟩, ⟨PyData.keyHash P (Str.ofString "getattr"), .str (Str.ofString "getattr") 23, .builtin "getattr"⟩, ⟨PyData.keyHash P (Str.ofString "globals"), .str (Str.ofString "globals") 24, .builtin "globals"⟩, ⟨PyData.keyHash P (Str.ofString "hasattr"), .str (Str.ofString "hasattr") 25, .builtin "hasattr"⟩, ⟨PyData.keyHash P (Str.ofString "hash"), .str (Str.ofString "hash") 26, .builtin "hash"⟩, ⟨PyData.keyHash P (Str.ofString "hex"), .str (Str.ofString "hex") 27, .builtin "hex"⟩, ⟨PyData.keyHash P (Str.ofString "id"), .str (Str.ofString "id") 28, .builtin "id"⟩, ⟨PyData.keyHash P (Str.ofString "input"), .str (Str.ofString "input") 29, .builtin "input"⟩, ⟨PyData.keyHash P (Str.ofString "isinstance"), .str (Str.ofString "isinstance") 30, .builtin "isinstance"⟩, ⟨PyData.keyHash P (Str.ofString "issubclass"), .str (Str.ofString "issubclass") 31, .builtin "issubclass"⟩, ⟨PyData.keyHash P (Str.ofString "iter"), .str (Str.ofString "iter") 32, .builtin "iter"⟩, ⟨PyData.keyHash P (Str.ofString "aiter"), .str (Str.ofString "aiter") 33, .builtin "aiter"⟩, ⟨PyData.keyHash P (Str.ofString "len"), .str (Str.ofString "len") 34, .builtin "len"⟩, ⟨PyData.keyHash P (Str.ofString "locals"), .str (Str.ofString "locals") 35, .builtin "locals"⟩, ⟨PyData.keyHash P (Str.ofString "max"), .str (Str.ofString "max") 36, .builtin "max"⟩, ⟨PyData.keyHash P (Str.ofString "min"), .str (Str.ofString "min") 37, .builtin "min"⟩, ⟨PyData.keyHash P (Str.ofString "next"), .str (Str.ofString "next") 38, .builtin "next"⟩, ⟨PyData.keyHash P (Str.ofString "anext"), .str (Str.ofString "anext") 39, .builtin "anext"⟩, ⟨PyData.keyHash P (Str.ofString "oct"), .str (Str.ofString "oct") 40, .builtin "oct"⟩, ⟨PyData.keyHash P (Str.ofString "ord"), .str (Str.ofString "ord") 41, .builtin "ord"⟩, ⟨PyData.keyHash P (Str.ofString "pow"), .str (Str.ofString "pow") 42, .builtin "pow"⟩, ⟨PyData.keyHash P (Str.ofString "print"), .str (Str.ofString "print") 43, .builtin "print"⟩, ⟨PyData.keyHash P (Str.ofString "repr"), .str (Str.ofString "repr") 44, .builtin "repr"⟩, ⟨PyData.keyHash P (Str.ofString "round"), .str (Str.ofString "round") 45, .builtin "round"⟩, ⟨PyData.keyHash P (Str.ofString "setattr"), .str (Str.ofString "setattr") 46, .builtin "setattr"⟩, ⟨PyData.keyHash P (Str.ofString "sorted"), .str (Str.ofString "sorted") 47, .builtin "sorted"⟩, ⟨PyData.keyHash P (Str.ofString "sum"), .str (Str.ofString "sum") 48, .builtin "sum"⟩, ⟨PyData.keyHash P (Str.ofString "vars"), .str (Str.ofString "vars") 49, .builtin "vars"⟩, ⟨PyData.keyHash P (Str.ofString "None"), .str (Str.ofString "None") 50, .none⟩, ⟨PyData.keyHash P (Str.ofString "Ellipsis"), .str (Str.ofString "Ellipsis") 51, .ellipsis⟩, ⟨PyData.keyHash P (Str.ofString "NotImplemented"), .str (Str.ofString "NotImplemented") 52, .notImplemented⟩, ⟨PyData.keyHash P (Str.ofString "False"), .str (Str.ofString "False") 53, .bool false⟩, ⟨PyData.keyHash P (Str.ofString "True"), .str (Str.ofString "True") 54, .bool true⟩, ⟨PyData.keyHash P (Str.ofString "bool"), .str (Str.ofString "bool") 55, .type "bool"⟩, ⟨PyData.keyHash P (Str.ofString "memoryview"), .str (Str.ofString "memoryview") 56, .type "memoryview"⟩, ⟨PyData.keyHash P (Str.ofString "bytearray"), .str (Str.ofString "bytearray") 57, .type "bytearray"⟩, ⟨PyData.keyHash P (Str.ofString "bytes"), .str (Str.ofString "bytes") 58, .type "bytes"⟩, ⟨PyData.keyHash P (Str.ofString "classmethod"), .str (Str.ofString "classmethod") 59, .type "classmethod"⟩, ⟨PyData.keyHash P (Str.ofString "complex"), .str (Str.ofString "complex") 60, .type "complex"⟩, ⟨PyData.keyHash P (Str.ofString "dict"), .str (Str.ofString "dict") 61, .type "dict"⟩, ⟨PyData.keyHash P (Str.ofString "enumerate"), .str (Str.ofString "enumerate") 62, .type "enumerate"⟩, ⟨PyData.keyHash P (Str.ofString "filter"), .str (Str.ofString "filter") 63, .type "filter"⟩, ⟨PyData.keyHash P (Str.ofString "float"), .str (Str.ofString "float") 64, .type "float"⟩, ⟨PyData.keyHash P (Str.ofString "frozenset"), .str (Str.ofString "frozenset") 65, .type "frozenset"⟩, ⟨PyData.keyHash P (Str.ofString "property"), .str (Str.ofString "property") 66, .type "property"⟩, ⟨PyData.keyHash P (Str.ofString "int"), .str (Str.ofString "int") 67, .type "int"⟩, ⟨PyData.keyHash P (Str.ofString "list"), .str (Str.ofString "list") 68, .type "list"⟩, ⟨PyData.keyHash P (Str.ofString "map"), .str (Str.ofString "map") 69, .type "map"⟩, ⟨PyData.keyHash P (Str.ofString "object"), .str (Str.ofString "object") 70, .type "object"⟩, ⟨PyData.keyHash P (Str.ofString "range"), .str (Str.ofString "range") 71, .type "range"⟩, ⟨PyData.keyHash P (Str.ofString "reversed"), .str (Str.ofString "reversed") 72, .type "reversed"⟩, ⟨PyData.keyHash P (Str.ofString "set"), .str (Str.ofString "set") 73, .type "set"⟩, ⟨PyData.keyHash P (Str.ofString "slice"), .str (Str.ofString "slice") 74, .type "slice"⟩, ⟨PyData.keyHash P (Str.ofString "staticmethod"), .str (Str.ofString "staticmethod") 75, .type "staticmethod"⟩, ⟨PyData.keyHash P (Str.ofString "str"), .str (Str.ofString "str") 76, .type "str"⟩, ⟨PyData.keyHash P (Str.ofString "super"), .str (Str.ofString "super") 77, .type "super"⟩, ⟨PyData.keyHash P (Str.ofString "tuple"), .str (Str.ofString "tuple") 78, .type "tuple"⟩, ⟨PyData.keyHash P (Str.ofString "type"), .str (Str.ofString "type") 79, .type "type"⟩, ⟨PyData.keyHash P (Str.ofString "zip"), .str (Str.ofString "zip") 80, .type "zip"⟩, ⟨PyData.keyHash P (Str.ofString "__debug__"), .str (Str.ofString "__debug__") 81, .bool true⟩, ⟨PyData.keyHash P (Str.ofString "BaseException"), .str (Str.ofString "BaseException") 82, .type "BaseException"⟩, ⟨PyData.keyHash P (Str.ofString "BaseExceptionGroup"), .str (Str.ofString "BaseExceptionGroup") 83, .type "BaseExceptionGroup"⟩, ⟨PyData.keyHash P (Str.ofString "Exception"), .str (Str.ofString "Exception") 84, .type "Exception"⟩, ⟨PyData.keyHash P (Str.ofString "GeneratorExit"), .str (Str.ofString "GeneratorExit") 85, .type "GeneratorExit"⟩, ⟨PyData.keyHash P (Str.ofString "KeyboardInterrupt"), .str (Str.ofString "KeyboardInterrupt") 86, .type "KeyboardInterrupt"⟩, ⟨PyData.keyHash P (Str.ofString "SystemExit"), .str (Str.ofString "SystemExit") 87, .type "SystemExit"⟩, ⟨PyData.keyHash P (Str.ofString "ArithmeticError"), .str (Str.ofString "ArithmeticError") 88, .type "ArithmeticError"⟩, ⟨PyData.keyHash P (Str.ofString "AssertionError"), .str (Str.ofString "AssertionError") 89, .type "AssertionError"⟩, ⟨PyData.keyHash P (Str.ofString "AttributeError"), .str (Str.ofString "AttributeError") 90, .type "AttributeError"⟩, ⟨PyData.keyHash P (Str.ofString "BufferError"), .str (Str.ofString "BufferError") 91, .type "BufferError"⟩, ⟨PyData.keyHash P (Str.ofString "EOFError"), .str (Str.ofString "EOFError") 92, .type "EOFError"⟩, ⟨PyData.keyHash P (Str.ofString "ImportError"), .str (Str.ofString "ImportError") 93, .type "ImportError"⟩, ⟨PyData.keyHash P (Str.ofString "LookupError"), .str (Str.ofString "LookupError") 94, .type "LookupError"⟩, ⟨PyData.keyHash P (Str.ofString "MemoryError"), .str (Str.ofString "MemoryError") 95, .type "MemoryError"⟩, ⟨PyData.keyHash P (Str.ofString "NameError"), .str (Str.ofString "NameError") 96, .type "NameError"⟩, ⟨PyData.keyHash P (Str.ofString "OSError"), .str (Str.ofString "OSError") 97, .type "OSError"⟩, ⟨PyData.keyHash P (Str.ofString "ReferenceError"), .str (Str.ofString "ReferenceError") 98, .type "ReferenceError"⟩, ⟨PyData.keyHash P (Str.ofString "RuntimeError"), .str (Str.ofString "RuntimeError") 99, .type "RuntimeError"⟩, ⟨PyData.keyHash P (Str.ofString "StopAsyncIteration"), .str (Str.ofString "StopAsyncIteration") 100, .type "StopAsyncIteration"⟩, ⟨PyData.keyHash P (Str.ofString "StopIteration"), .str (Str.ofString "StopIteration") 101, .type "StopIteration"⟩, ⟨PyData.keyHash P (Str.ofString "SyntaxError"), .str (Str.ofString "SyntaxError") 102, .type "SyntaxError"⟩, ⟨PyData.keyHash P (Str.ofString "SystemError"), .str (Str.ofString "SystemError") 103, .type "SystemError"⟩, ⟨PyData.keyHash P (Str.ofString "TypeError"), .str (Str.ofString "TypeError") 104, .type "TypeError"⟩, ⟨PyData.keyHash P (Str.ofString "ValueError"), .str (Str.ofString "ValueError") 105, .type "ValueError"⟩, ⟨PyData.keyHash P (Str.ofString "Warning"), .str (Str.ofString "Warning") 106, .type "Warning"⟩, ⟨PyData.keyHash P (Str.ofString "FloatingPointError"), .str (Str.ofString "FloatingPointError") 107, .type "FloatingPointError"⟩, ⟨PyData.keyHash P (Str.ofString "OverflowError"), .str (Str.ofString "OverflowError") 108, .type "OverflowError"⟩, ⟨PyData.keyHash P (Str.ofString "ZeroDivisionError"), .str (Str.ofString "ZeroDivisionError") 109, .type "ZeroDivisionError"⟩, ⟨PyData.keyHash P (Str.ofString "BytesWarning"), .str (Str.ofString "BytesWarning") 110, .type "BytesWarning"⟩, ⟨PyData.keyHash P (Str.ofString "DeprecationWarning"), .str (Str.ofString "DeprecationWarning") 111, .type "DeprecationWarning"⟩, ⟨PyData.keyHash P (Str.ofString "EncodingWarning"), .str (Str.ofString "EncodingWarning") 112, .type "EncodingWarning"⟩, ⟨PyData.keyHash P (Str.ofString "FutureWarning"), .str (Str.ofString "FutureWarning") 113, .type "FutureWarning"⟩, ⟨PyData.keyHash P (Str.ofString "ImportWarning"), .str (Str.ofString "ImportWarning") 114, .type "ImportWarning"⟩, ⟨PyData.keyHash P (Str.ofString "PendingDeprecationWarning"), .str (Str.ofString "PendingDeprecationWarning") 115, .type "PendingDeprecationWarning"⟩, ⟨PyData.keyHash P (Str.ofString "ResourceWarning"), .str (Str.ofString "ResourceWarning") 116, .type "ResourceWarning"⟩, ⟨PyData.keyHash P (Str.ofString "RuntimeWarning"), .str (Str.ofString "RuntimeWarning") 117, .type "RuntimeWarning"⟩, ⟨PyData.keyHash P (Str.ofString "SyntaxWarning"), .str (Str.ofString "SyntaxWarning") 118, .type "SyntaxWarning"⟩, ⟨PyData.keyHash P (Str.ofString "UnicodeWarning"), .str (Str.ofString "UnicodeWarning") 119, .type "UnicodeWarning"⟩, ⟨PyData.keyHash P (Str.ofString "UserWarning"), .str (Str.ofString "UserWarning") 120, .type "UserWarning"⟩, ⟨PyData.keyHash P (Str.ofString "BlockingIOError"), .str (Str.ofString "BlockingIOError") 121, .type "BlockingIOError"⟩, ⟨PyData.keyHash P (Str.ofString "ChildProcessError"), .str (Str.ofString "ChildProcessError") 122, .type "ChildProcessError"⟩, ⟨PyData.keyHash P (Str.ofString "ConnectionError"), .str (Str.ofString "ConnectionError") 123, .type "ConnectionError"⟩, ⟨PyData.keyHash P (Str.ofString "FileExistsError"), .str (Str.ofString "FileExistsError") 124, .type "FileExistsError"⟩, ⟨PyData.keyHash P (Str.ofString "FileNotFoundError"), .str (Str.ofString "FileNotFoundError") 125, .type "FileNotFoundError"⟩, ⟨PyData.keyHash P (Str.ofString "InterruptedError"), .str (Str.ofString "InterruptedError") 126, .type "InterruptedError"⟩, ⟨PyData.keyHash P (Str.ofString "IsADirectoryError"), .str (Str.ofString "IsADirectoryError") 127, .type "IsADirectoryError"⟩, ⟨PyData.keyHash P (Str.ofString "NotADirectoryError"), .str (Str.ofString "NotADirectoryError") 128, .type "NotADirectoryError"⟩, ⟨PyData.keyHash P (Str.ofString "PermissionError"), .str (Str.ofString "PermissionError") 129, .type "PermissionError"⟩, ⟨PyData.keyHash P (Str.ofString "ProcessLookupError"), .str (Str.ofString "ProcessLookupError") 130, .type "ProcessLookupError"⟩, ⟨PyData.keyHash P (Str.ofString "TimeoutError"), .str (Str.ofString "TimeoutError") 131, .type "TimeoutError"⟩, ⟨PyData.keyHash P (Str.ofString "IndentationError"), .str (Str.ofString "IndentationError") 132, .type "IndentationError"⟩, ⟨PyData.keyHash P (Str.ofString "_IncompleteInputError"), .str (Str.ofString "_IncompleteInputError") 133, .type "_IncompleteInputError"⟩, ⟨PyData.keyHash P (Str.ofString "IndexError"), .str (Str.ofString "IndexError") 134, .type "IndexError"⟩, ⟨PyData.keyHash P (Str.ofString "KeyError"), .str (Str.ofString "KeyError") 135, .type "KeyError"⟩, ⟨PyData.keyHash P (Str.ofString "ModuleNotFoundError"), .str (Str.ofString "ModuleNotFoundError") 136, .type "ModuleNotFoundError"⟩, ⟨PyData.keyHash P (Str.ofString "NotImplementedError"), .str (Str.ofString "NotImplementedError") 137, .type "NotImplementedError"⟩, ⟨PyData.keyHash P (Str.ofString "PythonFinalizationError"), .str (Str.ofString "PythonFinalizationError") 138, .type "PythonFinalizationError"⟩, ⟨PyData.keyHash P (Str.ofString "RecursionError"), .str (Str.ofString "RecursionError") 139, .type "RecursionError"⟩, ⟨PyData.keyHash P (Str.ofString "UnboundLocalError"), .str (Str.ofString "UnboundLocalError") 140, .type "UnboundLocalError"⟩, ⟨PyData.keyHash P (Str.ofString "UnicodeError"), .str (Str.ofString "UnicodeError") 141, .type "UnicodeError"⟩, ⟨PyData.keyHash P (Str.ofString "BrokenPipeError"), .str (Str.ofString "BrokenPipeError") 142, .type "BrokenPipeError"⟩, ⟨PyData.keyHash P (Str.ofString "ConnectionAbortedError"), .str (Str.ofString "ConnectionAbortedError") 143, .type "ConnectionAbortedError"⟩, ⟨PyData.keyHash P (Str.ofString "ConnectionRefusedError"), .str (Str.ofString "ConnectionRefusedError") 144, .type "ConnectionRefusedError"⟩, ⟨PyData.keyHash P (Str.ofString "ConnectionResetError"), .str (Str.ofString "ConnectionResetError") 145, .type "ConnectionResetError"⟩, ⟨PyData.keyHash P (Str.ofString "TabError"), .str (Str.ofString "TabError") 146, .type "TabError"⟩, ⟨PyData.keyHash P (Str.ofString "UnicodeDecodeError"), .str (Str.ofString "UnicodeDecodeError") 147, .type "UnicodeDecodeError"⟩, ⟨PyData.keyHash P (Str.ofString "UnicodeEncodeError"), .str (Str.ofString "UnicodeEncodeError") 148, .type "UnicodeEncodeError"⟩, ⟨PyData.keyHash P (Str.ofString "UnicodeTranslateError"), .str (Str.ofString "UnicodeTranslateError") 149, .type "UnicodeTranslateError"⟩, ⟨PyData.keyHash P (Str.ofString "ExceptionGroup"), .str (Str.ofString "ExceptionGroup") 150, .type "ExceptionGroup"⟩, ⟨PyData.keyHash P (Str.ofString "EnvironmentError"), .str (Str.ofString "EnvironmentError") 151, .type "OSError"⟩, ⟨PyData.keyHash P (Str.ofString "IOError"), .str (Str.ofString "IOError") 152, .type "OSError"⟩, ⟨PyData.keyHash P (Str.ofString "open"), .str (Str.ofString "open") 153, .builtin "open"⟩, ⟨PyData.keyHash P (Str.ofString "quit"), .str (Str.ofString "quit") 154, .builtin "builtins.quit#opaque"⟩, ⟨PyData.keyHash P (Str.ofString "exit"), .str (Str.ofString "exit") 155, .builtin "builtins.exit#opaque"⟩, ⟨PyData.keyHash P (Str.ofString "copyright"), .str (Str.ofString "copyright") 156, .builtin "builtins.copyright#opaque"⟩, ⟨PyData.keyHash P (Str.ofString "credits"), .str (Str.ofString "credits") 157, .builtin "builtins.credits#opaque"⟩, ⟨PyData.keyHash P (Str.ofString "license"), .str (Str.ofString "license") 158, .builtin "builtins.license#opaque"⟩, ⟨PyData.keyHash P (Str.ofString "help"), .str (Str.ofString "help") 159, .builtin "builtins.help#opaque"⟩] 159, #[]⟩
noncomputable def bS0_1 (P : Params) : Obj := ⟨.type "dict", none, .dict #[⟨PyData.keyHash P (Str.ofString "builtins"), .str (Str.ofString "builtins") 162, .ref 4⟩, ⟨PyData.keyHash P (Str.ofString "__main__"), .str (Str.ofString "__main__") 163, .ref 5⟩, ⟨PyData.keyHash P (Str.ofString "_sre"), .str (Str.ofString "_sre") 244, .ref 12⟩] 3, #[]⟩
noncomputable def bS0_3 (P : Params) : Obj := ⟨.type "dict", none, .dict #[⟨PyData.keyHash P (Str.ofString "__name__"), .str (Str.ofString "__name__") 165, .str (Str.ofString "__main__") 164⟩, ⟨PyData.keyHash P (Str.ofString "__doc__"), .str (Str.ofString "__doc__") 166, .none⟩, ⟨PyData.keyHash P (Str.ofString "__package__"), .str (Str.ofString "__package__") 167, .none⟩, ⟨PyData.keyHash P (Str.ofString "__loader__"), .str (Str.ofString "__loader__") 168, .builtin "__main__.__loader__#opaque"⟩, ⟨PyData.keyHash P (Str.ofString "__spec__"), .str (Str.ofString "__spec__") 169, .none⟩, ⟨PyData.keyHash P (Str.ofString "__annotations__"), .str (Str.ofString "__annotations__") 170, .ref 6⟩, ⟨PyData.keyHash P (Str.ofString "__builtins__"), .str (Str.ofString "__builtins__") 171, .ref 4⟩, ⟨PyData.keyHash P (Str.ofString "__file__"), .str (Str.ofString "__file__") 173, .str (Str.ofString "/claim/cut.py") 172⟩, ⟨PyData.keyHash P (Str.ofString "__cached__"), .str (Str.ofString "__cached__") 174, .none⟩, ⟨PyData.keyHash P (Str.ofString "_sre"), .str (Str.ofString "_sre") 275, .ref 12⟩] 10, #[]⟩
noncomputable def bS0_4 (_ : Params) : Obj := ⟨.type "module", some 0, .plain, #[]⟩
noncomputable def bS0_5 (_ : Params) : Obj := ⟨.type "module", some 3, .plain, #[]⟩
noncomputable def bS0_6 (_ : Params) : Obj := ⟨.type "dict", none, .dict #[] 0, #[]⟩
noncomputable def bS0_7 (_ : Params) : Obj := ⟨.type "tuple", none, .seq #[] 0, #[]⟩
noncomputable def bS0_8 (_ : Params) : Obj := ⟨.none, none, .fields #[], #[]⟩
noncomputable def bS0_9 (_ : Params) : Obj := ⟨.type "code", none, .fields #[.str (Str.ofString "<module>") 176, .str (Str.ofString "<module>") 177, .str (Str.ofString "/claim/cut.py") 178, .int 1 0, .int 0 0, .int 0 0, .int 0 0, .int 0 0, .ref 7, .bool false, .int 175 0, .ref 8, .none, .none, .none, .none, .int 179 0, .int 1 0, .str (Str.ofString "/claim/cut.py") 180], #[]⟩
noncomputable def bS0_10 (_ : Params) : Obj := ⟨.type "frame", none, .plain, #[some (.ref 9), some (.ref 3), some (.ref 3), none, some (.str (Str.ofString "__main__") 164), none, some (.ref 0)]⟩
noncomputable def bS0_11 (P : Params) : Obj := ⟨.type "dict", none, .dict #[⟨PyData.keyHash P (Str.ofString "__name__"), .str (Str.ofString "__name__") 247, .str (Str.ofString "_sre") 246⟩, ⟨PyData.keyHash P (Str.ofString "__doc__"), .str (Str.ofString "__doc__") 248, .none⟩, ⟨PyData.keyHash P (Str.ofString "__package__"), .str (Str.ofString "__package__") 250, .str (Str.ofString "") 249⟩, ⟨PyData.keyHash P (Str.ofString "__loader__"), .str (Str.ofString "__loader__") 251, .builtin "off-the-table:_sre.__loader__:shared#opaque"⟩, ⟨PyData.keyHash P (Str.ofString "__spec__"), .str (Str.ofString "__spec__") 252, .builtin "off-the-table:_sre.__spec__:shared#opaque"⟩, ⟨PyData.keyHash P (Str.ofString "compile"), .str (Str.ofString "compile") 253, .builtin "_sre.compile"⟩, ⟨PyData.keyHash P (Str.ofString "template"), .str (Str.ofString "template") 254, .builtin "off-the-table:_sre.template:shared#opaque"⟩, ⟨PyData.keyHash P (Str.ofString "getcodesize"), .str (Str.ofString "getcodesize") 255, .builtin "off-the-table:_sre.getcodesize:shared#opaque"⟩, ⟨PyData.keyHash P (Str.ofString "ascii_iscased"), .str (Str.ofString "ascii_iscased") 256, .builtin "off-the-table:_sre.ascii_iscased:shared#opaque"⟩, ⟨PyData.keyHash P (Str.ofString "unicode_iscased"), .str (Str.ofString "unicode_iscased") 257, .builtin "off-the-table:_sre.unicode_iscased:shared#opaque"⟩, ⟨PyData.keyHash P (Str.ofString "ascii_tolower"), .str (Str.ofString "ascii_tolower") 258, .builtin "off-the-table:_sre.ascii_tolower:shared#opaque"⟩, ⟨PyData.keyHash P (Str.ofString "unicode_tolower"), .str (Str.ofString "unicode_tolower") 259, .builtin "off-the-table:_sre.unicode_tolower:shared#opaque"⟩, ⟨PyData.keyHash P (Str.ofString "MAGIC"), .str (Str.ofString "MAGIC") 261, .int 20230612 260⟩, ⟨PyData.keyHash P (Str.ofString "CODESIZE"), .str (Str.ofString "CODESIZE") 263, .int 4 262⟩, ⟨PyData.keyHash P (Str.ofString "MAXREPEAT"), .str (Str.ofString "MAXREPEAT") 265, .int 4294967295 264⟩, ⟨PyData.keyHash P (Str.ofString "MAXGROUPS"), .str (Str.ofString "MAXGROUPS") 267, .int 1073741823 266⟩, ⟨PyData.keyHash P (Str.ofString "copyright"), .str (Str.ofString "copyright") 269, .str (Str.ofString " SRE 2.2.2 Copyright (c) 1997-2002 by Secret Labs AB ") 268⟩] 17, #[]⟩
noncomputable def bS0_12 (_ : Params) : Obj := ⟨.type "module", some 11, .plain, #[]⟩
noncomputable def bS0_13 (P : Params) : Obj := ⟨.type "dict", none, .dict #[⟨PyData.keyHash P (Str.ofString "__module__"), .str (Str.ofString "__module__") 189, .str (Str.ofString "_frozen_importlib") 186⟩, ⟨PyData.keyHash P (Str.ofString "__firstlineno__"), .str (Str.ofString "__firstlineno__") 190, .int 971 187⟩, ⟨PyData.keyHash P (Str.ofString "__doc__"), .str (Str.ofString "__doc__") 191, .builtin "_frozen_importlib.BuiltinImporter.__doc__:str#opaque"⟩, ⟨PyData.keyHash P (Str.ofString "_ORIGIN"), .str (Str.ofString "_ORIGIN") 192, .str (Str.ofString "built-in") 188⟩, ⟨PyData.keyHash P (Str.ofString "find_spec"), .str (Str.ofString "find_spec") 193, .builtin "_frozen_importlib.BuiltinImporter.find_spec#opaque"⟩, ⟨PyData.keyHash P (Str.ofString "create_module"), .str (Str.ofString "create_module") 194, .builtin "_frozen_importlib.BuiltinImporter.create_module#opaque"⟩, ⟨PyData.keyHash P (Str.ofString "exec_module"), .str (Str.ofString "exec_module") 195, .builtin "_frozen_importlib.BuiltinImporter.exec_module#opaque"⟩, ⟨PyData.keyHash P (Str.ofString "get_code"), .str (Str.ofString "get_code") 196, .builtin "_frozen_importlib.BuiltinImporter.get_code#opaque"⟩, ⟨PyData.keyHash P (Str.ofString "get_source"), .str (Str.ofString "get_source") 197, .builtin "_frozen_importlib.BuiltinImporter.get_source#opaque"⟩, ⟨PyData.keyHash P (Str.ofString "is_package"), .str (Str.ofString "is_package") 198, .builtin "_frozen_importlib.BuiltinImporter.is_package#opaque"⟩, ⟨PyData.keyHash P (Str.ofString "load_module"), .str (Str.ofString "load_module") 199, .builtin "_frozen_importlib.BuiltinImporter.load_module#opaque"⟩, ⟨PyData.keyHash P (Str.ofString "__static_attributes__"), .str (Str.ofString "__static_attributes__") 200, .ref 15⟩, ⟨PyData.keyHash P (Str.ofString "__dict__"), .str (Str.ofString "__dict__") 202, .ref 16⟩, ⟨PyData.keyHash P (Str.ofString "__weakref__"), .str (Str.ofString "__weakref__") 204, .ref 17⟩] 14, #[]⟩
noncomputable def bS0_14 (_ : Params) : Obj := ⟨.type "type", none, .cls { name := (Str.ofString "BuiltinImporter"), bases := [.type "object"], mro := [.ref 14, .type "object"], ns := 13, qualname := (Str.ofString "BuiltinImporter"), hasDict := true, slotNames := [] }, #[]⟩
noncomputable def bS0_15 (_ : Params) : Obj := ⟨.type "tuple", none, .seq #[] 0, #[]⟩
noncomputable def bS0_16 (_ : Params) : Obj := ⟨.type "getset_descriptor", none, .fields #[.str (Str.ofString "__dict__") 201, .ref 14, .builtin "function.__dict__", .builtin "function.__dict__#set"], #[]⟩
noncomputable def bS0_17 (_ : Params) : Obj := ⟨.type "getset_descriptor", none, .fields #[.str (Str.ofString "__weakref__") 203, .ref 14, .builtin "ExceptionGroup.__weakref__", .none], #[]⟩
noncomputable def bS0_18 (_ : Params) : Obj := ⟨.none, none, .seq #[.int 13 0, .str (Str.mk #[6, 189, 10, 95, 95, 109, 111, 100, 117, 108, 101, 95, 95, 6, 186, 17, 95, 102, 114, 111, 122, 101, 110, 95, 105, 109, 112, 111, 114, 116, 108, 105, 98, 6, 190, 15, 95, 95, 102, 105, 114, 115, 116, 108, 105, 110, 101, 110, 111, 95, 95, 4, 187, 0, 971, 6, 191, 7, 95, 95, 100, 111, 99, 95, 95, 9, 52, 95, 102, 114, 111, 122, 101, 110, 95, 105, 109, 112, 111, 114, 116, 108, 105, 98, 46, 66, 117, 105, 108, 116, 105, 110, 73, 109, 112, 111, 114, 116, 101, 114, 46, 95, 95, 100, 111, 99, 95, 95, 58, 115, 116, 114, 35, 111, 112, 97, 113, 117, 101, 6, 192, 7, 95, 79, 82, 73, 71, 73, 78, 6, 188, 8, 98, 117, 105, 108, 116, 45, 105, 110, 6, 193, 9, 102, 105, 110, 100, 95, 115, 112, 101, 99, 9, 50, 95, 102, 114, 111, 122, 101, 110, 95, 105, 109, 112, 111, 114, 116, 108, 105, 98, 46, 66, 117, 105, 108, 116, 105, 110, 73, 109, 112, 111, 114, 116, 101, 114, 46, 102, 105, 110, 100, 95, 115, 112, 101, 99, 35, 111, 112, 97, 113, 117, 101, 6, 194, 13, 99, 114, 101, 97, 116, 101, 95, 109, 111, 100, 117, 108, 101, 9, 54, 95, 102, 114, 111, 122, 101, 110, 95, 105, 109, 112, 111, 114, 116, 108, 105, 98, 46, 66, 117, 105, 108, 116, 105, 110, 73, 109, 112, 111, 114, 116, 101, 114, 46, 99, 114, 101, 97, 116, 101, 95, 109, 111, 100, 117, 108, 101, 35, 111, 112, 97, 113, 117, 101, 6, 195, 11, 101, 120, 101, 99, 95, 109, 111, 100, 117, 108, 101, 9, 52, 95, 102, 114, 111, 122, 101, 110, 95, 105, 109, 112, 111, 114, 116, 108, 105, 98, 46, 66, 117, 105, 108, 116, 105, 110, 73, 109, 112, 111, 114, 116, 101, 114, 46, 101, 120, 101, 99, 95, 109, 111, 100, 117, 108, 101, 35, 111, 112, 97, 113, 117, 101, 6, 196, 8, 103, 101, 116, 95, 99, 111, 100, 101, 9, 49, 95, 102, 114, 111, 122, 101, 110, 95, 105, 109, 112, 111, 114, 116, 108, 105, 98, 46, 66, 117, 105, 108, 116, 105, 110, 73, 109, 112, 111, 114, 116, 101, 114, 46, 103, 101, 116, 95, 99, 111, 100, 101, 35, 111, 112, 97, 113, 117, 101, 6, 197, 10, 103, 101, 116, 95, 115, 111, 117, 114, 99, 101, 9, 51, 95, 102, 114, 111, 122, 101, 110, 95, 105, 109, 112, 111, 114, 116, 108, 105, 98, 46, 66, 117, 105, 108, 116, 105, 110, 73, 109, 112, 111, 114, 116, 101, 114, 46, 103, 101, 116, 95, 115, 111, 117, 114, 99, 101, 35, 111, 112, 97, 113, 117, 101, 6, 198, 10, 105, 115, 95, 112, 97, 99, 107, 97, 103, 101, 9, 51, 95, 102, 114, 111, 122, 101, 110, 95, 105, 109, 112, 111, 114, 116, 108, 105, 98, 46, 66, 117, 105, 108, 116, 105, 110, 73, 109, 112, 111, 114, 116, 101, 114, 46, 105, 115, 95, 112, 97, 99, 107, 97, 103, 101, 35, 111, 112, 97, 113, 117, 101, 6, 199, 11, 108, 111, 97, 100, 95, 109, 111, 100, 117, 108, 101, 9, 52, 95, 102, 114, 111, 122, 101, 110, 95, 105, 109, 112, 111, 114, 116, 108, 105, 98, 46, 66, 117, 105, 108, 116, 105, 110, 73, 109, 112, 111, 114, 116, 101, 114, 46, 108, 111, 97, 100, 95, 109, 111, 100, 117, 108, 101, 35, 111, 112, 97, 113, 117, 101, 6, 200, 21, 95, 95, 115, 116, 97, 116, 105, 99, 95, 97, 116, 116, 114, 105, 98, 117, 116, 101, 115, 95, 95, 4, 0, 0, 15, 6, 202, 8, 95, 95, 100, 105, 99, 116, 95, 95, 4, 0, 0, 16, 6, 204, 11, 95, 95, 119, 101, 97, 107, 114, 101, 102, 95, 95, 4, 0, 0, 17]) 0, .bool true, .bool true, .str (Str.ofString "") 205, .int 21 0, .str (Str.mk #[6, 227, 10, 95, 95, 109, 111, 100, 117, 108, 101, 95, 95, 6, 217, 17, 95, 102, 114, 111, 122, 101, 110, 95, 105, 109, 112, 111, 114, 116, 108, 105, 98, 6, 228, 15, 95, 95, 102, 105, 114, 115, 116, 108, 105, 110, 101, 110, 111, 95, 95, 4, 218, 0, 562, 6, 229, 7, 95, 95, 100, 111, 99, 95, 95, 9, 47, 95, 102, 114, 111, 122, 101, 110, 95, 105, 109, 112, 111, 114, 116, 108, 105, 98, 46, 77, 111, 100, 117, 108, 101, 83, 112, 101, 99, 46, 95, 95, 100, 111, 99, 95, 95, 58, 115, 116, 114, 35, 111, 112, 97, 113, 117, 101, 6, 230, 8, 95, 95, 105, 110, 105, 116, 95, 95, 9, 44, 95, 102, 114, 111, 122, 101, 110, 95, 105, 109, 112, 111, 114, 116, 108, 105, 98, 46, 77, 111, 100, 117, 108, 101, 83, 112, 101, 99, 46, 95, 95, 105, 110, 105, 116, 95, 95, 35, 111, 112, 97, 113, 117, 101, 6, 231, 8, 95, 95, 114, 101, 112, 114, 95, 95, 9, 44, 95, 102, 114, 111, 122, 101, 110, 95, 105, 109, 112, 111, 114, 116, 108, 105, 98, 46, 77, 111, 100, 117, 108, 101, 83, 112, 101, 99, 46, 95, 95, 114, 101, 112, 114, 95, 95, 35, 111, 112, 97, 113, 117, 101, 6, 232, 6, 95, 95, 101, 113, 95, 95, 9, 42, 95, 102, 114, 111, 122, 101, 110, 95, 105, 109, 112, 111, 114, 116, 108, 105, 98, 46, 77, 111, 100, 117, 108, 101, 83, 112, 101, 99, 46, 95, 95, 101, 113, 95, 95, 35, 111, 112, 97, 113, 117, 101, 6, 233, 6, 99, 97, 99, 104, 101, 100, 9, 42, 95, 102, 114, 111, 122, 101, 110, 95, 105, 109, 112, 111, 114, 116, 108, 105, 98, 46, 77, 111, 100, 117, 108, 101, 83, 112, 101, 99, 46, 99, 97, 99, 104, 101, 100, 35, 111, 112, 97, 113, 117, 101, 6, 234, 6, 112, 97, 114, 101, 110, 116, 9, 42, 95, 102, 114, 111, 122, 101, 110, 95, 105, 109, 112, 111, 114, 116, 108, 105, 98, 46, 77, 111, 100, 117, 108, 101, 83, 112, 101, 99, 46, 112, 97, 114, 101, 110, 116, 35, 111, 112, 97, 113, 117, 101, 6, 235, 12, 104, 97, 115, 95, 108, 111, 99, 97, 116, 105, 111, 110, 9, 48, 95, 102, 114, 111, 122, 101, 110, 95, 105, 109, 112, 111, 114, 116, 108, 105, 98, 46, 77, 111, 100, 117, 108, 101, 83, 112, 101, 99, 46, 104, 97, 115, 95, 108, 111, 99, 97, 116, 105, 111, 110, 35, 111, 112, 97, 113, 117, 101, 6, 236, 21, 95, 95, 115, 116, 97, 116, 105, 99, 95, 97, 116, 116, 114, 105, 98, 117, 116, 101, 115, 95, 95, 4, 0, 0, 23, 6, 238, 8, 95, 95, 100, 105, 99, 116, 95, 95, 4, 0, 0, 24, 6, 240, 11, 95, 95, 119, 101, 97, 107, 114, 101, 102, 95, 95, 4, 0, 0, 25, 6, 241, 8, 95, 95, 104, 97, 115, 104, 95, 95, 0]) 0, .bool true, .bool true, .str (Str.ofString "") 242] 1, #[]⟩
noncomputable def bS0_19 (_ : Params) : Obj := ⟨.type "list", none, .seq #[] 0, #[]⟩
noncomputable def bS0_20 (P : Params) : Obj := ⟨.type "dict", none, .dict #[⟨PyData.keyHash P (Str.ofString "name"), .str (Str.ofString "name") 208, .str (Str.ofString "_sre") 207⟩, ⟨PyData.keyHash P (Str.ofString "loader"), .str (Str.ofString "loader") 209, .ref 14⟩, ⟨PyData.keyHash P (Str.ofString "origin"), .str (Str.ofString "origin") 210, .str (Str.ofString "built-in") 184⟩, ⟨PyData.keyHash P (Str.ofString "loader_state"), .str (Str.ofString "loader_state") 211, .none⟩, ⟨PyData.keyHash P (Str.ofString "submodule_search_locations"), .str (Str.ofString "submodule_search_locations") 212, .none⟩, ⟨PyData.keyHash P (Str.ofString "_uninitialized_submodules"), .str (Str.ofString "_uninitialized_submodules") 213, .ref 19⟩, ⟨PyData.keyHash P (Str.ofString "_set_fileattr"), .str (Str.ofString "_set_fileattr") 214, .bool false⟩, ⟨PyData.keyHash P (Str.ofString "_cached"), .str (Str.ofString "_cached") 215, .none⟩, ⟨PyData.keyHash P (Str.ofString "_initializing"), .str (Str.ofString "_initializing") 243, .bool false⟩] 9, #[]⟩
noncomputable def bS0_21 (P : Params) : Obj := ⟨.type "dict", none, .dict #[⟨PyData.keyHash P (Str.ofString "__module__"), .str (Str.ofString "__module__") 227, .str (Str.ofString "_frozen_importlib") 217⟩, ⟨PyData.keyHash P (Str.ofString "__firstlineno__"), .str (Str.ofString "__firstlineno__") 228, .int 562 218⟩, ⟨PyData.keyHash P (Str.ofString "__doc__"), .str (Str.ofString "__doc__") 229, .builtin "_frozen_importlib.ModuleSpec.__doc__:str#opaque"⟩, ⟨PyData.keyHash P (Str.ofString "__init__"), .str (Str.ofString "__init__") 230, .builtin "_frozen_importlib.ModuleSpec.__init__#opaque"⟩, ⟨PyData.keyHash P (Str.ofString "__repr__"), .str (Str.ofString "__repr__") 231, .builtin "_frozen_importlib.ModuleSpec.__repr__#opaque"⟩, ⟨PyData.keyHash P (Str.ofString "__eq__"), .str (Str.ofString "__eq__") 232, .builtin "_frozen_importlib.ModuleSpec.__eq__#opaque"⟩, ⟨PyData.keyHash P (Str.ofString "cached"), .str (Str.ofString "cached") 233, .builtin "_frozen_importlib.ModuleSpec.cached#opaque"⟩, ⟨PyData.keyHash P (Str.ofString "parent"), .str (Str.ofString "parent") 234, .builtin "_frozen_importlib.ModuleSpec.parent#opaque"⟩, ⟨PyData.keyHash P (Str.ofString "has_location"), .str (Str.ofString "has_location") 235, .builtin "_frozen_importlib.ModuleSpec.has_location#opaque"⟩, ⟨PyData.keyHash P (Str.ofString "__static_attributes__"), .str (Str.ofString "__static_attributes__") 236, .ref 23⟩, ⟨PyData.keyHash P (Str.ofString "__dict__"), .str (Str.ofString "__dict__") 238, .ref 24⟩, ⟨PyData.keyHash P (Str.ofString "__weakref__"), .str (Str.ofString "__weakref__") 240, .ref 25⟩, ⟨PyData.keyHash P (Str.ofString "__hash__"), .str (Str.ofString "__hash__") 241, .none⟩] 13, #[]⟩
noncomputable def bS0_22 (_ : Params) : Obj := ⟨.type "type", none, .cls { name := (Str.ofString "ModuleSpec"), bases := [.type "object"], mro := [.ref 22, .type "object"], ns := 21, qualname := (Str.ofString "ModuleSpec"), hasDict := true, slotNames := [] }, #[]⟩
noncomputable def bS0_23 (_ : Params) : Obj := ⟨.type "tuple", none, .seq #[.str (Str.ofString "_cached") 219, .str (Str.ofString "_set_fileattr") 220, .str (Str.ofString "_uninitialized_submodules") 221, .str (Str.ofString "loader") 222, .str (Str.ofString "loader_state") 223, .str (Str.ofString "name") 224, .str (Str.ofString "origin") 225, .str (Str.ofString "submodule_search_locations") 226] 0, #[]⟩
noncomputable def bS0_24 (_ : Params) : Obj := ⟨.type "getset_descriptor", none, .fields #[.str (Str.ofString "__dict__") 237, .ref 22, .builtin "function.__dict__", .builtin "function.__dict__#set"], #[]⟩
noncomputable def bS0_25 (_ : Params) : Obj := ⟨.type "getset_descriptor", none, .fields #[.str (Str.ofString "__weakref__") 239, .ref 22, .builtin "ExceptionGroup.__weakref__", .none], #[]⟩
noncomputable def bS0_26 (_ : Params) : Obj := ⟨.ref 22, some 20, .plain, #[]⟩
noncomputable def bS0_27 (_ : Params) : Obj := ⟨.none, none, .seq #[.int 11 0, .str (Str.mk #[6, 247, 8, 95, 95, 110, 97, 109, 101, 95, 95, 6, 246, 4, 95, 115, 114, 101, 6, 248, 7, 95, 95, 100, 111, 99, 95, 95, 0, 6, 250, 11, 95, 95, 112, 97, 99, 107, 97, 103, 101, 95, 95, 6, 249, 0, 6, 251, 10, 95, 95, 108, 111, 97, 100, 101, 114, 95, 95, 4, 0, 0, 14, 6, 252, 8, 95, 95, 115, 112, 101, 99, 95, 95, 4, 0, 0, 26, 6, 253, 7, 99, 111, 109, 112, 105, 108, 101, 9, 12, 95, 115, 114, 101, 46, 99, 111, 109, 112, 105, 108, 101, 6, 254, 8, 116, 101, 109, 112, 108, 97, 116, 101, 9, 13, 95, 115, 114, 101, 46, 116, 101, 109, 112, 108, 97, 116, 101, 6, 255, 11, 103, 101, 116, 99, 111, 100, 101, 115, 105, 122, 101, 9, 16, 95, 115, 114, 101, 46, 103, 101, 116, 99, 111, 100, 101, 115, 105, 122, 101, 6, 256, 13, 97, 115, 99, 105, 105, 95, 105, 115, 99, 97, 115, 101, 100, 9, 18, 95, 115, 114, 101, 46, 97, 115, 99, 105, 105, 95, 105, 115, 99, 97, 115, 101, 100, 6, 257, 15, 117, 110, 105, 99, 111, 100, 101, 95, 105, 115, 99, 97, 115, 101, 100, 9, 20, 95, 115, 114, 101, 46, 117, 110, 105, 99, 111, 100, 101, 95, 105, 115, 99, 97, 115, 101, 100, 6, 258, 13, 97, 115, 99, 105, 105, 95, 116, 111, 108, 111, 119, 101, 114, 9, 18, 95, 115, 114, 101, 46, 97, 115, 99, 105, 105, 95, 116, 111, 108, 111, 119, 101, 114, 6, 259, 15, 117, 110, 105, 99, 111, 100, 101, 95, 116, 111, 108, 111, 119, 101, 114, 9, 20, 95, 115, 114, 101, 46, 117, 110, 105, 99, 111, 100, 101, 95, 116, 111, 108, 111, 119, 101, 114, 6, 261, 5, 77, 65, 71, 73, 67, 4, 260, 0, 20230612, 6, 263, 8, 67, 79, 68, 69, 83, 73, 90, 69, 4, 262, 0, 4, 6, 265, 9, 77, 65, 88, 82, 69, 80, 69, 65, 84, 4, 264, 0, 4294967295, 6, 267, 9, 77, 65, 88, 71, 82, 79, 85, 80, 83, 4, 266, 0, 1073741823, 6, 269, 9, 99, 111, 112, 121, 114, 105, 103, 104, 116, 6, 268, 53, 32, 83, 82, 69, 32, 50, 46, 50, 46, 50, 32, 67, 111, 112, 121, 114, 105, 103, 104, 116, 32, 40, 99, 41, 32, 49, 57, 57, 55, 45, 50, 48, 48, 50, 32, 98, 121, 32, 83, 101, 99, 114, 101, 116, 32, 76, 97, 98, 115, 32, 65, 66, 32]) 0, .bool true, .bool false, .str (Str.ofString "_sre") 271] 0, #[]⟩
noncomputable def lS0 (P : Params) : List Obj := bS0_0 P :: bS0_1 P :: ob2 P :: bS0_3 P :: bS0_4 P :: bS0_5 P :: bS0_6 P :: bS0_7 P :: bS0_8 P :: bS0_9 P :: bS0_10 P :: bS0_11 P :: bS0_12 P :: bS0_13 P :: bS0_14 P :: bS0_15 P :: bS0_16 P :: bS0_17 P :: bS0_18 P :: bS0_19 P :: bS0_20 P :: bS0_21 P :: bS0_22 P :: bS0_23 P :: bS0_24 P :: bS0_25 P :: bS0_26 P :: bS0_27 P :: []
noncomputable def bSA_28 (_ : Params) : Obj := ⟨.type "tuple", none, .seq #[] 0, #[]⟩
noncomputable def bSA_29 (_ : Params) : Obj := ⟨.none, none, .fields #[], #[]⟩
noncomputable def bSA_30 (_ : Params) : Obj := ⟨.type "code", none, .fields #[.str (Str.ofString "<module>") 277, .str (Str.ofString "<module>") 278, .str (Str.ofString "/claim/cut.py") 279, .int 1 0, .int 0 0, .int 0 0, .int 0 0, .int 0 0, .ref 28, .bool false, .int 276 0, .ref 29, .none, .none, .none, .none, .int 280 0, .int 1 0, .str (Str.ofString "/claim/cut.py") 281], #[]⟩
noncomputable def bSA_31 (_ : Params) : Obj := ⟨.type "frame", none, .plain, #[some (.ref 30), some (.ref 3), some (.ref 3), none, some (.str (Str.ofString "__main__") 164), none, some (.ref 0)]⟩
noncomputable def lSA (P : Params) : List Obj := bS0_0 P :: bS0_1 P :: ob2 P :: bS0_3 P :: bS0_4 P :: bS0_5 P :: bS0_6 P :: bS0_7 P :: bS0_8 P :: bS0_9 P :: bS0_10 P :: bS0_11 P :: bS0_12 P :: bS0_13 P :: bS0_14 P :: bS0_15 P :: bS0_16 P :: bS0_17 P :: bS0_18 P :: bS0_19 P :: bS0_20 P :: bS0_21 P :: bS0_22 P :: bS0_23 P :: bS0_24 P :: bS0_25 P :: bS0_26 P :: bS0_27 P :: bSA_28 P :: bSA_29 P :: bSA_30 P :: bSA_31 P :: []
noncomputable def bS1_3 (P : Params) : Obj := ⟨.type "dict", none, .dict #[⟨PyData.keyHash P (Str.ofString "__name__"), .str (Str.ofString "__name__") 165, .str (Str.ofString "__main__") 164⟩, ⟨PyData.keyHash P (Str.ofString "__doc__"), .str (Str.ofString "__doc__") 166, .none⟩, ⟨PyData.keyHash P (Str.ofString "__package__"), .str (Str.ofString "__package__") 167, .none⟩, ⟨PyData.keyHash P (Str.ofString "__loader__"), .str (Str.ofString "__loader__") 168, .builtin "__main__.__loader__#opaque"⟩, ⟨PyData.keyHash P (Str.ofString "__spec__"), .str (Str.ofString "__spec__") 169, .none⟩, ⟨PyData.keyHash P (Str.ofString "__annotations__"), .str (Str.ofString "__annotations__") 170, .ref 6⟩, ⟨PyData.keyHash P (Str.ofString "__builtins__"), .str (Str.ofString "__builtins__") 171, .ref 4⟩, ⟨PyData.keyHash P (Str.ofString "__file__"), .str (Str.ofString "__file__") 173, .str (Str.ofString "/claim/cut.py") 172⟩, ⟨PyData.keyHash P (Str.ofString "__cached__"), .str (Str.ofString "__cached__") 174, .none⟩, ⟨PyData.keyHash P (Str.ofString "_sre"), .str (Str.ofString "_sre") 275, .ref 12⟩, ⟨PyData.keyHash P (Str.ofString "twin_re_1_quoprimime"), .str (Str.ofString "twin_re_1_quoprimime") 316, .ref 36⟩, ⟨PyData.keyHash P (Str.ofString "_QUOPRI_MAP"), .str (Str.ofString "_QUOPRI_MAP") 1344, .ref 39⟩] 12, #[]⟩
noncomputable def bS1_32 (_ : Params) : Obj := ⟨.type "list", none, .seq #[.int 14 285, .int 8 286, .int 1 287, .int 3 288, .int 3 289, .int 1 290, .int 1 291, .int 61 292, .int 0 293, .int 16 294, .int 61 295, .int 24 296, .int 16 297, .int 2 298, .int 2 299, .int 13 300, .int 11 301, .int 9 302, .int 0 303, .int 67043328 304, .int 126 305, .int 126 306, .int 0 307, .int 0 308, .int 0 309, .int 0 310, .int 0 311, .int 1 312, .int 1 313] 0, #[]⟩
noncomputable def bS1_33 (_ : Params) : Obj := ⟨.type "dict", none, .dict #[] 0, #[]⟩
noncomputable def bS1_34 (_ : Params) : Obj := ⟨.type "tuple", none, .seq #[.none] 0, #[]⟩
noncomputable def bS1_37 (_ : Params) : Obj := ⟨.type "range", none, .fields #[.int 0 318, .int 256 317, .int 1 319], #[]⟩
noncomputable def bS1_38 (_ : Params) : Obj := ⟨.type "range_iterator", none, .fields #[.int 256 0, .int 0 0, .int 1 0], #[]⟩
noncomputable def bS1_39 (_ : Params) : Obj := ⟨.type "list", none, .seq #[.str (Str.ofString "=00") 323, .str (Str.ofString "=01") 327, .str (Str.ofString "=02") 331, .str (Str.ofString "=03") 335, .str (Str.ofString "=04") 339, .str (Str.ofString "=05") 343, .str (Str.ofString "=06") 347, .str (Str.ofString "=07") 351, .str (Str.ofString "=08") 355, .str (Str.ofString "=09") 359, .str (Str.ofString "=0A") 363, .str (Str.ofString "=0B") 367, .str (Str.ofString "=0C") 371, .str (Str.ofString "=0D") 375, .str (Str.ofString "=0E") 379, .str (Str.ofString "=0F") 383, .str (Str.ofString "=10") 387, .str (Str.ofString "=11") 391, .str (Str.ofString "=12") 395, .str (Str.ofString "=13") 399, .str (Str.ofString "=14") 403, .str (Str.ofString "=15") 407, .str (Str.ofString "=16") 411, .str (Str.ofString "=17") 415, .str (Str.ofString "=18") 419, .str (Str.ofString "=19") 423, .str (Str.ofString "=1A") 427, .str (Str.ofString "=1B") 431, .str (Str.ofString "=1C") 435, .str (Str.ofString "=1D") 439, .str (Str.ofString "=1E") 443, .str (Str.ofString "=1F") 447, .str (Str.ofString "=20") 451, .str (Str.ofString "=21") 455, .str (Str.ofString "=22") 459, .str (Str.ofString "=23") 463, .str (Str.ofString "=24") 467, .str (Str.ofString "=25") 471, .str (Str.ofString "=26") 475, .str (Str.ofString "=27") 479, .str (Str.ofString "=28") 483, .str (Str.ofString "=29") 487, .str (Str.ofString "=2A") 491, .str (Str.ofString "=2B") 495, .str (Str.ofString "=2C") 499, .str (Str.ofString "=2D") 503, .str (Str.ofString "=2E") 507, .str (Str.ofString "=2F") 511, .str (Str.ofString "=30") 515, .str (Str.ofString "=31") 519, .str (Str.ofString "=32") 523, .str (Str.ofString "=33") 527, .str (Str.ofString "=34") 531, .str (Str.ofString "=35") 535, .str (Str.ofString "=36") 539, .str (Str.ofString "=37") 543, .str (Str.ofString "=38") 547, .str (Str.ofString "=39") 551, .str (Str.ofString "=3A") 555, .str (Str.ofString "=3B") 559, .str (Str.ofString "=3C") 563, .str (Str.ofString "=3D") 567, .str (Str.ofString "=3E") 571, .str (Str.ofString "=3F") 575, .str (Str.ofString "=40") 579, .str (Str.ofString "=41") 583, .str (Str.ofString "=42") 587, .str (Str.ofString "=43") 591, .str (Str.ofString "=44") 595, .str (Str.ofString "=45") 599, .str (Str.ofString "=46") 603, .str (Str.ofString "=47") 607, .str (Str.ofString "=48") 611, .str (Str.ofString "=49") 615, .str (Str.ofString "=4A") 619, .str (Str.ofString "=4B") 623, .str (Str.ofString "=4C") 627, .str (Str.ofString "=4D") 631, .str (Str.ofString "=4E") 635, .str (Str.ofString "=4F") 639, .str (Str.ofString "=50") 643, .str (Str.ofString "=51") 647, .str (Str.ofString "=52") 651, .str (Str.ofString "=53") 655, .str (Str.ofString "=54") 659, .str (Str.ofString "=55") 663, .str (Str.ofString "=56") 667, .str (Str.ofString "=57") 671, .str (Str.ofString "=58") 675, .str (Str.ofString "=59") 679, .str (Str.ofString "=5A") 683, .str (Str.ofString "=5B") 687, .str (Str.ofString "=5C") 691, .str (Str.ofString "=5D") 695, .str (Str.ofString "=5E") 699, .str (Str.ofString "=5F") 703, .str (Str.ofString "=60") 707, .str (Str.ofString "=61") 711, .str (Str.ofString "=62") 715, .str (Str.ofString "=63") 719, .str (Str.ofString "=64") 723, .str (Str.ofString "=65") 727, .str (Str.ofString "=66") 731, .str (Str.ofString "=67") 735, .str (Str.ofString "=68") 739, .str (Str.ofString "=69") 743, .str (Str.ofString "=6A") 747, .str (Str.ofString "=6B") 751, .str (Str.ofString "=6C") 755, .str (Str.ofString "=6D") 759, .str (Str.ofString "=6E") 763, .str (Str.ofString "=6F") 767, .str (Str.ofString "=70") 771, .str (Str.ofString "=71") 775, .str (Str.ofString "=72") 779, .str (Str.ofString "=73") 783, .str (Str.ofString "=74") 787, .str (Str.ofString "=75") 791, .str (Str.ofString "=76") 795, .str (Str.ofString "=77") 799, .str (Str.ofString "=78") 803, .str (Str.ofString "=79") 807, .str (Str.ofString "=7A") 811, .str (Str.ofString "=7B") 815, .str (Str.ofString "=7C") 819, .str (Str.ofString "=7D") 823, .str (Str.ofString "=7E") 827, .str (Str.ofString "=7F") 831, .str (Str.ofString "=80") 835, .str (Str.ofString "=81") 839, .str (Str.ofString "=82") 843, .str (Str.ofString "=83") 847, .str (Str.ofString "=84") 851, .str (Str.ofString "=85") 855, .str (Str.ofString "=86") 859, .str (Str.ofString "=87") 863, .str (Str.ofString "=88") 867, .str (Str.ofString "=89") 871, .str (Str.ofString "=8A") 875, .str (Str.ofString "=8B") 879, .str (Str.ofString "=8C") 883, .str (Str.ofString "=8D") 887, .str (Str.ofString "=8E") 891, .str (Str.ofString "=8F") 895, .str (Str.ofString "=90") 899, .str (Str.ofString "=91") 903, .str (Str.ofString "=92") 907, .str (Str.ofString "=93") 911, .str (Str.ofString "=94") 915, .str (Str.ofString "=95") 919, .str (Str.ofString "=96") 923, .str (Str.ofString "=97") 927, .str (Str.ofString "=98") 931, .str (Str.ofString "=99") 935, .str (Str.ofString "=9A") 939, .str (Str.ofString "=9B") 943, .str (Str.ofString "=9C") 947, .str (Str.ofString "=9D") 951, .str (Str.ofString "=9E") 955, .str (Str.ofString "=9F") 959, .str (Str.ofString "=A0") 963, .str (Str.ofString "=A1") 967, .str (Str.ofString "=A2") 971, .str (Str.ofString "=A3") 975, .str (Str.ofString "=A4") 979, .str (Str.ofString "=A5") 983, .str (Str.ofString "=A6") 987, .str (Str.ofString "=A7") 991, .str (Str.ofString "=A8") 995, .str (Str.ofString "=A9") 999, .str (Str.ofString "=AA") 1003, .str (Str.ofString "=AB") 1007, .str (Str.ofString "=AC") 1011, .str (Str.ofString "=AD") 1015, .str (Str.ofString "=AE") 1019, .str (Str.ofString "=AF") 1023, .str (Str.ofString "=B0") 1027, .str (Str.ofString "=B1") 1031, .str (Str.ofString "=B2") 1035, .str (Str.ofString "=B3") 1039, .str (Str.ofString "=B4") 1043, .str (Str.ofString "=B5") 1047, .str (Str.ofString "=B6") 1051, .str (Str.ofString "=B7") 1055, .str (Str.ofString "=B8") 1059, .str (Str.ofString "=B9") 1063, .str (Str.ofString "=BA") 1067, .str (Str.ofString "=BB") 1071, .str (Str.ofString "=BC") 1075, .str (Str.ofString "=BD") 1079, .str (Str.ofString "=BE") 1083, .str (Str.ofString "=BF") 1087, .str (Str.ofString "=C0") 1091, .str (Str.ofString "=C1") 1095, .str (Str.ofString "=C2") 1099, .str (Str.ofString "=C3") 1103, .str (Str.ofString "=C4") 1107, .str (Str.ofString "=C5") 1111, .str (Str.ofString "=C6") 1115, .str (Str.ofString "=C7") 1119, .str (Str.ofString "=C8") 1123, .str (Str.ofString "=C9") 1127, .str (Str.ofString "=CA") 1131, .str (Str.ofString "=CB") 1135, .str (Str.ofString "=CC") 1139, .str (Str.ofString "=CD") 1143, .str (Str.ofString "=CE") 1147, .str (Str.ofString "=CF") 1151, .str (Str.ofString "=D0") 1155, .str (Str.ofString "=D1") 1159, .str (Str.ofString "=D2") 1163, .str (Str.ofString "=D3") 1167, .str (Str.ofString "=D4") 1171, .str (Str.ofString "=D5") 1175, .str (Str.ofString "=D6") 1179, .str (Str.ofString "=D7") 1183, .str (Str.ofString "=D8") 1187, .str (Str.ofString "=D9") 1191, .str (Str.ofString "=DA") 1195, .str (Str.ofString "=DB") 1199, .str (Str.ofString "=DC") 1203, .str (Str.ofString "=DD") 1207, .str (Str.ofString "=DE") 1211, .str (Str.ofString "=DF") 1215, .str (Str.ofString "=E0") 1219, .str (Str.ofString "=E1") 1223, .str (Str.ofString "=E2") 1227, .str (Str.ofString "=E3") 1231, .str (Str.ofString "=E4") 1235, .str (Str.ofString "=E5") 1239, .str (Str.ofString "=E6") 1243, .str (Str.ofString "=E7") 1247, .str (Str.ofString "=E8") 1251, .str (Str.ofString "=E9") 1255, .str (Str.ofString "=EA") 1259, .str (Str.ofString "=EB") 1263, .str (Str.ofString "=EC") 1267, .str (Str.ofString "=ED") 1271, .str (Str.ofString "=EE") 1275, .str (Str.ofString "=EF") 1279, .str (Str.ofString "=F0") 1283, .str (Str.ofString "=F1") 1287, .str (Str.ofString "=F2") 1291, .str (Str.ofString "=F3") 1295, .str (Str.ofString "=F4") 1299, .str (Str.ofString "=F5") 1303, .str (Str.ofString "=F6") 1307, .str (Str.ofString "=F7") 1311, .str (Str.ofString "=F8") 1315, .str (Str.ofString "=F9") 1319, .str (Str.ofString "=FA") 1323, .str (Str.ofString "=FB") 1327, .str (Str.ofString "=FC") 1331, .str (Str.ofString "=FD") 1335, .str (Str.ofString "=FE") 1339, .str (Str.ofString "=FF") 1343] 256, #[]⟩
noncomputable def bS1_40 (_ : Params) : Obj := ⟨.type "dict", none, .dict #[] 2, #[]⟩
noncomputable def bS1_41 (_ : Params) : Obj := ⟨.type "tuple", none, .seq #[] 0, #[]⟩
noncomputable def bS1_42 (_ : Params) : Obj := ⟨.type "StopIteration", none, .fields #[.ref 41, .none, .none, .none, .bool false, .none], #[]⟩
noncomputable def lS1 (P : Params) : List Obj := bS0_0 P :: bS0_1 P :: ob2 P :: bS1_3 P :: bS0_4 P :: bS0_5 P :: bS0_6 P :: bS0_7 P :: bS0_8 P :: bS0_9 P :: bS0_10 P :: bS0_11 P :: bS0_12 P :: bS0_13 P :: bS0_14 P :: bS0_15 P :: bS0_16 P :: bS0_17 P :: bS0_18 P :: bS0_19 P :: bS0_20 P :: bS0_21 P :: bS0_22 P :: bS0_23 P :: bS0_24 P :: bS0_25 P :: bS0_26 P :: bS0_27 P :: bSA_28 P :: bSA_29 P :: bSA_30 P :: bSA_31 P :: bS1_32 P :: bS1_33 P :: bS1_34 P :: ob35 P :: ob36 P :: bS1_37 P :: bS1_38 P :: bS1_39 P :: bS1_40 P :: bS1_41 P :: bS1_42 P :: []
noncomputable def bS9_3 (P : Params) : Obj := ⟨.type "dict", none, .dict #[⟨PyData.keyHash P (Str.ofString "__name__"), .str (Str.ofString "__name__") 165, .str (Str.ofString "cpy313.email.quoprimime") 1355⟩, ⟨PyData.keyHash P (Str.ofString "__doc__"), .str (Str.ofString "__doc__") 166, .none⟩, ⟨PyData.keyHash P (Str.ofString "__package__"), .str (Str.ofString "__package__") 167, .none⟩, ⟨PyData.keyHash P (Str.ofString "__loader__"), .str (Str.ofString "__loader__") 168, .builtin "__main__.__loader__#opaque"⟩, ⟨PyData.keyHash P (Str.ofString "__spec__"), .str (Str.ofString "__spec__") 169, .none⟩, ⟨PyData.keyHash P (Str.ofString "__annotations__"), .str (Str.ofString "__annotations__") 170, .ref 6⟩, ⟨PyData.keyHash P (Str.ofString "__builtins__"), .str (Str.ofString "__builtins__") 171, .ref 4⟩, ⟨PyData.keyHash P (Str.ofString "__file__"), .str (Str.ofString "__file__") 173, .str (Str.ofString "/claim/cut.py") 172⟩, ⟨PyData.keyHash P (Str.ofString "__cached__"), .str (Str.ofString "__cached__") 174, .none⟩, ⟨PyData.keyHash P (Str.ofString "_sre"), .str (Str.ofString "_sre") 275, .ref 12⟩, ⟨PyData.keyHash P (Str.ofString "twin_re_1_quoprimime"), .str (Str.ofString "twin_re_1_quoprimime") 316, .ref 36⟩, ⟨PyData.keyHash P (Str.ofString "_QUOPRI_MAP"), .str (Str.ofString "_QUOPRI_MAP") 1344, .ref 39⟩, ⟨PyData.keyHash P (Str.ofString "_QUOPRI_HEADER_MAP"), .str (Str.ofString "_QUOPRI_HEADER_MAP") 1345, .ref 44⟩, ⟨PyData.keyHash P (Str.ofString "_QUOPRI_BODY_MAP"), .str (Str.ofString "_QUOPRI_BODY_MAP") 1346, .ref 46⟩, ⟨PyData.keyHash P (Str.ofString "ascii_lowercase"), .str (Str.ofString "ascii_lowercase") 1348, .str (Str.ofString "abcdefghijklmnopqrstuvwxyz") 1347⟩, ⟨PyData.keyHash P (Str.ofString "ascii_uppercase"), .str (Str.ofString "ascii_uppercase") 1350, .str (Str.ofString "ABCDEFGHIJKLMNOPQRSTUVWXYZ") 1349⟩, ⟨PyData.keyHash P (Str.ofString "ascii_letters"), .str (Str.ofString "ascii_letters") 1352, .str (Str.ofString "abcdefghijklmnopqrstuvwxyzABCDEFGHIJKLMNOPQRSTUVWXYZ") 1351⟩, ⟨PyData.keyHash P (Str.ofString "digits"), .str (Str.ofString "digits") 1354, .str (Str.ofString "0123456789") 1353⟩, ⟨PyData.keyHash P (Str.ofString "c"), .str (Str.ofString "c") 1365, .int 57 1562⟩] 19, #[]⟩
noncomputable def bS9_43 (_ : Params) : Obj := ⟨.type "slice", none, .fields #[.none, .none, .none], #[]⟩
noncomputable def bS9_44 (P : Params) : Obj := ⟨.type "list", none, .seq #[.str (Str.ofString "=00") 323, .str (Str.ofString "=01") 327, .str (Str.ofString "=02") 331, .str (Str.ofString "=03") 335, .str (Str.ofString "=04") 339, .str (Str.ofString "=05") 343, .str (Str.ofString "=06") 347, .str (Str.ofString "=07") 351, .str (Str.ofString "=08") 355, .str (Str.ofString "=09") 359, .str (Str.ofString "=0A") 363, .str (Str.ofString "=0B") 367, .str (Str.ofString "=0C") 371, .str (Str.ofString "=0D") 375, .str (Str.ofString "=0E") 379, .str (Str.ofString "=0F") 383, .str (Str.ofString "=10") 387, .str (Str.ofString "=11") 391, .str (Str.ofString "=12") 395, .str (Str.ofString "=13") 399, .str (Str.ofString "=14") 403, .str (Str.ofString "=15") 407, .str (Str.ofString "=16") 411, .str (Str.ofString "=17") 415, .str (Str.ofString "=18") 419, .str (Str.ofString "=19") 423, .str (Str.ofString "=1A") 427, .str (Str.ofString "=1B") 431, .str (Str.ofString "=1C") 435, .str (Str.ofString "=1D") 439, .str (Str.ofString "=1E") 443, .str (Str.ofString "=1F") 447, .str (Str.ofString "=20") 451, .str (Str.ofString "!") 1369, .str (Str.ofString "=22") 459, .str (Str.ofString "=23") 463, .str (Str.ofString "=24") 467, .str (Str.ofString "=25") 471, .str (Str.ofString "=26") 475, .str (Str.ofString "=27") 479, .str (Str.ofString "=28") 483, .str (Str.ofString "=29") 487, .str (Str.ofString "*") 1372, .str (Str.ofString "+") 1375, .str (Str.ofString "=2C") 499, .str (Str.ofString "-") 1366, .str (Str.ofString "=2E") 507, .str (Str.ofString "/") 1378, .str (Str.ofString "0") 1537, .str (Str.ofString "1") 1540, .str (Str.ofString "2") 1543, .str (Str.ofString "3") 1546, .str (Str.ofString "4") 1549, .str (Str.ofString "5") 1552, .str (Str.ofString "6") 1555, .str (Str.ofString "7") 1558, .str (Str.ofString "8") 1561, .str (Str.ofString "9") 1564, .str (Str.ofString "=3A") 555, .str (Str.ofString "=3B") 559, .str (Str.ofString "=3C") 563, .str (Str.ofString "=3D") 567, .str (Str.ofString "=3E") 571, .str (Str.ofString "=3F") 575, .str (Str.ofString "=40") 579, .str (Str.ofString "A") 1459, .str (Str.ofString "B") 1462, .str (Str.ofString "C") 1465, .str (Str.ofString "D") 1468, .str (Str.ofString "E") 1471, .str (Str.ofString "F") 1474, .str (Str.ofString "G") 1477, .str (Str.ofString "H") 1480, .str (Str.ofString "I") 1483, .str (Str.ofString "J") 1486, .str (Str.ofString "K") 1489, .str (Str.ofString "L") 1492, .str (Str.ofString "M") 1495, .str (Str.ofString "N") 1498, .str (Str.ofString "O") 1501, .str (Str.ofString "P") 1504, .str (Str.ofString "Q") 1507, .str (Str.ofString "R") 1510, .str (Str.ofString "S") 1513, .str (Str.ofString "T") 1516, .str (Str.ofString "U") 1519, .str (Str.ofString "V") 1522, .str (Str.ofString "W") 1525, .str (Str.ofString "X") 1528, .str (Str.ofString "Y") 1531, .str (Str.ofString "Z") 1534, .str (Str.ofString "=5B") 687, .str (Str.ofString "=5C") 691, .str (Str.ofString "=5D") 695, .str (Str.ofString "=5E") 699, .str (Str.ofString "=5F") 703, .str (Str.ofString "=60") 707, .str (Str.ofString "a") 1381, .str (Str.ofString "b") 1384, .str (Str.ofString "c") 1387, .str (Str.ofString "d") 1390, .str (Str.ofString "e") 1393, .str (Str.ofString "f") 1396, .str (Str.ofString "g") 1399, .str (Str.ofString "h") 1402, .str (Str.ofString "i") 1405, .str (Str.ofString "j") 1408, .str (Str.ofString "k") 1411, .str (Str.ofString "l") 1414, .str (Str.ofString "m") 1417, .str (Str.ofString "n") 1420, .str (Str.ofString "o") 1423, .str (Str.ofString "p") 1426, .str (Str.ofString "q") 1429, .str (Str.ofString "r") 1432, .str (Str.ofString "s") 1435, .str (Str.ofString "t") 1438, .str (Str.ofString "u") 1441, .str (Str.ofString "v") 1444, .str (Str.ofString "w") 1447, .str (Str.ofString "x") 1450, .str (Str.ofString "y") 1453, .str (Str.ofString "z") 1456, .str (Str.ofString "=7B") 815, .str (Str.ofString "=7C") 819, .str (Str.ofString "=7D") 823, .str (Str.ofString "=7E") 827, .str (Str.ofString "=7F") 831, .str (Str.ofString "=80") 835, .str (Str.ofString "=81") 839, .str (Str.ofString "=82") 843, .str (Str.ofString "=83") 847, .str (Str.ofString "=84") 851, .str (Str.ofString "=85") 855, .str (Str.ofString "=86") 859, .str (Str.ofString "=87") 863, .str (Str.ofString "=88") 867, .str (Str.ofString "=89") 871, .str (Str.ofString "=8A") 875, .str (Str.ofString "=8B") 879, .str (Str.ofString "=8C") 883, .str (Str.ofString "=8D") 887, .str (Str.ofString "=8E") 891, .str (Str.ofString "=8F") 895, .str (Str.ofString "=90") 899, .str (Str.ofString "=91") 903, .str (Str.ofString "=92") 907, .str (Str.ofString "=93") 911, .str (Str.ofString "=94") 915, .str (Str.ofString "=95") 919, .str (Str.ofString "=96") 923, .str (Str.ofString "=97") 927, .str (Str.ofString "=98") 931, .str (Str.ofString "=99") 935, .str (Str.ofString "=9A") 939, .str (Str.ofString "=9B") 943, .str (Str.ofString "=9C") 947, .str (Str.ofString "=9D") 951, .str (Str.ofString "=9E") 955, .str (Str.ofString "=9F") 959, .str (Str.ofString "=A0") 963, .str (Str.ofString "=A1") 967, .str (Str.ofString "=A2") 971, .str (Str.ofString "=A3") 975, .str (Str.ofString "=A4") 979, .str (Str.ofString "=A5") 983, .str (Str.ofString "=A6") 987, .str (Str.ofString "=A7") 991, .str (Str.ofString "=A8") 995, .str (Str.ofString "=A9") 999, .str (Str.ofString "=AA") 1003, .str (Str.ofString "=AB") 1007, .str (Str.ofString "=AC") 1011, .str (Str.ofString "=AD") 1015, .str (Str.ofString "=AE") 1019, .str (Str.ofString "=AF") 1023, .str (Str.ofString "=B0") 1027, .str (Str.ofString "=B1") 1031, .str (Str.ofString "=B2") 1035, .str (Str.ofString "=B3") 1039, .str (Str.ofString "=B4") 1043, .str (Str.ofString "=B5") 1047, .str (Str.ofString "=B6") 1051, .str (Str.ofString "=B7") 1055, .str (Str.ofString "=B8") 1059, .str (Str.ofString "=B9") 1063, .str (Str.ofString "=BA") 1067, .str (Str.ofString "=BB") 1071, .str (Str.ofString "=BC") 1075, .str (Str.ofString "=BD") 1079, .str (Str.ofString "=BE") 1083, .str (Str.ofString "=BF") 1087, .str (Str.ofString "=C0") 1091, .str (Str.ofString "=C1") 1095, .str (Str.ofString "=C2") 1099, .str (Str.ofString "=C3") 1103, .str (Str.ofString "=C4") 1107, .str (Str.ofString "=C5") 1111, .str (Str.ofString "=C6") 1115, .str (Str.ofString "=C7") 1119, .str (Str.ofString "=C8") 1123, .str (Str.ofString "=C9") 1127, .str (Str.ofString "=CA") 1131, .str (Str.ofString "=CB") 1135, .str (Str.ofString "=CC") 1139, .str (Str.ofString "=CD") 1143, .str (Str.ofString "=CE") 1147, .str (Str.ofString "=CF") 1151, .str (Str.ofString "=D0") 1155, .str (Str.ofString "=D1") 1159, .str (Str.ofString "=D2") 1163, .str (Str.ofString "=D3") 1167, .str (Str.ofString "=D4") 1171, .str (Str.ofString "=D5") 1175, .str (Str.ofString "=D6") 1179, .str (Str.ofString "=D7") 1183, .str (Str.ofString "=D8") 1187, .str (Str.ofString "=D9") 1191, .str (Str.ofString "=DA") 1195, .str (Str.ofString "=DB") 1199, .str (Str.ofString "=DC") 1203, .str (Str.ofString "=DD") 1207, .str (Str.ofString "=DE") 1211, .str (Str.ofString "=DF") 1215, .str (Str.ofString "=E0") 1219, .str (Str.ofString "=E1") 1223, .str (Str.ofString "=E2") 1227, .str (Str.ofString "=E3") 1231, .str (Str.ofString "=E4") 1235, .str (Str.ofString "=E5") 1239, .str (Str.ofString "=E6") 1243, .str (Str.ofString "=E7") 1247, .str (Str.ofString "=E8") 1251, .str (Str.ofString "=E9") 1255, .str (Str.ofString "=EA") 1259, .str (Str.ofString "=EB") 1263, .str (Str.ofString "=EC") 1267, .str (Str.ofString "=ED") 1271, .str (Str.ofString "=EE") 1275, .str (Str.ofString "=EF") 1279, .str (Str.ofString "=F0") 1283, .str (Str.ofString "=F1") 1287, .str (Str.ofString "=F2") 1291, .str (Str.ofString "=F3") 1295, .str (Str.ofString "=F4") 1299, .str (Str.ofString "=F5") 1303, .str (Str.ofString "=F6") 1307, .str (Str.ofString "=F7") 1311, .str (Str.ofString "=F8") 1315, .str (Str.ofString "=F9") 1319, .str (Str.ofString "=FA") 1323, .str (Str.ofString "=FB") 1327, .str (Str.ofString "=FC") 1331, .str (Str.ofString "=FD") 1335, .str (Str.ofString "=FE") 1339, .str (Str.ofString "=FF") 1343] 0, #[]⟩
noncomputable def bS9_45 (_ : Params) : Obj := ⟨.type "slice", none, .fields #[.none, .none, .none], #[]⟩
noncomputable def bS9_46 (_ : Params) : Obj := ⟨.type "list", none, .seq #[.str (Str.ofString "=00") 323, .str (Str.ofString "=01") 327, .str (Str.ofString "=02") 331, .str (Str.ofString "=03") 335, .str (Str.ofString "=04") 339, .str (Str.ofString "=05") 343, .str (Str.ofString "=06") 347, .str (Str.ofString "=07") 351, .str (Str.ofString "=08") 355, .str (Str.ofString "=09") 359, .str (Str.ofString "=0A") 363, .str (Str.ofString "=0B") 367, .str (Str.ofString "=0C") 371, .str (Str.ofString "=0D") 375, .str (Str.ofString "=0E") 379, .str (Str.ofString "=0F") 383, .str (Str.ofString "=10") 387, .str (Str.ofString "=11") 391, .str (Str.ofString "=12") 395, .str (Str.ofString "=13") 399, .str (Str.ofString "=14") 403, .str (Str.ofString "=15") 407, .str (Str.ofString "=16") 411, .str (Str.ofString "=17") 415, .str (Str.ofString "=18") 419, .str (Str.ofString "=19") 423, .str (Str.ofString "=1A") 427, .str (Str.ofString "=1B") 431, .str (Str.ofString "=1C") 435, .str (Str.ofString "=1D") 439, .str (Str.ofString "=1E") 443, .str (Str.ofString "=1F") 447, .str (Str.ofString "=20") 451, .str (Str.ofString "=21") 455, .str (Str.ofString "=22") 459, .str (Str.ofString "=23") 463, .str (Str.ofString "=24") 467, .str (Str.ofString "=25") 471, .str (Str.ofString "=26") 475, .str (Str.ofString "=27") 479, .str (Str.ofString "=28") 483, .str (Str.ofString "=29") 487, .str (Str.ofString "=2A") 491, .str (Str.ofString "=2B") 495, .str (Str.ofString "=2C") 499, .str (Str.ofString "=2D") 503, .str (Str.ofString "=2E") 507, .str (Str.ofString "=2F") 511, .str (Str.ofString "=30") 515, .str (Str.ofString "=31") 519, .str (Str.ofString "=32") 523, .str (Str.ofString "=33") 527, .str (Str.ofString "=34") 531, .str (Str.ofString "=35") 535, .str (Str.ofString "=36") 539, .str (Str.ofString "=37") 543, .str (Str.ofString "=38") 547, .str (Str.ofString "=39") 551, .str (Str.ofString "=3A") 555, .str (Str.ofString "=3B") 559, .str (Str.ofString "=3C") 563, .str (Str.ofString "=3D") 567, .str (Str.ofString "=3E") 571, .str (Str.ofString "=3F") 575, .str (Str.ofString "=40") 579, .str (Str.ofString "=41") 583, .str (Str.ofString "=42") 587, .str (Str.ofString "=43") 591, .str (Str.ofString "=44") 595, .str (Str.ofString "=45") 599, .str (Str.ofString "=46") 603, .str (Str.ofString "=47") 607, .str (Str.ofString "=48") 611, .str (Str.ofString "=49") 615, .str (Str.ofString "=4A") 619, .str (Str.ofString "=4B") 623, .str (Str.ofString "=4C") 627, .str (Str.ofString "=4D") 631, .str (Str.ofString "=4E") 635, .str (Str.ofString "=4F") 639, .str (Str.ofString "=50") 643, .str (Str.ofString "=51") 647, .str (Str.ofString "=52") 651, .str (Str.ofString "=53") 655, .str (Str.ofString "=54") 659, .str (Str.ofString "=55") 663, .str (Str.ofString "=56") 667, .str (Str.ofString "=57") 671, .str (Str.ofString "=58") 675, .str (Str.ofString "=59") 679, .str (Str.ofString "=5A") 683, .str (Str.ofString "=5B") 687, .str (Str.ofString "=5C") 691, .str (Str.ofString "=5D") 695, .str (Str.ofString "=5E") 699, .str (Str.ofString "=5F") 703, .str (Str.ofString "=60") 707, .str (Str.ofString "=61") 711, .str (Str.ofString "=62") 715, .str (Str.ofString "=63") 719, .str (Str.ofString "=64") 723, .str (Str.ofString "=65") 727, .str (Str.ofString "=66") 731, .str (Str.ofString "=67") 735, .str (Str.ofString "=68") 739, .str (Str.ofString "=69") 743, .str (Str.ofString "=6A") 747, .str (Str.ofString "=6B") 751, .str (Str.ofString "=6C") 755, .str (Str.ofString "=6D") 759, .str (Str.ofString "=6E") 763, .str (Str.ofString "=6F") 767, .str (Str.ofString "=70") 771, .str (Str.ofString "=71") 775, .str (Str.ofString "=72") 779, .str (Str.ofString "=73") 783, .str (Str.ofString "=74") 787, .str (Str.ofString "=75") 791, .str (Str.ofString "=76") 795, .str (Str.ofString "=77") 799, .str (Str.ofString "=78") 803, .str (Str.ofString "=79") 807, .str (Str.ofString "=7A") 811, .str (Str.ofString "=7B") 815, .str (Str.ofString "=7C") 819, .str (Str.ofString "=7D") 823, .str (Str.ofString "=7E") 827, .str (Str.ofString "=7F") 831, .str (Str.ofString "=80") 835, .str (Str.ofString "=81") 839, .str (Str.ofString "=82") 843, .str (Str.ofString "=83") 847, .str (Str.ofString "=84") 851, .str (Str.ofString "=85") 855, .str (Str.ofString "=86") 859, .str (Str.ofString "=87") 863, .str (Str.ofString "=88") 867, .str (Str.ofString "=89") 871, .str (Str.ofString "=8A") 875, .str (Str.ofString "=8B") 879, .str (Str.ofString "=8C") 883, .str (Str.ofString "=8D") 887, .str (Str.ofString "=8E") 891, .str (Str.ofString "=8F") 895, .str (Str.ofString "=90") 899, .str (Str.ofString "=91") 903, .str (Str.ofString "=92") 907, .str (Str.ofString "=93") 911, .str (Str.ofString "=94") 915, .str (Str.ofString "=95") 919, .str (Str.ofString "=96") 923, .str (Str.ofString "=97") 927, .str (Str.ofString "=98") 931, .str (Str.ofString "=99") 935, .str (Str.ofString "=9A") 939, .str (Str.ofString "=9B") 943, .str (Str.ofString "=9C") 947, .str (Str.ofString "=9D") 951, .str (Str.ofString "=9E") 955, .str (Str.ofString "=9F") 959, .str (Str.ofString "=A0") 963, .str (Str.ofString "=A1") 967, .str (Str.ofString "=A2") 971, .str (Str.ofString "=A3") 975, .str (Str.ofString "=A4") 979, .str (Str.ofString "=A5") 983, .str (Str.ofString "=A6") 987, .str (Str.ofString "=A7") 991, .str (Str.ofString "=A8") 995, .str (Str.ofString "=A9") 999, .str (Str.ofString "=AA") 1003, .str (Str.ofString "=AB") 1007, .str (Str.ofString "=AC") 1011, .str (Str.ofString "=AD") 1015, .str (Str.ofString "=AE") 1019, .str (Str.ofString "=AF") 1023, .str (Str.ofString "=B0") 1027, .str (Str.ofString "=B1") 1031, .str (Str.ofString "=B2") 1035, .str (Str.ofString "=B3") 1039, .str (Str.ofString "=B4") 1043, .str (Str.ofString "=B5") 1047, .str (Str.ofString "=B6") 1051, .str (Str.ofString "=B7") 1055, .str (Str.ofString "=B8") 1059, .str (Str.ofString "=B9") 1063, .str (Str.ofString "=BA") 1067, .str (Str.ofString "=BB") 1071, .str (Str.ofString "=BC") 1075, .str (Str.ofString "=BD") 1079, .str (Str.ofString "=BE") 1083, .str (Str.ofString "=BF") 1087, .str (Str.ofString "=C0") 1091, .str (Str.ofString "=C1") 1095, .str (Str.ofString "=C2") 1099, .str (Str.ofString "=C3") 1103, .str (Str.ofString "=C4") 1107, .str (Str.ofString "=C5") 1111, .str (Str.ofString "=C6") 1115, .str (Str.ofString "=C7") 1119, .str (Str.ofString "=C8") 1123, .str (Str.ofString "=C9") 1127, .str (Str.ofString "=CA") 1131, .str (Str.ofString "=CB") 1135, .str (Str.ofString "=CC") 1139, .str (Str.ofString "=CD") 1143, .str (Str.ofString "=CE") 1147, .str (Str.ofString "=CF") 1151, .str (Str.ofString "=D0") 1155, .str (Str.ofString "=D1") 1159, .str (Str.ofString "=D2") 1163, .str (Str.ofString "=D3") 1167, .str (Str.ofString "=D4") 1171, .str (Str.ofString "=D5") 1175, .str (Str.ofString "=D6") 1179, .str (Str.ofString "=D7") 1183, .str (Str.ofString "=D8") 1187, .str (Str.ofString "=D9") 1191, .str (Str.ofString "=DA") 1195, .str (Str.ofString "=DB") 1199, .str (Str.ofString "=DC") 1203, .str (Str.ofString "=DD") 1207, .str (Str.ofString "=DE") 1211, .str (Str.ofString "=DF") 1215, .str (Str.ofString "=E0") 1219, .str (Str.ofString "=E1") 1223, .str (Str.ofString "=E2") 1227, .str (Str.ofString "=E3") 1231, .str (Str.ofString "=E4") 1235, .str (Str.ofString "=E5") 1239, .str (Str.ofString "=E6") 1243, .str (Str.ofString "=E7") 1247, .str (Str.ofString "=E8") 1251, .str (Str.ofString "=E9") 1255, .str (Str.ofString "=EA") 1259, .str (Str.ofString "=EB") 1263, .str (Str.ofString "=EC") 1267, .str (Str.ofString "=ED") 1271, .str (Str.ofString "=EE") 1275, .str (Str.ofString "=EF") 1279, .str (Str.ofString "=F0") 1283, .str (Str.ofString "=F1") 1287, .str (Str.ofString "=F2") 1291, .str (Str.ofString "=F3") 1295, .str (Str.ofString "=F4") 1299, .str (Str.ofString "=F5") 1303, .str (Str.ofString "=F6") 1307, .str (Str.ofString "=F7") 1311, .str (Str.ofString "=F8") 1315, .str (Str.ofString "=F9") 1319, .str (Str.ofString "=FA") 1323, .str (Str.ofString "=FB") 1327, .str (Str.ofString "=FC") 1331, .str (Str.ofString "=FD") 1335, .str (Str.ofString "=FE") 1339, .str (Str.ofString "=FF") 1343] 0, #[]⟩
noncomputable def bS9_47 (_ : Params) : Obj := ⟨.type "bytes_iterator", none, .fields #[.none, .int 67 0], #[]⟩
noncomputable def bS9_48 (_ : Params) : Obj := ⟨.type "tuple", none, .seq #[] 0, #[]⟩
noncomputable def bS9_49 (_ : Params) : Obj := ⟨.type "StopIteration", none, .fields #[.ref 48, .none, .none, .none, .bool false, .none], #[]⟩
noncomputable def lS9 (P : Params) : List Obj := bS0_0 P :: bS0_1 P :: ob2 P :: bS9_3 P :: bS0_4 P :: bS0_5 P :: bS0_6 P :: bS0_7 P :: bS0_8 P :: bS0_9 P :: bS0_10 P :: bS0_11 P :: bS0_12 P :: bS0_13 P :: bS0_14 P :: bS0_15 P :: bS0_16 P :: bS0_17 P :: bS0_18 P :: bS0_19 P :: bS0_20 P :: bS0_21 P :: bS0_22 P :: bS0_23 P :: bS0_24 P :: bS0_25 P :: bS0_26 P :: bS0_27 P :: bSA_28 P :: bSA_29 P :: bSA_30 P :: bSA_31 P :: bS1_32 P :: bS1_33 P :: bS1_34 P :: ob35 P :: ob36 P :: bS1_37 P :: bS1_38 P :: bS1_39 P :: bS1_40 P :: bS1_41 P :: bS1_42 P :: bS9_43 P :: bS9_44 P :: bS9_45 P :: bS9_46 P :: bS9_47 P :: bS9_48 P :: bS9_49 P :: []
noncomputable def bS11_3 (P : Params) : Obj := ⟨.type "dict", none, .dict #[⟨PyData.keyHash P (Str.ofString "__name__"), .str (Str.ofString "__name__") 165, .str (Str.ofString "cpy313.email.quoprimime") 1355⟩, ⟨PyData.keyHash P (Str.ofString "__doc__"), .str (Str.ofString "__doc__") 166, .none⟩, ⟨PyData.keyHash P (Str.ofString "__package__"), .str (Str.ofString "__package__") 167, .none⟩, ⟨PyData.keyHash P (Str.ofString "__loader__"), .str (Str.ofString "__loader__") 168, .builtin "__main__.__loader__#opaque"⟩, ⟨PyData.keyHash P (Str.ofString "__spec__"), .str (Str.ofString "__spec__") 169, .none⟩, ⟨PyData.keyHash P (Str.ofString "__annotations__"), .str (Str.ofString "__annotations__") 170, .ref 6⟩, ⟨PyData.keyHash P (Str.ofString "__builtins__"), .str (Str.ofString "__builtins__") 171, .ref 4⟩, ⟨PyData.keyHash P (Str.ofString "__file__"), .str (Str.ofString "__file__") 173, .str (Str.ofString "/claim/cut.py") 172⟩, ⟨PyData.keyHash P (Str.ofString "__cached__"), .str (Str.ofString "__cached__") 174, .none⟩, ⟨PyData.keyHash P (Str.ofString "_sre"), .str (Str.ofString "_sre") 275, .ref 12⟩, ⟨PyData.keyHash P (Str.ofString "twin_re_1_quoprimime"), .str (Str.ofString "twin_re_1_quoprimime") 316, .ref 36⟩, ⟨PyData.keyHash P (Str.ofString "_QUOPRI_MAP"), .str (Str.ofString "_QUOPRI_MAP") 1344, .ref 39⟩, ⟨PyData.keyHash P (Str.ofString "_QUOPRI_HEADER_MAP"), .str (Str.ofString "_QUOPRI_HEADER_MAP") 1345, .ref 44⟩, ⟨PyData.keyHash P (Str.ofString "_QUOPRI_BODY_MAP"), .str (Str.ofString "_QUOPRI_BODY_MAP") 1346, .ref 46⟩, ⟨PyData.keyHash P (Str.ofString "ascii_lowercase"), .str (Str.ofString "ascii_lowercase") 1348, .str (Str.ofString "abcdefghijklmnopqrstuvwxyz") 1347⟩, ⟨PyData.keyHash P (Str.ofString "ascii_uppercase"), .str (Str.ofString "ascii_uppercase") 1350, .str (Str.ofString "ABCDEFGHIJKLMNOPQRSTUVWXYZ") 1349⟩, ⟨PyData.keyHash P (Str.ofString "ascii_letters"), .str (Str.ofString "ascii_letters") 1352, .str (Str.ofString "abcdefghijklmnopqrstuvwxyzABCDEFGHIJKLMNOPQRSTUVWXYZ") 1351⟩, ⟨PyData.keyHash P (Str.ofString "digits"), .str (Str.ofString "digits") 1354, .str (Str.ofString "0123456789") 1353⟩, ⟨PyData.keyHash P (Str.ofString "c"), .str (Str.ofString "c") 1365, .int 9 1851⟩] 19, #[]⟩
noncomputable def bS11_46 (P : Params) : Obj := ⟨.type "list", none, .seq #[.str (Str.ofString "=00") 323, .str (Str.ofString "=01") 327, .str (Str.ofString "=02") 331, .str (Str.ofString "=03") 335, .str (Str.ofString "=04") 339, .str (Str.ofString "=05") 343, .str (Str.ofString "=06") 347, .str (Str.ofString "=07") 351, .str (Str.ofString "=08") 355, .str (Str.ofString "\t") 1853, .str (Str.ofString "=0A") 363, .str (Str.ofString "=0B") 367, .str (Str.ofString "=0C") 371, .str (Str.ofString "=0D") 375, .str (Str.ofString "=0E") 379, .str (Str.ofString "=0F") 383, .str (Str.ofString "=10") 387, .str (Str.ofString "=11") 391, .str (Str.ofString "=12") 395, .str (Str.ofString "=13") 399, .str (Str.ofString "=14") 403, .str (Str.ofString "=15") 407, .str (Str.ofString "=16") 411, .str (Str.ofString "=17") 415, .str (Str.ofString "=18") 419, .str (Str.ofString "=19") 423, .str (Str.ofString "=1A") 427, .str (Str.ofString "=1B") 431, .str (Str.ofString "=1C") 435, .str (Str.ofString "=1D") 439, .str (Str.ofString "=1E") 443, .str (Str.ofString "=1F") 447, .str (Str.ofString " ") 1571, .str (Str.ofString "!") 1574, .str (Str.ofString "\"") 1577, .str (Str.ofString "#") 1580, .str (Str.ofString "$") 1583, .str (Str.ofString "%") 1586, .str (Str.ofString "&") 1589, .str (Str.ofString "'") 1592, .str (Str.ofString "(") 1595, .str (Str.ofString ")") 1598, .str (Str.ofString "*") 1601, .str (Str.ofString "+") 1604, .str (Str.ofString ",") 1607, .str (Str.ofString "-") 1610, .str (Str.ofString ".") 1613, .str (Str.ofString "/") 1616, .str (Str.ofString "0") 1619, .str (Str.ofString "1") 1622, .str (Str.ofString "2") 1625, .str (Str.ofString "3") 1628, .str (Str.ofString "4") 1631, .str (Str.ofString "5") 1634, .str (Str.ofString "6") 1637, .str (Str.ofString "7") 1640, .str (Str.ofString "8") 1643, .str (Str.ofString "9") 1646, .str (Str.ofString ":") 1649, .str (Str.ofString ";") 1652, .str (Str.ofString "<") 1655, .str (Str.ofString "=3D") 567, .str (Str.ofString ">") 1658, .str (Str.ofString "?") 1661, .str (Str.ofString "@") 1664, .str (Str.ofString "A") 1667, .str (Str.ofString "B") 1670, .str (Str.ofString "C") 1673, .str (Str.ofString "D") 1676, .str (Str.ofString "E") 1679, .str (Str.ofString "F") 1682, .str (Str.ofString "G") 1685, .str (Str.ofString "H") 1688, .str (Str.ofString "I") 1691, .str (Str.ofString "J") 1694, .str (Str.ofString "K") 1697, .str (Str.ofString "L") 1700, .str (Str.ofString "M") 1703, .str (Str.ofString "N") 1706, .str (Str.ofString "O") 1709, .str (Str.ofString "P") 1712, .str (Str.ofString "Q") 1715, .str (Str.ofString "R") 1718, .str (Str.ofString "S") 1721, .str (Str.ofString "T") 1724, .str (Str.ofString "U") 1727, .str (Str.ofString "V") 1730, .str (Str.ofString "W") 1733, .str (Str.ofString "X") 1736, .str (Str.ofString "Y") 1739, .str (Str.ofString "Z") 1742, .str (Str.ofString "[") 1745, .str (Str.ofString "\\") 1748, .str (Str.ofString "]") 1751, .str (Str.ofString "^") 1754, .str (Str.ofString "_") 1757, .str (Str.ofString "`") 1760, .str (Str.ofString "a") 1763, .str (Str.ofString "b") 1766, .str (Str.ofString "c") 1769, .str (Str.ofString "d") 1772, .str (Str.ofString "e") 1775, .str (Str.ofString "f") 1778, .str (Str.ofString "g") 1781, .str (Str.ofString "h") 1784, .str (Str.ofString "i") 1787, .str (Str.ofString "j") 1790, .str (Str.ofString "k") 1793, .str (Str.ofString "l") 1796, .str (Str.ofString "m") 1799, .str (Str.ofString "n") 1802, .str (Str.ofString "o") 1805, .str (Str.ofString "p") 1808, .str (Str.ofString "q") 1811, .str (Str.ofString "r") 1814, .str (Str.ofString "s") 1817, .str (Str.ofString "t") 1820, .str (Str.ofString "u") 1823, .str (Str.ofString "v") 1826, .str (Str.ofString "w") 1829, .str (Str.ofString "x") 1832, .str (Str.ofString "y") 1835, .str (Str.ofString "z") 1838, .str (Str.ofString "{") 1841, .str (Str.ofString "|") 1844, .str (Str.ofString "}") 1847, .str (Str.ofString "~") 1850, .str (Str.ofString "=7F") 831, .str (Str.ofString "=80") 835, .str (Str.ofString "=81") 839, .str (Str.ofString "=82") 843, .str (Str.ofString "=83") 847, .str (Str.ofString "=84") 851, .str (Str.ofString "=85") 855, .str (Str.ofString "=86") 859, .str (Str.ofString "=87") 863, .str (Str.ofString "=88") 867, .str (Str.ofString "=89") 871, .str (Str.ofString "=8A") 875, .str (Str.ofString "=8B") 879, .str (Str.ofString "=8C") 883, .str (Str.ofString "=8D") 887, .str (Str.ofString "=8E") 891, .str (Str.ofString "=8F") 895, .str (Str.ofString "=90") 899, .str (Str.ofString "=91") 903, .str (Str.ofString "=92") 907, .str (Str.ofString "=93") 911, .str (Str.ofString "=94") 915, .str (Str.ofString "=95") 919, .str (Str.ofString "=96") 923, .str (Str.ofString "=97") 927, .str (Str.ofString "=98") 931, .str (Str.ofString "=99") 935, .str (Str.ofString "=9A") 939, .str (Str.ofString "=9B") 943, .str (Str.ofString "=9C") 947, .str (Str.ofString "=9D") 951, .str (Str.ofString "=9E") 955, .str (Str.ofString "=9F") 959, .str (Str.ofString "=A0") 963, .str (Str.ofString "=A1") 967, .str (Str.ofString "=A2") 971, .str (Str.ofString "=A3") 975, .str (Str.ofString "=A4") 979, .str (Str.ofString "=A5") 983, .str (Str.ofString "=A6") 987, .str (Str.ofString "=A7") 991, .str (Str.ofString "=A8") 995, .str (Str.ofString "=A9") 999, .str (Str.ofString "=AA") 1003, .str (Str.ofString "=AB") 1007, .str (Str.ofString "=AC") 1011, .str (Str.ofString "=AD") 1015, .str (Str.ofString "=AE") 1019, .str (Str.ofString "=AF") 1023, .str (Str.ofString "=B0") 1027, .str (Str.ofString "=B1") 1031, .str (Str.ofString "=B2") 1035, .str (Str.ofString "=B3") 1039, .str (Str.ofString "=B4") 1043, .str (Str.ofString "=B5") 1047, .str (Str.ofString "=B6") 1051, .str (Str.ofString "=B7") 1055, .str (Str.ofString "=B8") 1059, .str (Str.ofString "=B9") 1063, .str (Str.ofString "=BA") 1067, .str (Str.ofString "=BB") 1071, .str (Str.ofString "=BC") 1075, .str (Str.ofString "=BD") 1079, .str (Str.ofString "=BE") 1083, .str (Str.ofString "=BF") 1087, .str (Str.ofString "=C0") 1091, .str (Str.ofString "=C1") 1095, .str (Str.ofString "=C2") 1099, .str (Str.ofString "=C3") 1103, .str (Str.ofString "=C4") 1107, .str (Str.ofString "=C5") 1111, .str (Str.ofString "=C6") 1115, .str (Str.ofString "=C7") 1119, .str (Str.ofString "=C8") 1123, .str (Str.ofString "=C9") 1127, .str (Str.ofString "=CA") 1131, .str (Str.ofString "=CB") 1135, .str (Str.ofString "=CC") 1139, .str (Str.ofString "=CD") 1143, .str (Str.ofString "=CE") 1147, .str (Str.ofString "=CF") 1151, .str (Str.ofString "=D0") 1155, .str (Str.ofString "=D1") 1159, .str (Str.ofString "=D2") 1163, .str (Str.ofString "=D3") 1167, .str (Str.ofString "=D4") 1171, .str (Str.ofString "=D5") 1175, .str (Str.ofString "=D6") 1179, .str (Str.ofString "=D7") 1183, .str (Str.ofString "=D8") 1187, .str (Str.ofString "=D9") 1191, .str (Str.ofString "=DA") 1195, .str (Str.ofString "=DB") 1199, .str (Str.ofString "=DC") 1203, .str (Str.ofString "=DD") 1207, .str (Str.ofString "=DE") 1211, .str (Str.ofString "=DF") 1215, .str (Str.ofString "=E0") 1219, .str (Str.ofString "=E1") 1223, .str (Str.ofString "=E2") 1227, .str (Str.ofString "=E3") 1231, .str (Str.ofString "=E4") 1235, .str (Str.ofString "=E5") 1239, .str (Str.ofString "=E6") 1243, .str (Str.ofString "=E7") 1247, .str (Str.ofString "=E8") 1251, .str (Str.ofString "=E9") 1255, .str (Str.ofString "=EA") 1259, .str (Str.ofString "=EB") 1263, .str (Str.ofString "=EC") 1267, .str (Str.ofString "=ED") 1271, .str (Str.ofString "=EE") 1275, .str (Str.ofString "=EF") 1279, .str (Str.ofString "=F0") 1283, .str (Str.ofString "=F1") 1287, .str (Str.ofString "=F2") 1291, .str (Str.ofString "=F3") 1295, .str (Str.ofString "=F4") 1299, .str (Str.ofString "=F5") 1303, .str (Str.ofString "=F6") 1307, .str (Str.ofString "=F7") 1311, .str (Str.ofString "=F8") 1315, .str (Str.ofString "=F9") 1319, .str (Str.ofString "=FA") 1323, .str (Str.ofString "=FB") 1327, .str (Str.ofString "=FC") 1331, .str (Str.ofString "=FD") 1335, .str (Str.ofString "=FE") 1339, .str (Str.ofString "=FF") 1343] 0, #[]⟩
noncomputable def bS11_50 (_ : Params) : Obj := ⟨.type "bytes_iterator", none, .fields #[.none, .int 95 0], #[]⟩
noncomputable def bS11_51 (_ : Params) : Obj := ⟨.type "tuple", none, .seq #[] 0, #[]⟩
noncomputable def bS11_52 (_ : Params) : Obj := ⟨.type "StopIteration", none, .fields #[.ref 51, .none, .none, .none, .bool false, .none], #[]⟩
noncomputable def lS11 (P : Params) : List Obj := bS0_0 P :: bS0_1 P :: ob2 P :: bS11_3 P :: bS0_4 P :: bS0_5 P :: bS0_6 P :: bS0_7 P :: bS0_8 P :: bS0_9 P :: bS0_10 P :: bS0_11 P :: bS0_12 P :: bS0_13 P :: bS0_14 P :: bS0_15 P :: bS0_16 P :: bS0_17 P :: bS0_18 P :: bS0_19 P :: bS0_20 P :: bS0_21 P :: bS0_22 P :: bS0_23 P :: bS0_24 P :: bS0_25 P :: bS0_26 P :: bS0_27 P :: bSA_28 P :: bSA_29 P :: bSA_30 P :: bSA_31 P :: bS1_32 P :: bS1_33 P :: bS1_34 P :: ob35 P :: ob36 P :: bS1_37 P :: bS1_38 P :: bS1_39 P :: bS1_40 P :: bS1_41 P :: bS1_42 P :: bS9_43 P :: ob44 P :: bS9_45 P :: bS11_46 P :: bS9_47 P :: bS9_48 P :: bS9_49 P :: bS11_50 P :: bS11_51 P :: bS11_52 P :: []
noncomputable def bSZ_29 (_ : Params) : Obj := ⟨.none, none, .fields #[.int 16 0, .int 0 0, .ref 58, .int 18 0, .int 0 0, .ref 66, .int 27 0, .int 0 0, .ref 78, .int 30 0, .int 0 0, .ref 85, .int 35 0, .int 0 0, .ref 97, .int 41 0, .int 0 0, .ref 109, .int 48 0, .int 0 0, .ref 116, .int 110 0, .int 0 0, .ref 123, .int 138 0, .int 0 0, .ref 130, .int 143 0, .int 0 0, .ref 137, .int 147 0, .int 0 0, .ref 144, .int 158 0, .int 0 0, .ref 151, .int 172 0, .int 0 0, .ref 157, .int 218 0, .int 0 0, .ref 162, .int 222 0, .int 0 0, .ref 167, .int 224 0, .int 0 0, .ref 172, .int 227 0, .int 0 0, .ref 177, .int 233 0, .int 0 0, .ref 182, .int 236 0, .int 0 0, .ref 187, .int 239 0, .int 0 0, .ref 192, .int 247 0, .int 0 0, .ref 199, .int 253 0, .int 0 0, .ref 206, .int 258 0, .int 0 0, .ref 211], #[]⟩
noncomputable def bSZ_54 (_ : Params) : Obj := ⟨.none, none, .fields #[], #[]⟩
noncomputable def bSZ_57 (_ : Params) : Obj := ⟨.none, none, .func fd57.1, #[]⟩
noncomputable def bSZ_62 (_ : Params) : Obj := ⟨.none, none, .fields #[], #[]⟩
noncomputable def bSZ_65 (_ : Params) : Obj := ⟨.none, none, .func fd65.1, #[]⟩
noncomputable def bSZ_68 (_ : Params) : Obj := ⟨.type "slice", none, .fields #[.none, .none, .none], #[]⟩
noncomputable def bSZ_69 (P : Params) : Obj := ⟨.type "list", none, .seq #[.str (Str.ofString "=00") 323, .str (Str.ofString "=01") 327, .str (Str.ofString "=02") 331, .str (Str.ofString "=03") 335, .str (Str.ofString "=04") 339, .str (Str.ofString "=05") 343, .str (Str.ofString "=06") 347, .str (Str.ofString "=07") 351, .str (Str.ofString "=08") 355, .str (Str.ofString "\t") 1853, .str (Str.ofString "\n") 1878, .str (Str.ofString "=0B") 367, .str (Str.ofString "=0C") 371, .str (Str.ofString "\x0d") 1875, .str (Str.ofString "=0E") 379, .str (Str.ofString "=0F") 383, .str (Str.ofString "=10") 387, .str (Str.ofString "=11") 391, .str (Str.ofString "=12") 395, .str (Str.ofString "=13") 399, .str (Str.ofString "=14") 403, .str (Str.ofString "=15") 407, .str (Str.ofString "=16") 411, .str (Str.ofString "=17") 415, .str (Str.ofString "=18") 419, .str (Str.ofString "=19") 423, .str (Str.ofString "=1A") 427, .str (Str.ofString "=1B") 431, .str (Str.ofString "=1C") 435, .str (Str.ofString "=1D") 439, .str (Str.ofString "=1E") 443, .str (Str.ofString "=1F") 447, .str (Str.ofString " ") 1571, .str (Str.ofString "!") 1574, .str (Str.ofString "\"") 1577, .str (Str.ofString "#") 1580, .str (Str.ofString "$") 1583, .str (Str.ofString "%") 1586, .str (Str.ofString "&") 1589, .str (Str.ofString "'") 1592, .str (Str.ofString "(") 1595, .str (Str.ofString ")") 1598, .str (Str.ofString "*") 1601, .str (Str.ofString "+") 1604, .str (Str.ofString ",") 1607, .str (Str.ofString "-") 1610, .str (Str.ofString ".") 1613, .str (Str.ofString "/") 1616, .str (Str.ofString "0") 1619, .str (Str.ofString "1") 1622, .str (Str.ofString "2") 1625, .str (Str.ofString "3") 1628, .str (Str.ofString "4") 1631, .str (Str.ofString "5") 1634, .str (Str.ofString "6") 1637, .str (Str.ofString "7") 1640, .str (Str.ofString "8") 1643, .str (Str.ofString "9") 1646, .str (Str.ofString ":") 1649, .str (Str.ofString ";") 1652, .str (Str.ofString "<") 1655, .str (Str.ofString "=3D") 567, .str (Str.ofString ">") 1658, .str (Str.ofString "?") 1661, .str (Str.ofString "@") 1664, .str (Str.ofString "A") 1667, .str (Str.ofString "B") 1670, .str (Str.ofString "C") 1673, .str (Str.ofString "D") 1676, .str (Str.ofString "E") 1679, .str (Str.ofString "F") 1682, .str (Str.ofString "G") 1685, .str (Str.ofString "H") 1688, .str (Str.ofString "I") 1691, .str (Str.ofString "J") 1694, .str (Str.ofString "K") 1697, .str (Str.ofString "L") 1700, .str (Str.ofString "M") 1703, .str (Str.ofString "N") 1706, .str (Str.ofString "O") 1709, .str (Str.ofString "P") 1712, .str (Str.ofString "Q") 1715, .str (Str.ofString "R") 1718, .str (Str.ofString "S") 1721, .str (Str.ofString "T") 1724, .str (Str.ofString "U") 1727, .str (Str.ofString "V") 1730, .str (Str.ofString "W") 1733, .str (Str.ofString "X") 1736, .str (Str.ofString "Y") 1739, .str (Str.ofString "Z") 1742, .str (Str.ofString "[") 1745, .str (Str.ofString "\\") 1748, .str (Str.ofString "]") 1751, .str (Str.ofString "^") 1754, .str (Str.ofString "_") 1757, .str (Str.ofString "`") 1760, .str (Str.ofString "a") 1763, .str (Str.ofString "b") 1766, .str (Str.ofString "c") 1769, .str (Str.ofString "d") 1772, .str (Str.ofString "e") 1775, .str (Str.ofString "f") 1778, .str (Str.ofString "g") 1781, .str (Str.ofString "h") 1784, .str (Str.ofString "i") 1787, .str (Str.ofString "j") 1790, .str (Str.ofString "k") 1793, .str (Str.ofString "l") 1796, .str (Str.ofString "m") 1799, .str (Str.ofString "n") 1802, .str (Str.ofString "o") 1805, .str (Str.ofString "p") 1808, .str (Str.ofString "q") 1811, .str (Str.ofString "r") 1814, .str (Str.ofString "s") 1817, .str (Str.ofString "t") 1820, .str (Str.ofString "u") 1823, .str (Str.ofString "v") 1826, .str (Str.ofString "w") 1829, .str (Str.ofString "x") 1832, .str (Str.ofString "y") 1835, .str (Str.ofString "z") 1838, .str (Str.ofString "{") 1841, .str (Str.ofString "|") 1844, .str (Str.ofString "}") 1847, .str (Str.ofString "~") 1850, .str (Str.ofString "=7F") 831, .str (Str.ofString "=80") 835, .str (Str.ofString "=81") 839, .str (Str.ofString "=82") 843, .str (Str.ofString "=83") 847, .str (Str.ofString "=84") 851, .str (Str.ofString "=85") 855, .str (Str.ofString "=86") 859, .str (Str.ofString "=87") 863, .str (Str.ofString "=88") 867, .str (Str.ofString "=89") 871, .str (Str.ofString "=8A") 875, .str (Str.ofString "=8B") 879, .str (Str.ofString "=8C") 883, .str (Str.ofString "=8D") 887, .str (Str.ofString "=8E") 891, .str (Str.ofString "=8F") 895, .str (Str.ofString "=90") 899, .str (Str.ofString "=91") 903, .str (Str.ofString "=92") 907, .str (Str.ofString "=93") 911, .str (Str.ofString "=94") 915, .str (Str.ofString "=95") 919, .str (Str.ofString "=96") 923, .str (Str.ofString "=97") 927, .str (Str.ofString "=98") 931, .str (Str.ofString "=99") 935, .str (Str.ofString "=9A") 939, .str (Str.ofString "=9B") 943, .str (Str.ofString "=9C") 947, .str (Str.ofString "=9D") 951, .str (Str.ofString "=9E") 955, .str (Str.ofString "=9F") 959, .str (Str.ofString "=A0") 963, .str (Str.ofString "=A1") 967, .str (Str.ofString "=A2") 971, .str (Str.ofString "=A3") 975, .str (Str.ofString "=A4") 979, .str (Str.ofString "=A5") 983, .str (Str.ofString "=A6") 987, .str (Str.ofString "=A7") 991, .str (Str.ofString "=A8") 995, .str (Str.ofString "=A9") 999, .str (Str.ofString "=AA") 1003, .str (Str.ofString "=AB") 1007, .str (Str.ofString "=AC") 1011, .str (Str.ofString "=AD") 1015, .str (Str.ofString "=AE") 1019, .str (Str.ofString "=AF") 1023, .str (Str.ofString "=B0") 1027, .str (Str.ofString "=B1") 1031, .str (Str.ofString "=B2") 1035, .str (Str.ofString "=B3") 1039, .str (Str.ofString "=B4") 1043, .str (Str.ofString "=B5") 1047, .str (Str.ofString "=B6") 1051, .str (Str.ofString "=B7") 1055, .str (Str.ofString "=B8") 1059, .str (Str.ofString "=B9") 1063, .str (Str.ofString "=BA") 1067, .str (Str.ofString "=BB") 1071, .str (Str.ofString "=BC") 1075, .str (Str.ofString "=BD") 1079, .str (Str.ofString "=BE") 1083, .str (Str.ofString "=BF") 1087, .str (Str.ofString "=C0") 1091, .str (Str.ofString "=C1") 1095, .str (Str.ofString "=C2") 1099, .str (Str.ofString "=C3") 1103, .str (Str.ofString "=C4") 1107, .str (Str.ofString "=C5") 1111, .str (Str.ofString "=C6") 1115, .str (Str.ofString "=C7") 1119, .str (Str.ofString "=C8") 1123, .str (Str.ofString "=C9") 1127, .str (Str.ofString "=CA") 1131, .str (Str.ofString "=CB") 1135, .str (Str.ofString "=CC") 1139, .str (Str.ofString "=CD") 1143, .str (Str.ofString "=CE") 1147, .str (Str.ofString "=CF") 1151, .str (Str.ofString "=D0") 1155, .str (Str.ofString "=D1") 1159, .str (Str.ofString "=D2") 1163, .str (Str.ofString "=D3") 1167, .str (Str.ofString "=D4") 1171, .str (Str.ofString "=D5") 1175, .str (Str.ofString "=D6") 1179, .str (Str.ofString "=D7") 1183, .str (Str.ofString "=D8") 1187, .str (Str.ofString "=D9") 1191, .str (Str.ofString "=DA") 1195, .str (Str.ofString "=DB") 1199, .str (Str.ofString "=DC") 1203, .str (Str.ofString "=DD") 1207, .str (Str.ofString "=DE") 1211, .str (Str.ofString "=DF") 1215, .str (Str.ofString "=E0") 1219, .str (Str.ofString "=E1") 1223, .str (Str.ofString "=E2") 1227, .str (Str.ofString "=E3") 1231, .str (Str.ofString "=E4") 1235, .str (Str.ofString "=E5") 1239, .str (Str.ofString "=E6") 1243, .str (Str.ofString "=E7") 1247, .str (Str.ofString "=E8") 1251, .str (Str.ofString "=E9") 1255, .str (Str.ofString "=EA") 1259, .str (Str.ofString "=EB") 1263, .str (Str.ofString "=EC") 1267, .str (Str.ofString "=ED") 1271, .str (Str.ofString "=EE") 1275, .str (Str.ofString "=EF") 1279, .str (Str.ofString "=F0") 1283, .str (Str.ofString "=F1") 1287, .str (Str.ofString "=F2") 1291, .str (Str.ofString "=F3") 1295, .str (Str.ofString "=F4") 1299, .str (Str.ofString "=F5") 1303, .str (Str.ofString "=F6") 1307, .str (Str.ofString "=F7") 1311, .str (Str.ofString "=F8") 1315, .str (Str.ofString "=F9") 1319, .str (Str.ofString "=FA") 1323, .str (Str.ofString "=FB") 1327, .str (Str.ofString "=FC") 1331, .str (Str.ofString "=FD") 1335, .str (Str.ofString "=FE") 1339, .str (Str.ofString "=FF") 1343] 0, #[]⟩
noncomputable def bSZ_70 (_ : Params) : Obj := ⟨.type "bytes_iterator", none, .fields #[.none, .int 2 0], #[]⟩
noncomputable def bSZ_71 (_ : Params) : Obj := ⟨.type "tuple", none, .seq #[] 0, #[]⟩
noncomputable def bSZ_72 (_ : Params) : Obj := ⟨.type "StopIteration", none, .fields #[.ref 71, .none, .none, .none, .bool false, .none], #[]⟩
noncomputable def bSZ_74 (_ : Params) : Obj := ⟨.none, none, .fields #[], #[]⟩
noncomputable def bSZ_77 (_ : Params) : Obj := ⟨.none, none, .func fd77.1, #[]⟩
noncomputable def bSZ_81 (_ : Params) : Obj := ⟨.none, none, .fields #[], #[]⟩
noncomputable def bSZ_84 (_ : Params) : Obj := ⟨.none, none, .func fd84.1, #[]⟩
noncomputable def bSZ_87 (_ : Params) : Obj := ⟨.type "list", none, .seq #[.int 14 1899, .int 14 1900, .int 4 1901, .int 1 1902, .int 1 1903, .int 9 1904, .int 0 1905, .int 64 1906, .int 0 1907, .int 1342177280 1908, .int 0 1909, .int 0 1910, .int 0 1911, .int 0 1912, .int 0 1913, .int 17 1914, .int 0 1915, .int 13 1916, .int 11 1917, .int 9 1918, .int 0 1919, .int 64 1920, .int 0 1921, .int 1342177280 1922, .int 0 1923, .int 0 1924, .int 0 1925, .int 0 1926, .int 0 1927, .int 17 1928, .int 1 1929, .int 1 1930] 0, #[]⟩
noncomputable def bSZ_88 (_ : Params) : Obj := ⟨.type "dict", none, .dict #[] 0, #[]⟩
noncomputable def bSZ_89 (_ : Params) : Obj := ⟨.type "tuple", none, .seq #[.none, .none] 0, #[]⟩
noncomputable def bSZ_93 (_ : Params) : Obj := ⟨.none, none, .fields #[], #[]⟩
noncomputable def bSZ_96 (_ : Params) : Obj := ⟨.none, none, .func fd96.1, #[]⟩
noncomputable def bSZ_99 (_ : Params) : Obj := ⟨.type "bytes_iterator", none, .fields #[.none, .int 24 0], #[]⟩
noncomputable def bSZ_101 (_ : Params) : Obj := ⟨.type "dict", none, .dict #[] 2, #[]⟩
noncomputable def bSZ_102 (_ : Params) : Obj := ⟨.type "tuple", none, .seq #[] 0, #[]⟩
noncomputable def bSZ_103 (_ : Params) : Obj := ⟨.type "StopIteration", none, .fields #[.ref 102, .none, .none, .none, .bool false, .none], #[]⟩
noncomputable def bSZ_105 (_ : Params) : Obj := ⟨.none, none, .fields #[], #[]⟩
noncomputable def bSZ_108 (_ : Params) : Obj := ⟨.none, none, .func fd108.1, #[]⟩
noncomputable def bSZ_112 (_ : Params) : Obj := ⟨.none, none, .fields #[], #[]⟩
noncomputable def bSZ_115 (_ : Params) : Obj := ⟨.none, none, .func fd115.1, #[]⟩
noncomputable def bSZ_119 (_ : Params) : Obj := ⟨.none, none, .fields #[], #[]⟩
noncomputable def bSZ_122 (_ : Params) : Obj := ⟨.none, none, .func fd122.1, #[]⟩
noncomputable def bSZ_126 (_ : Params) : Obj := ⟨.none, none, .fields #[], #[]⟩
noncomputable def bSZ_129 (_ : Params) : Obj := ⟨.none, none, .func fd129.1, #[]⟩
noncomputable def bSZ_133 (_ : Params) : Obj := ⟨.none, none, .fields #[], #[]⟩
noncomputable def bSZ_136 (_ : Params) : Obj := ⟨.none, none, .func fd136.1, #[]⟩
noncomputable def bSZ_140 (_ : Params) : Obj := ⟨.none, none, .fields #[], #[]⟩
noncomputable def bSZ_143 (_ : Params) : Obj := ⟨.none, none, .func fd143.1, #[]⟩
noncomputable def bSZ_147 (_ : Params) : Obj := ⟨.none, none, .fields #[], #[]⟩
noncomputable def bSZ_150 (_ : Params) : Obj := ⟨.none, none, .func fd150.1, #[]⟩
noncomputable def bSZ_155 (_ : Params) : Obj := ⟨.none, none, .fields #[], #[]⟩
noncomputable def bSZ_156 (_ : Params) : Obj := ⟨.none, none, .func fd156.1, #[]⟩
noncomputable def bSZ_160 (_ : Params) : Obj := ⟨.none, none, .fields #[], #[]⟩
noncomputable def bSZ_161 (_ : Params) : Obj := ⟨.none, none, .func fd161.1, #[]⟩
noncomputable def bSZ_165 (_ : Params) : Obj := ⟨.none, none, .fields #[], #[]⟩
noncomputable def bSZ_166 (_ : Params) : Obj := ⟨.none, none, .func fd166.1, #[]⟩
noncomputable def bSZ_170 (_ : Params) : Obj := ⟨.none, none, .fields #[], #[]⟩
noncomputable def bSZ_171 (_ : Params) : Obj := ⟨.none, none, .func fd171.1, #[]⟩
noncomputable def bSZ_175 (_ : Params) : Obj := ⟨.none, none, .fields #[], #[]⟩
noncomputable def bSZ_176 (_ : Params) : Obj := ⟨.none, none, .func fd176.1, #[]⟩
noncomputable def bSZ_180 (_ : Params) : Obj := ⟨.none, none, .fields #[], #[]⟩
noncomputable def bSZ_181 (_ : Params) : Obj := ⟨.none, none, .func fd181.1, #[]⟩
noncomputable def bSZ_185 (_ : Params) : Obj := ⟨.none, none, .fields #[], #[]⟩
noncomputable def bSZ_186 (_ : Params) : Obj := ⟨.none, none, .func fd186.1, #[]⟩
noncomputable def bSZ_190 (_ : Params) : Obj := ⟨.none, none, .fields #[], #[]⟩
noncomputable def bSZ_191 (_ : Params) : Obj := ⟨.none, none, .func fd191.1, #[]⟩
noncomputable def bSZ_195 (_ : Params) : Obj := ⟨.none, none, .fields #[], #[]⟩
noncomputable def bSZ_198 (_ : Params) : Obj := ⟨.none, none, .func fd198.1, #[]⟩
noncomputable def bSZ_202 (_ : Params) : Obj := ⟨.none, none, .fields #[], #[]⟩
noncomputable def bSZ_205 (_ : Params) : Obj := ⟨.none, none, .func fd205.1, #[]⟩
noncomputable def bSZ_209 (_ : Params) : Obj := ⟨.none, none, .fields #[], #[]⟩
noncomputable def bSZ_210 (_ : Params) : Obj := ⟨.none, none, .func fd210.1, #[]⟩
noncomputable def lSZ (P : Params) : List Obj := bS0_0 P :: bS0_1 P :: ob2 P :: ob3 P :: bS0_4 P :: bS0_5 P :: bS0_6 P :: bS0_7 P :: bS0_8 P :: bS0_9 P :: bS0_10 P :: bS0_11 P :: bS0_12 P :: bS0_13 P :: bS0_14 P :: bS0_15 P :: bS0_16 P :: bS0_17 P :: bS0_18 P :: bS0_19 P :: bS0_20 P :: bS0_21 P :: bS0_22 P :: bS0_23 P :: bS0_24 P :: bS0_25 P :: bS0_26 P :: bS0_27 P :: bSA_28 P :: bSZ_29 P :: bSA_30 P :: bSA_31 P :: bS1_32 P :: bS1_33 P :: bS1_34 P :: ob35 P :: ob36 P :: bS1_37 P :: bS1_38 P :: bS1_39 P :: bS1_40 P :: bS1_41 P :: bS1_42 P :: bS9_43 P :: ob44 P :: bS9_45 P :: bS11_46 P :: bS9_47 P :: bS9_48 P :: bS9_49 P :: bS11_50 P :: bS11_51 P :: bS11_52 P :: ob53 P :: bSZ_54 P :: ob55 P :: ob56 P :: bSZ_57 P :: ob58 P :: ob59 P :: ob60 P :: ob61 P :: bSZ_62 P :: ob63 P :: ob64 P :: bSZ_65 P :: ob66 P :: ob67 P :: bSZ_68 P :: bSZ_69 P :: bSZ_70 P :: bSZ_71 P :: bSZ_72 P :: ob73 P :: bSZ_74 P :: ob75 P :: ob76 P :: bSZ_77 P :: ob78 P :: ob79 P :: ob80 P :: bSZ_81 P :: ob82 P :: ob83 P :: bSZ_84 P :: ob85 P :: ob86 P :: bSZ_87 P :: bSZ_88 P :: bSZ_89 P :: ob90 P :: ob91 P :: ob92 P :: bSZ_93 P :: ob94 P :: ob95 P :: bSZ_96 P :: ob97 P :: ob98 P :: bSZ_99 P :: ob100 P :: bSZ_101 P :: bSZ_102 P :: bSZ_103 P :: ob104 P :: bSZ_105 P :: ob106 P :: ob107 P :: bSZ_108 P :: ob109 P :: ob110 P :: ob111 P :: bSZ_112 P :: ob113 P :: ob114 P :: bSZ_115 P :: ob116 P :: ob117 P :: ob118 P :: bSZ_119 P :: ob120 P :: ob121 P :: bSZ_122 P :: ob123 P :: ob124 P :: ob125 P :: bSZ_126 P :: ob127 P :: ob128 P :: bSZ_129 P :: ob130 P :: ob131 P :: ob132 P :: bSZ_133 P :: ob134 P :: ob135 P :: bSZ_136 P :: ob137 P :: ob138 P :: ob139 P :: bSZ_140 P :: ob141 P :: ob142 P :: bSZ_143 P :: ob144 P :: ob145 P :: ob146 P :: bSZ_147 P :: ob148 P :: ob149 P :: bSZ_150 P :: ob151 P :: ob152 P :: ob153 P :: ob154 P :: bSZ_155 P :: bSZ_156 P :: ob157 P :: ob158 P :: ob159 P :: bSZ_160 P :: bSZ_161 P :: ob162 P :: ob163 P :: ob164 P :: bSZ_165 P :: bSZ_166 P :: ob167 P :: ob168 P :: ob169 P :: bSZ_170 P :: bSZ_171 P :: ob172 P :: ob173 P :: ob174 P :: bSZ_175 P :: bSZ_176 P :: ob177 P :: ob178 P :: ob179 P :: bSZ_180 P :: bSZ_181 P :: ob182 P :: ob183 P :: ob184 P :: bSZ_185 P :: bSZ_186 P :: ob187 P :: ob188 P :: ob189 P :: bSZ_190 P :: bSZ_191 P :: ob192 P :: ob193 P :: ob194 P :: bSZ_195 P :: ob196 P :: ob197 P :: bSZ_198 P :: ob199 P :: ob200 P :: ob201 P :: bSZ_202 P :: ob203 P :: ob204 P :: bSZ_205 P :: ob206 P :: ob207 P :: ob208 P :: bSZ_209 P :: bSZ_210 P :: ob211 P :: ob212 P :: []

abbrev pr : Program := RowW.prog rowW
noncomputable def bodyN : List Stmt := behindTheImports pr
noncomputable def envN : Env := { scope := pr.main.scope, locals := mainNs, globals := mainNs, cells := [], code := .ref 30, frame := some 31 }
noncomputable abbrev cN : Code := .body bodyN envN
abbrev p0 : Pos := ⟨0, 0, 0, 0⟩
abbrev annN : Option Value := some (.ref 6)
abbrev wf (w : World) (a b : Bool) : World := (w.withFollow "comprehension-iter-twice" a).withFollow "special-get-raises" b
noncomputable abbrev shAt (l : List Obj) (tk : Nat) (os : OsState) : Shared := ⟨⟨⟨l⟩, {}⟩, #[], {}, tk, os⟩
/-- a run of statements -/
abbrev Seg (w : World) (os : OsState) (l : List Stmt) (N : Nat) (a b : Params → List Obj) (ta tb : Nat) (p q : Pos) : Prop :=
  segRun treeTable pr w 28 annN 1 N (shAt (a w.params) ta os) (piecesOf l envN cN p [topFrame p0]) = some (.next, shAt (b w.params) tb os, cN, q)
abbrev SegK (w : World) (os : OsState) (l : List Stmt) (N : Nat) (a b : Params → List Obj) (ta tb : Nat) (p q : Pos) : Prop :=
  segK (PySem.W.Fast.tw8437177126325714943 (PySem.W.Fast.tw11892475500146522536 PySem.W.Fast.tw14364793385576792824)) (PySem.W.Fast.tw11892475500146522536 PySem.W.Fast.tw14364793385576792824) PySem.W.Fast.tw6613529449190102663 pr w 28 annN N
    (a w.params) {} #[] {} ta os ⟨(PySem.W.Fast.tw12563942051412417395 l envN).wrap doneF deadEnd id id, cN, p, [topFrame p0]⟩ = some (.next, shAt (b w.params) tb os, cN, q)
theorem den_tw : denote treeTable = PySem.W.Fast.tw11892475500146522536 PySem.W.Fast.tw14364793385576792824 := congr PySem.W.Fast.te11892475500146522536 PySem.W.Fast.te14364793385576792824
theorem tw_all : step (denote treeTable) = PySem.W.Fast.tw8437177126325714943 (PySem.W.Fast.tw11892475500146522536 PySem.W.Fast.tw14364793385576792824) ∧ stepOk = PySem.W.Fast.tw6613529449190102663 ∧ execs = PySem.W.Fast.tw12563942051412417395 :=
  ⟨congr PySem.W.Fast.te8437177126325714943 den_tw, PySem.W.Fast.te6613529449190102663, PySem.W.Fast.te12563942051412417395⟩
theorem seg_of {w : World} {os : OsState} {l : List Stmt} {N : Nat} {a b : Params → List Obj} {ta tb : Nat} {p q : Pos} (h : SegK w os l N a b ta tb p q) : Seg w os l N a b ta tb p q := by
  refine segK_spec ?_
  obtain ⟨e1, e2, e3⟩ := tw_all
  rw [e1, e2, den_tw]
  unfold piecesOf
  rw [e3]
  exact h
noncomputable def g1 : List Stmt := bodyN.take 2
noncomputable def r1 : List Stmt := bodyN.drop 2
noncomputable def g2 : List Stmt := r1.take 8
noncomputable def r2 : List Stmt := r1.drop 8
noncomputable def g3 : List Stmt := r2.take 2
noncomputable def r3 : List Stmt := r2.drop 2
theorem k1_ff : ∀ (w : World) (os : OsState), SegK (wf w false false) os g1 12000 lSA lS1 282 1345 p0 ⟨3, 0, 3, 11⟩ := fun w os => by kernel_rfl
theorem k1_ft : ∀ (w : World) (os : OsState), SegK (wf w false true) os g1 12000 lSA lS1 282 1345 p0 ⟨3, 0, 3, 11⟩ := fun w os => by kernel_rfl
theorem k1_tf : ∀ (w : World) (os : OsState), SegK (wf w true false) os g1 12000 lSA lS1 282 1345 p0 ⟨3, 0, 3, 11⟩ := fun w os => by kernel_rfl
theorem k1_tt : ∀ (w : World) (os : OsState), SegK (wf w true true) os g1 12000 lSA lS1 282 1345 p0 ⟨3, 0, 3, 11⟩ := fun w os => by kernel_rfl
theorem s1 (w : World) (os : OsState) : Seg w os g1 12000 lSA lS1 282 1345 p0 ⟨3, 0, 3, 11⟩ :=
  byRow2 "special-get-raises" (P := fun w => ∀ os, Seg w os g1 12000 lSA lS1 282 1345 p0 ⟨3, 0, 3, 11⟩)
    (byRow2 "comprehension-iter-twice" (P := fun w => ∀ os, Seg (w.withFollow "special-get-raises" false) os g1 12000 lSA lS1 282 1345 p0 ⟨3, 0, 3, 11⟩) (fun w os => seg_of (k1_ff w os)) (fun w os => seg_of (k1_tf w os)))
    (byRow2 "comprehension-iter-twice" (P := fun w => ∀ os, Seg (w.withFollow "special-get-raises" true) os g1 12000 lSA lS1 282 1345 p0 ⟨3, 0, 3, 11⟩) (fun w os => seg_of (k1_ft w os)) (fun w os => seg_of (k1_tt w os))) w os
theorem k2_f : ∀ (w : World) (os : OsState), SegK (w.withFollow "special-get-raises" false) os g2 5000 lS1 lS9 1345 1565 ⟨3, 0, 3, 11⟩ ⟨11, 9, 11, 74⟩ := fun w os => by kernel_rfl
theorem k2_t : ∀ (w : World) (os : OsState), SegK (w.withFollow "special-get-raises" true) os g2 5000 lS1 lS9 1345 1565 ⟨3, 0, 3, 11⟩ ⟨11, 9, 11, 74⟩ := fun w os => by kernel_rfl
theorem s2 (w : World) (os : OsState) : Seg w os g2 5000 lS1 lS9 1345 1565 ⟨3, 0, 3, 11⟩ ⟨11, 9, 11, 74⟩ :=
  byRow2 "special-get-raises" (P := fun w => ∀ os, Seg w os g2 5000 lS1 lS9 1345 1565 ⟨3, 0, 3, 11⟩ ⟨11, 9, 11, 74⟩) (fun w os => seg_of (k2_f w os)) (fun w os => seg_of (k2_t w os)) w os
theorem k3_f : ∀ (w : World) (os : OsState), SegK (w.withFollow "special-get-raises" false) os g3 6000 lS9 lS11 1565 1854 ⟨11, 9, 11, 74⟩ ⟨14, 9, 14, 110⟩ := fun w os => by kernel_rfl
theorem k3_t : ∀ (w : World) (os : OsState), SegK (w.withFollow "special-get-raises" true) os g3 6000 lS9 lS11 1565 1854 ⟨11, 9, 11, 74⟩ ⟨14, 9, 14, 110⟩ := fun w os => by kernel_rfl
theorem s3 (w : World) (os : OsState) : Seg w os g3 6000 lS9 lS11 1565 1854 ⟨11, 9, 11, 74⟩ ⟨14, 9, 14, 110⟩ :=
  byRow2 "special-get-raises" (P := fun w => ∀ os, Seg w os g3 6000 lS9 lS11 1565 1854 ⟨11, 9, 11, 74⟩ ⟨14, 9, 14, 110⟩) (fun w os => seg_of (k3_f w os)) (fun w os => seg_of (k3_t w os)) w os
theorem k4_ff : ∀ (w : World) (os : OsState), SegK (wf w false false) os r3 4000 lS11 lSZ 1854 2251 ⟨14, 9, 14, 110⟩ ⟨258, 0, 274, 102⟩ := fun w os => by kernel_rfl
theorem k4_ft : ∀ (w : World) (os : OsState), SegK (wf w false true) os r3 4000 lS11 lSZ 1854 2251 ⟨14, 9, 14, 110⟩ ⟨258, 0, 274, 102⟩ := fun w os => by kernel_rfl
theorem k4_tf : ∀ (w : World) (os : OsState), SegK (wf w true false) os r3 4000 lS11 lSZ 1854 2251 ⟨14, 9, 14, 110⟩ ⟨258, 0, 274, 102⟩ := fun w os => by kernel_rfl
theorem k4_tt : ∀ (w : World) (os : OsState), SegK (wf w true true) os r3 4000 lS11 lSZ 1854 2251 ⟨14, 9, 14, 110⟩ ⟨258, 0, 274, 102⟩ := fun w os => by kernel_rfl
theorem s4 (w : World) (os : OsState) : Seg w os r3 4000 lS11 lSZ 1854 2251 ⟨14, 9, 14, 110⟩ ⟨258, 0, 274, 102⟩ :=
  byRow2 "special-get-raises" (P := fun w => ∀ os, Seg w os r3 4000 lS11 lSZ 1854 2251 ⟨14, 9, 14, 110⟩ ⟨258, 0, 274, 102⟩)
    (byRow2 "comprehension-iter-twice" (P := fun w => ∀ os, Seg (w.withFollow "special-get-raises" false) os r3 4000 lS11 lSZ 1854 2251 ⟨14, 9, 14, 110⟩ ⟨258, 0, 274, 102⟩) (fun w os => seg_of (k4_ff w os)) (fun w os => seg_of (k4_tf w os)))
    (byRow2 "comprehension-iter-twice" (P := fun w => ∀ os, Seg (w.withFollow "special-get-raises" true) os r3 4000 lS11 lSZ 1854 2251 ⟨14, 9, 14, 110⟩ ⟨258, 0, 274, 102⟩) (fun w os => seg_of (k4_ft w os)) (fun w os => seg_of (k4_tt w os))) w os
theorem pre0 : ∀ (w : World) (os : OsState), topGo treeTable pr w 28 annN 12 (shAt (lS0 w.params) 276 os) (topStub pr) = some (shAt (lSA w.params) 282 os, ⟨denote treeTable cN, cN, p0, [topFrame p0]⟩) := fun w os => by kernel_rfl
theorem blk0 : ∀ (w : World) (os : OsState), segRun treeTable pr w 28 annN 1 1 (shAt (lSA w.params) 282 os) (blockOf bodyN envN cN p0 [topFrame p0]) = some (.next, shAt (lSA w.params) 282 os, cN, p0) := fun w os => by kernel_rfl
theorem fin0 : ∀ (w : World) (os : OsState), topRun treeTable pr w 28 annN 2 (shAt (lSZ w.params) 2251 os) ⟨doneF .next, cN, ⟨258, 0, 274, 102⟩, [topFrame p0]⟩ = some (shAt (lSZ w.params) 2251 os) := fun w os => by kernel_rfl
theorem run0 (w : World) (os : OsState) : topRun treeTable pr w 28 annN (12 + (1 + (12000 + (5000 + (6000 + (4000 + 2)))))) (shAt (lS0 w.params) 276 os) (topStub pr) = some (shAt (lSZ w.params) 2251 os) := by
  refine go_top (pre0 w os) (piece_block (blk0 w os) ?_)
  have e1 : bodyN = g1 ++ (g2 ++ (g3 ++ (r3 ++ []))) := by
    unfold r3 g3
    rw [List.append_nil, List.take_append_drop]
    unfold r2 g2
    rw [List.take_append_drop]
    unfold r1 g1
    rw [List.take_append_drop]
  rw [show restOf bodyN = restOf (g1 ++ (g2 ++ (g3 ++ (r3 ++ [])))) from congrArg restOf e1]
  exact piece_app (s1 w os) (piece_app (s2 w os) (piece_app (s3 w os) (piece_app (s4 w os) (piece_nil (fin0 w os)))))
theorem size0 : ∀ w : World, ((Heap.mk ⟨lS0 w.params⟩ {}).isNs mainGlobals && (#[] : Array GenState).size == 0, (Heap.mk ⟨lS0 w.params⟩ {}).objs.size, (Heap.mk ⟨lS0 w.params⟩ {}).nsMap mainGlobals "__annotations__") = (true, 28, annN) := fun w => by kernel_rfl
abbrev OpensK (w : World) : Prop := openK (PySem.W.Fast.tw8437177126325714943 (PySem.W.Fast.tw11892475500146522536 PySem.W.Fast.tw14364793385576792824)) PySem.W.Fast.tw3805553451399329143 PySem.W.Fast.tw14289696077712309145 PySem.W.Fast.tw1435165496053646825 pr w 40000 =
  some (⟨⟨lS0 w.params⟩, {}⟩, #[], {}, 276)
theorem opens0 : ∀ w : World, OpensK w := fun w => by kernel_rfl
theorem open0 (w : World) : (fencedOpening treeTable pr w 40000).map (fun s => (s.heap, s.gens, s.drawn, s.toks)) = some (Heap.mk ⟨lS0 w.params⟩ {}, #[], {}, 276) := by
  refine openK_spec ?_
  rw [congr PySem.W.Fast.te8437177126325714943 den_tw, PySem.W.Fast.te3805553451399329143, PySem.W.Fast.te14289696077712309145, PySem.W.Fast.te1435165496053646825]
  exact opens0 w
noncomputable abbrev looksN (sn : Program → List Str → List Str → (Shared → Bool) → Bool → Shared → α) (w : World) (os : OsState) :=
  ((staticsOk (importedModules pr.main.body) (Heap.mk ⟨lS0 w.params⟩ {}) (Heap.mk ⟨lSZ w.params⟩ {}) && namesBound pr (Heap.mk ⟨lSZ w.params⟩ {}) && gensDone (shAt (lSZ w.params) 2251 os) && laidKept (Heap.mk ⟨lS0 w.params⟩ {}) (Heap.mk ⟨lSZ w.params⟩ {})),
    sn vw looseN (importedModules pr.main.body) XtN true (shAt (lSZ w.params) 2251 os), HK.obs (shAt (lSZ w.params) 2251 os))
theorem looksK : ∀ (w : World) (os : OsState), looksN PySem.W.Fast.tw4187177175401517315 w os = (true, openGood vw looseN, HK.val w) := fun w os => by kernel_rfl
theorem looks0 (w : World) : (fun os => looksN openSeen w os) = fun _ => (true, openGood vw looseN, HK.val w) := by
  rw [PySem.W.Fast.te4187177175401517315]
  exact funext fun os => looksK w os
theorem leftN : LeftO pr vw looseN XtN HK.obs HK.val 40000 :=
  LeftO.of_pieces (H₀ := fun P => ⟨⟨lS0 P⟩, {}⟩) (H₁ := fun P => ⟨⟨lSZ P⟩, {}⟩) open0 size0 run0 (by decide) looks0
end Mine
end
section
open PySem PySem.W PyProof.Rows
set_option maxRecDepth 100000
set_option maxHeartbeats 8000000
namespace Mine
theorem said : PySem.Challenge.rw_ik0164_01.wellSaid = true := by
  unfold OpenLaw.wellSaid OpenRow.wellSaid OpenRow.partSaid looksOpen
  repeat' (with_reducible refine look_both ?_ ?_)
  all_goals decide +kernel
theorem promised : rowW.promised := by w_witness2
end Mine
end
section
namespace Mine

/-- one sign, written -/
def enc (c : Nat) : List Nat :=
  if c = 32 then [95] else if c = 233 then [61, 69, 57] else if c = 63 then [61, 51, 70] else if c = 91 then [61, 53, 66] else if c = 95 then [61, 53, 70] else [c]
def wr (r : List Nat) : List Nat := r.flatMap enc
def hdr : List Nat := [61, 63, 120, 63, 113, 63]
def word (r : List Nat) : List Nat := hdr ++ wr r ++ [63, 61]

/-- the signs of a row (122 only in a filled one) -/
def Sg (c : Nat) : Prop := c = 103 ∨ c = 42 ∨ c = 107 ∨ c = 32 ∨ c = 233 ∨ c = 63 ∨ c = 91 ∨ c = 95
def Sz (c : Nat) : Prop := Sg c ∨ c = 122
def sgL : List Nat := [103, 42, 107, 32, 233, 63, 91, 95]
def szL : List Nat := [103, 42, 107, 32, 233, 63, 91, 95, 122]
theorem sg_mem {c : Nat} (h : Sg c) : c ∈ sgL := by
  unfold Sg at h; unfold sgL
  simpa only [List.mem_cons, List.not_mem_nil, or_false] using h
theorem sz_mem {c : Nat} (h : Sz c) : c ∈ szL := by
  rcases h with h | rfl
  · exact (by decide : ∀ c ∈ sgL, c ∈ szL) c (sg_mem h)
  · decide

theorem wr_nil : wr [] = [] := rfl
theorem wr_cons (c : Nat) (r : List Nat) : wr (c :: r) = enc c ++ wr r := rfl

/-- what one sign of the pattern adds -/
def addP (acc : List (Option Nat)) (c : Nat) : List (Option Nat) :=
  if c = 42 then (if acc.getLast? = some none then acc else acc ++ [none]) else if c = 63 then acc ++ [some 46] else acc ++ [some c]
def parts (l : List Nat) : List (Option Nat) := l.foldl addP []

def raw1 (c : Nat) : Option Nat := if c = 42 then none else if c = 63 then some 46 else some c

def stepP (name : List Nat) (places : List Nat) : Option Nat → List Nat
  | none => match places with
    | [] => []
    | p :: _ => List.range' p (name.length + 1 - p)
  | some c => (places.filter fun p => decide (p < name.length) && (c == 46 || some c == name[p]?)).map (· + 1)
def takes (ps : List (Option Nat)) (name : List Nat) : Bool := (ps.foldl (stepP name) [0]).contains name.length

def hold : List Nat → List Nat → Bool
  | [], i => i.isEmpty
  | c :: o, [] => c == 42 && hold o []
  | c :: o, d :: i => if c = 42 then hold o (d :: i) || hold (c :: o) i else c == d && hold o i
termination_by o i => o.length + i.length

theorem hold_nil (i : List Nat) : hold [] i = i.isEmpty := by rw [hold]
theorem hold_cn (c : Nat) (o : List Nat) : hold (c :: o) [] = (c == 42 && hold o []) := by rw [hold]
theorem hold_cc (c d : Nat) (o i : List Nat) : hold (c :: o) (d :: i) = if c = 42 then hold o (d :: i) || hold (c :: o) i else c == d && hold o i := by rw [hold]

/-- the parts take the whole text -/
def mat : List (Option Nat) → List Nat → Bool
  | [], s => s.isEmpty
  | some _ :: _, [] => false
  | some c :: ps, x :: s => (c == 46 || c == x) && mat ps s
  | none :: ps, [] => mat ps []
  | none :: ps, x :: s => mat ps (x :: s) || mat (none :: ps) s
termination_by ps s => ps.length + s.length
theorem mat_nil (s : List Nat) : mat [] s = s.isEmpty := by rw [mat]
theorem mat_s0 (c : Nat) (ps : List (Option Nat)) : mat (some c :: ps) [] = false := by rw [mat]
theorem mat_s (c x : Nat) (ps : List (Option Nat)) (s : List Nat) : mat (some c :: ps) (x :: s) = ((c == 46 || c == x) && mat ps s) := by rw [mat]
theorem mat_n0 (ps : List (Option Nat)) : mat (none :: ps) [] = mat ps [] := by rw [mat]
theorem mat_n (x : Nat) (ps : List (Option Nat)) (s : List Nat) : mat (none :: ps) (x :: s) = (mat ps (x :: s) || mat (none :: ps) s) := by rw [mat]

theorem mat_none_iff (ps : List (Option Nat)) : ∀ s : List Nat, mat (none :: ps) s = true ↔ ∃ k, k ≤ s.length ∧ mat ps (s.drop k) = true := by
  intro s
  induction s with
  | nil => rw [mat_n0]; exact ⟨fun h => ⟨0, Nat.le_refl _, h⟩, fun ⟨k, _, h⟩ => by simpa using h⟩
  | cons x s ih =>
    rw [mat_n, Bool.or_eq_true, ih]
    constructor
    · rintro (h | ⟨k, hk, h⟩)
      · exact ⟨0, Nat.zero_le _, h⟩
      · exact ⟨k + 1, by simpa using hk, by simpa using h⟩
    · rintro ⟨k, hk, h⟩
      cases k with
      | zero => exact .inl h
      | succ k => exact .inr ⟨k, by simpa using hk, by simpa using h⟩

theorem mat_none2 (ps : List (Option Nat)) (s : List Nat) : mat (none :: none :: ps) s = mat (none :: ps) s := by
  rw [Bool.eq_iff_iff, mat_none_iff, mat_none_iff]
  constructor
  · rintro ⟨k, hk, h⟩
    obtain ⟨j, hj, h⟩ := (mat_none_iff _ _).mp h
    rw [List.drop_drop] at h
    rw [List.length_drop] at hj
    exact ⟨k + j, by (first | lia | omega), h⟩
  · rintro ⟨k, hk, h⟩
    exact ⟨k, hk, (mat_none_iff _ _).mpr ⟨0, Nat.zero_le _, by simpa using h⟩⟩

/-- a context of parts -/
theorem mat_cong {ps qs : List (Option Nat)} (h : ∀ s, mat ps s = mat qs s) : ∀ (pre : List (Option Nat)) (s : List Nat), mat (pre ++ ps) s = mat (pre ++ qs) s := by
  intro pre
  induction pre with
  | nil => exact h
  | cons p pre ih =>
    intro s
    cases p with
    | some c => cases s with
      | nil => rw [List.cons_append, List.cons_append, mat_s0, mat_s0]
      | cons x s => rw [List.cons_append, List.cons_append, mat_s, mat_s, ih]
    | none =>
      rw [Bool.eq_iff_iff, List.cons_append, List.cons_append, mat_none_iff, mat_none_iff]
      constructor <;> (rintro ⟨k, hk, h⟩; exact ⟨k, hk, by rw [ih] at *; exact h⟩)

theorem addP_raw (acc : List (Option Nat)) (c : Nat) (ps : List (Option Nat)) (s : List Nat) : mat (addP acc c ++ ps) s = mat (acc ++ raw1 c :: ps) s := by
  unfold addP raw1
  by_cases h : c = 42
  · simp only [h, if_true]
    by_cases q : acc.getLast? = some none
    · simp only [q, if_true]
      obtain ⟨pre, rfl⟩ : ∃ pre, acc = pre ++ [none] := by
        obtain ⟨pre, e⟩ := List.getLast?_eq_some_iff.mp q
        exact ⟨pre, e⟩
      rw [List.append_assoc, List.append_assoc]
      exact (mat_cong (ps := none :: none :: ps) (qs := none :: ps) (mat_none2 ps) pre s).symm
    · simp only [q, if_false, List.append_assoc, List.cons_append, List.nil_append]
  · by_cases q : c = 63
    · simp [q]
    · simp [h, q]

theorem parts_raw_go : ∀ (l : List Nat) (acc ps : List (Option Nat)) (s : List Nat), mat (l.foldl addP acc ++ ps) s = mat (acc ++ l.map raw1 ++ ps) s := by
  intro l
  induction l with
  | nil => intro acc ps s; simp
  | cons c l ih =>
    intro acc ps s
    rw [List.foldl_cons, ih, List.append_assoc, addP_raw]
    simp
theorem parts_raw (l : List Nat) (s : List Nat) : mat (parts l) s = mat (l.map raw1) s := by
  have := parts_raw_go l [] [] s
  simpa [parts] using this

/-- takes by places is taking -/
theorem takes_go (name : List Nat) : ∀ (ps : List (Option Nat)) (places : List Nat), places.Pairwise (· < ·) → (∀ p ∈ places, p ≤ name.length) →
    ((ps.foldl (stepP name) places).contains name.length = true ↔ ∃ p ∈ places, mat ps (name.drop p) = true) := by
  intro ps
  induction ps with
  | nil =>
    intro places _ hle
    rw [List.foldl_nil, List.contains_iff_mem]
    constructor
    · intro h; exact ⟨_, h, by rw [mat_nil]; simp⟩
    · rintro ⟨p, hp, h⟩
      rw [mat_nil] at h
      have : name.length ≤ p := by simpa using h
      have : p = name.length := Nat.le_antisymm (hle p hp) this
      exact this ▸ hp
  | cons q ps ih =>
    intro places hs hle
    rw [List.foldl_cons]
    cases q with
    | none =>
      cases places with
      | nil =>
        have : stepP name [] none = [] := rfl
        rw [this, ih [] .nil (fun _ h => nomatch h)]
        simp
      | cons p r =>
        have e : stepP name (p :: r) none = List.range' p (name.length + 1 - p) := rfl
        have hp := hle p (.head _)
        rw [e, ih _ (List.pairwise_lt_range' ..) (fun x hx => by rw [List.mem_range'_1] at hx; (first | lia | omega))]
        constructor
        · rintro ⟨x, hx, h⟩
          rw [List.mem_range'_1] at hx
          refine ⟨p, .head _, (mat_none_iff _ _).mpr ⟨x - p, by rw [List.length_drop]; (first | lia | omega), ?_⟩⟩
          rw [List.drop_drop, show p + (x - p) = x by (first | lia | omega)]; exact h
        · rintro ⟨x, hx, h⟩
          obtain ⟨k, hk, h⟩ := (mat_none_iff _ _).mp h
          rw [List.drop_drop] at h
          rw [List.length_drop] at hk
          have hxl := hle x hx
          have hpx : p ≤ x := by
            rcases List.mem_cons.mp hx with rfl | hx
            · exact Nat.le_refl _
            · exact Nat.le_of_lt ((List.pairwise_cons.mp hs).1 x hx)
          exact ⟨x + k, by rw [List.mem_range'_1]; (first | lia | omega), h⟩
    | some c =>
      have e : stepP name places (some c) = (places.filter fun p => decide (p < name.length) && (c == 46 || some c == name[p]?)).map (· + 1) := rfl
      rw [e, ih _ (by
        rw [List.pairwise_map]
        exact (hs.filter _).imp fun h => by (first | lia | omega)) (by
        intro x hx
        obtain ⟨y, hy, rfl⟩ := List.mem_map.mp hx
        have := (List.mem_filter.mp hy).2
        simp only [Bool.and_eq_true, decide_eq_true_eq] at this
        (first | lia | omega))]
      constructor
      · rintro ⟨x, hx, h⟩
        obtain ⟨y, hy, rfl⟩ := List.mem_map.mp hx
        obtain ⟨hy, hc⟩ := List.mem_filter.mp hy
        simp only [Bool.and_eq_true, decide_eq_true_eq, Bool.or_eq_true, beq_iff_eq] at hc
        refine ⟨y, hy, ?_⟩
        rw [List.drop_eq_getElem_cons hc.1, mat_s, h]
        rw [List.getElem?_eq_getElem hc.1] at hc
        simp only [Bool.and_true, Bool.or_eq_true, beq_iff_eq]
        exact hc.2.imp id fun e => by simpa using e
      · rintro ⟨y, hy, h⟩
        have hl : y < name.length := by
          rcases Nat.lt_or_ge y name.length with q | q
          · exact q
          · rw [List.drop_eq_nil_of_le q, mat_s0] at h; cases h
        rw [List.drop_eq_getElem_cons hl, mat_s, Bool.and_eq_true] at h
        refine ⟨y + 1, List.mem_map.mpr ⟨y, List.mem_filter.mpr ⟨hy, ?_⟩, rfl⟩, h.2⟩
        rw [List.getElem?_eq_getElem hl]
        simp only [hl, decide_true, Bool.true_and, Bool.or_eq_true, beq_iff_eq] at h ⊢
        exact h.1.imp id fun e => by simpa using e
theorem takes_mat (ps : List (Option Nat)) (name : List Nat) : takes ps name = mat ps name := by
  rw [Bool.eq_iff_iff]
  unfold takes
  rw [takes_go name ps [0] (by simp) (by simp)]
  simp

def tl : List (Option Nat) := [some 46, some 61]

theorem mat_len2 : ∀ (l : List Nat) (s : List Nat), mat (l.map raw1 ++ tl) s = true → 2 ≤ s.length := by
  have base : ∀ s : List Nat, mat tl s = true → 2 ≤ s.length := by
    intro s h
    match s with
    | [] => rw [tl, mat_s0] at h; cases h
    | [x] => rw [tl, mat_s, mat_s0, Bool.and_false] at h; cases h
    | _ :: _ :: s => simp
  intro l
  induction l with
  | nil => exact base
  | cons c l ih =>
    intro s h
    rw [List.map_cons, List.cons_append] at h
    cases hr : raw1 c with
    | none =>
      rw [hr] at h
      obtain ⟨k, hk, h⟩ := (mat_none_iff _ _).mp h
      have := ih _ h
      rw [List.length_drop] at this
      (first | lia | omega)
    | some d =>
      rw [hr] at h
      cases s with
      | nil => rw [mat_s0] at h; cases h
      | cons x s =>
        rw [mat_s, Bool.and_eq_true] at h
        have := ih _ h.2
        simp; (first | lia | omega)

theorem enc_ne (d : Nat) : enc d ≠ [] := by unfold enc; repeat' split
                                            all_goals simp
theorem wr_tail_len (d : Nat) (i : List Nat) : 3 ≤ (wr (d :: i) ++ [63, 61]).length := by
  have := List.length_pos_iff.mpr (enc_ne d)
  rw [wr_cons]; simp; (first | lia | omega)

theorem mat_tl (s : List Nat) : mat tl s = true ↔ ∃ x, s = [x, 61] := by
  match s with
  | [] => simp [tl, mat_s0]
  | [x] => simp [tl, mat_s, mat_s0]
  | x :: y :: s =>
    simp only [tl, mat_s, mat_nil, BEq.rfl, Bool.true_or, Bool.true_and, Bool.and_eq_true, Bool.or_eq_true, beq_iff_eq, List.isEmpty_iff, List.cons.injEq]
    constructor
    · rintro ⟨h1, h2⟩; exact ⟨x, rfl, (h1.resolve_left (by decide)).symm, h2⟩
    · rintro ⟨_, _, h1, h2⟩; exact ⟨.inr h1.symm, h2⟩

/-- an escape torn open -/
def Mid (m : List Nat) : Prop := m = [69, 57] ∨ m = [57] ∨ m = [51, 70] ∨ m = [70] ∨ m = [53, 66] ∨ m = [66] ∨ m = [53, 70] ∨ m = [122]

def midL : List (List Nat) := [[69, 57], [57], [51, 70], [70], [53, 66], [66], [53, 70], [122]]
theorem mid_mem {m : List Nat} (h : Mid m) : m ∈ midL := by
  unfold Mid at h; unfold midL
  simpa only [List.mem_cons, List.not_mem_nil, or_false] using h
theorem mid_of {m : List Nat} (h : m ∈ midL) : Mid m := by
  unfold midL at h; unfold Mid
  simpa only [List.mem_cons, List.not_mem_nil, or_false] using h
theorem mid_drop : ∀ d ∈ szL, ∀ k ∈ List.range (enc d).length, k ≠ 0 → (enc d).drop k ∈ midL := by decide
theorem midL_len : ∀ m ∈ midL, 0 < m.length ∧ m.length ≤ 2 := by decide
theorem mid_rest : ∀ m ∈ midL, ∀ k ∈ List.range m.length, m.drop k ∈ midL := by decide
/-- two written signs part at their heads -/
def headsPart (l m : List Nat) : Bool := match l.map raw1, m with
  | some x :: _, y :: _ => !(x == 46 || x == y)
  | _, _ => false
theorem mat_heads {l m : List Nat} (h : headsPart l m = true) (ps : List (Option Nat)) (s : List Nat) : mat (l.map raw1 ++ ps) (m ++ s) = false := by
  unfold headsPart at h
  split at h
  · rename_i x l' y m' e
    have h : (x == 46 || x == y) = false := by simpa using h
    rw [e, List.cons_append, List.cons_append, mat_s, h, Bool.false_and]
  · cases h
theorem mid_part : ∀ c ∈ sgL, c ≠ 42 → ∀ m ∈ midL, headsPart (enc c) m = true := by decide
/-- every rest of a written row's end: at a sign, torn, or within the frame -/
theorem drop_cases : ∀ (i : List Nat), (∀ d ∈ i, Sz d) → ∀ k, k ≤ (wr i ++ [63, 61]).length →
    (∃ j, j ≤ i.length ∧ (wr i ++ [63, 61]).drop k = wr (i.drop j) ++ [63, 61]) ∨ (∃ m j, Mid m ∧ j ≤ i.length ∧ (wr i ++ [63, 61]).drop k = m ++ (wr (i.drop j) ++ [63, 61])) ∨
    (wr i ++ [63, 61]).drop k = [61] ∨ (wr i ++ [63, 61]).drop k = [] := by
  intro i
  induction i with
  | nil =>
    intro _ k hk
    match k with
    | 0 => exact .inl ⟨0, by simp, rfl⟩
    | 1 => exact .inr (.inr (.inl rfl))
    | 2 => exact .inr (.inr (.inr rfl))
    | k + 3 => simp [wr] at hk
  | cons d i ih =>
    intro hi k hk
    have hd := hi d (.head _)
    have IH := ih (fun x hx => hi x (.tail _ hx))
    rw [wr_cons, List.append_assoc] at hk ⊢
    by_cases hk0 : k = 0
    · subst hk0
      exact .inl ⟨0, Nat.zero_le _, by rw [List.drop_zero, List.drop_zero, wr_cons, List.append_assoc]⟩
    by_cases hl : (enc d).length ≤ k
    · rw [List.drop_append, List.drop_eq_nil_of_le hl, List.nil_append]
      rw [List.length_append] at hk
      rcases IH (k - (enc d).length) (by (first | lia | omega)) with ⟨j, hj, e⟩ | ⟨m, j, hm, hj, e⟩ | e | e
      · exact .inl ⟨j + 1, by simpa using hj, by rw [e, List.drop_succ_cons]⟩
      · exact .inr (.inl ⟨m, j + 1, hm, by simpa using hj, by rw [e, List.drop_succ_cons]⟩)
      · exact .inr (.inr (.inl e))
      · exact .inr (.inr (.inr e))
    · right; left
      have e : (enc d ++ (wr i ++ [63, 61])).drop k = (enc d).drop k ++ (wr i ++ [63, 61]) := by
        rw [List.drop_append, show k - (enc d).length = 0 by (first | lia | omega), List.drop_zero]
      exact ⟨(enc d).drop k, 1, mid_of (mid_drop d (sz_mem hd) k (List.mem_range.mpr (Nat.lt_of_not_le hl)) hk0), by simp, by rw [e]; rfl⟩

/-- a torn escape is taken only where a star takes it -/
theorem mid_no : ∀ (o : List Nat), (∀ c ∈ o, Sg c) → ∀ (m t : List Nat), Mid m → 2 ≤ t.length → mat (o.flatMap enc |>.map raw1 |> (· ++ tl)) (m ++ t) = true →
    mat ((wr o).map raw1 ++ tl) t = true := by
  intro o
  induction o with
  | nil =>
    intro _ m t hm ht h
    exfalso
    obtain ⟨x, hx⟩ := (mat_tl _).mp h
    have e := congrArg List.length hx
    rw [List.length_append] at e
    have := (midL_len m (mid_mem hm)).1
    simp at e; (first | lia | omega)
  | cons c o ih =>
    intro ho m t hm ht h
    have hc := ho c (.head _)
    by_cases h42 : c = 42
    · subst h42
      have e : (wr (42 :: o)).map raw1 ++ tl = none :: ((wr o).map raw1 ++ tl) := rfl
      have h : mat (none :: ((wr o).map raw1 ++ tl)) (m ++ t) = true := h
      rw [e]
      obtain ⟨k, hk, h⟩ := (mat_none_iff _ _).mp h
      by_cases hkm : m.length ≤ k
      · rw [List.drop_append, List.drop_eq_nil_of_le hkm, List.nil_append] at h
        rw [List.length_append] at hk
        exact (mat_none_iff _ _).mpr ⟨k - m.length, by (first | lia | omega), h⟩
      · rw [List.drop_append, show k - m.length = 0 by (first | lia | omega), List.drop_zero] at h
        have hm' : Mid (m.drop k) := mid_of (mid_rest m (mid_mem hm) k (List.mem_range.mpr (Nat.lt_of_not_le hkm)))
        exact (mat_none_iff _ _).mpr ⟨0, Nat.zero_le _, ih (fun x hx => ho x (.tail _ hx)) _ _ hm' ht h⟩
    · exfalso
      have h : mat ((enc c ++ wr o).map raw1 ++ tl) (m ++ t) = true := h
      rw [List.map_append, List.append_assoc, mat_heads (mid_part c (sg_mem hc) h42 m (mid_mem hm))] at h
      cases h

theorem mat_pre (ps : List (Option Nat)) (l s : List Nat) (h : ∀ x ∈ l, x ≠ 42 ∧ x ≠ 63) : mat (l.map raw1 ++ ps) (l ++ s) = mat ps s := by
  induction l with
  | nil => rfl
  | cons x l ih =>
    obtain ⟨h1, h2⟩ := h x (.head _)
    have : raw1 x = some x := by simp [raw1, h1, h2]
    rw [List.map_cons, this, List.cons_append, List.cons_append, mat_s]
    simp [ih fun y hy => h y (.tail _ hy)]

theorem enc_free0 : ∀ c ∈ sgL, c ≠ 42 → ∀ x ∈ enc c, x ≠ 42 ∧ x ≠ 63 := by decide
theorem enc_free {c : Nat} (hc : Sg c) (h42 : c ≠ 42) : ∀ x ∈ enc c, x ≠ 42 ∧ x ≠ 63 := enc_free0 c (sg_mem hc) h42

/-- two texts part at a sign that both have -/
def apart : List Nat → List Nat → Bool
  | a :: l, b :: m => if a = b then apart l m else a != 42 && a != 63
  | _, _ => false
theorem mat_apart : ∀ (l m : List Nat), apart l m = true → (∀ x ∈ l, x ≠ 42 ∧ x ≠ 63 ∧ x ≠ 46) → ∀ (ps : List (Option Nat)) (s : List Nat), mat (l.map raw1 ++ ps) (m ++ s) = false := by
  intro l
  induction l with
  | nil => intro m h; simp [apart] at h
  | cons a l ih =>
    intro m h hl ps s
    cases m with
    | nil => simp [apart] at h
    | cons b m =>
      obtain ⟨h1, h2, h3⟩ := hl a (.head _)
      have : raw1 a = some a := by simp [raw1, h1, h2]
      rw [List.map_cons, this, List.cons_append, List.cons_append, mat_s]
      rw [apart] at h
      by_cases e : a = b
      · rw [if_pos e] at h
        rw [ih m h (fun x hx => hl x (.tail _ hx)), Bool.and_false]
      · simp [e, h3]
theorem enc_apart0 : ∀ c ∈ sgL, c ≠ 42 → (∀ d ∈ szL, c ≠ d → apart (enc c) (enc d) = true) ∧ apart (enc c) [63, 61] = true ∧ ∀ x ∈ enc c, x ≠ 42 ∧ x ≠ 63 ∧ x ≠ 46 := by decide
theorem enc_apart {c d : Nat} (hc : Sg c) (h42 : c ≠ 42) (hd : Sz d) (hne : c ≠ d) (ps : List (Option Nat)) (s : List Nat) : mat ((enc c).map raw1 ++ ps) (enc d ++ s) = false :=
  mat_apart _ _ ((enc_apart0 c (sg_mem hc) h42).1 d (sz_mem hd) hne) (enc_apart0 c (sg_mem hc) h42).2.2 ps s
theorem enc_end {c : Nat} (hc : Sg c) (h42 : c ≠ 42) (ps : List (Option Nat)) : mat ((enc c).map raw1 ++ ps) [63, 61] = false := by
  have := mat_apart (enc c) [63, 61] (enc_apart0 c (sg_mem hc) h42).2.1 (enc_apart0 c (sg_mem hc) h42).2.2 ps []
  rwa [List.append_nil] at this

/-- a row's signs, each star of it as it is or as zz -/
def Fills (z : Bool) (i : List Nat) : List Nat := i.flatMap fun d => if z = true ∧ d = 42 then [122, 122] else [d]
theorem fills_false (i : List Nat) : Fills false i = i := by
  unfold Fills
  induction i with
  | nil => rfl
  | cons d i ih => simpa using ih
theorem fill_cons (z : Bool) (d : Nat) (i : List Nat) : Fills z (d :: i) = (if z = true ∧ d = 42 then [122, 122] else [d]) ++ Fills z i := rfl
theorem fill_sz (z : Bool) (i : List Nat) (hi : ∀ d ∈ i, Sg d) : ∀ d ∈ Fills z i, Sz d := by
  unfold Fills
  intro d hd
  obtain ⟨x, hx, hd⟩ := List.mem_flatMap.mp hd
  by_cases h : z = true ∧ x = 42
  · rw [if_pos h] at hd; simp at hd; exact .inr hd
  · rw [if_neg h] at hd; simp at hd; exact .inl (hd ▸ hi x hx)
theorem wr_append (a b : List Nat) : wr (a ++ b) = wr a ++ wr b := by simp [wr]
theorem fill_append (z : Bool) (a b : List Nat) : Fills z (a ++ b) = Fills z a ++ Fills z b := by simp [Fills]
theorem fill_drop (z : Bool) : ∀ (i : List Nat) (j : Nat), j ≤ (Fills z i).length → ∃ k, k ≤ i.length ∧ ((Fills z i).drop j = Fills z (i.drop k) ∨ (Fills z i).drop j = 122 :: Fills z (i.drop k)) := by
  intro i
  induction i with
  | nil => intro j hj; exact ⟨0, Nat.zero_le _, .inl (by simp [Fills])⟩
  | cons d i ih =>
    intro j hj
    cases j with
    | zero => exact ⟨0, Nat.zero_le _, .inl rfl⟩
    | succ j =>
      rw [fill_cons] at hj ⊢
      by_cases h : z = true ∧ d = 42
      · rw [if_pos h] at hj ⊢
        cases j with
        | zero => exact ⟨1, by simp, .inr rfl⟩
        | succ j =>
          obtain ⟨k, hk, e⟩ := ih j (by simpa using hj)
          exact ⟨k + 1, by simpa using hk, by simpa using e⟩
      · rw [if_neg h] at hj ⊢
        obtain ⟨k, hk, e⟩ := ih j (by simpa using hj)
        exact ⟨k + 1, by simpa using hk, by simpa using e⟩

theorem hold_star (o : List Nat) : ∀ i : List Nat, hold (42 :: o) i = true ↔ ∃ k, k ≤ i.length ∧ hold o (i.drop k) = true := by
  intro i
  induction i with
  | nil => rw [hold_cn]; exact ⟨fun h => ⟨0, Nat.le_refl _, by simpa using h⟩, fun ⟨k, _, h⟩ => by simpa using h⟩
  | cons d i ih =>
    rw [hold_cc, if_pos rfl, Bool.or_eq_true, ih]
    constructor
    · rintro (h | ⟨k, hk, h⟩)
      · exact ⟨0, Nat.zero_le _, h⟩
      · exact ⟨k + 1, by simpa using hk, by simpa using h⟩
    · rintro ⟨k, hk, h⟩
      cases k with
      | zero => exact .inl h
      | succ k => exact .inr ⟨k, by simpa using hk, by simpa using h⟩

theorem mat_hold (z : Bool) : ∀ (o : List Nat), (∀ c ∈ o, Sg c) → ∀ (i : List Nat), (∀ d ∈ i, Sg d) → mat ((wr o).map raw1 ++ tl) (wr (Fills z i) ++ [63, 61]) = hold o i := by
  intro o
  induction o with
  | nil =>
    intro _ i _
    rw [hold_nil, Bool.eq_iff_iff]
    show mat tl _ = true ↔ _
    rw [mat_tl]
    cases i with
    | nil => exact ⟨fun _ => rfl, fun _ => ⟨63, rfl⟩⟩
    | cons d i =>
      refine ⟨fun ⟨x, e⟩ => ?_, fun h => by simp at h⟩
      exfalso
      have hl := congrArg List.length e
      have : ∃ x y, Fills z (d :: i) = x :: y := by
        rw [fill_cons]
        split
        · exact ⟨_, _, rfl⟩
        · exact ⟨_, _, rfl⟩
      obtain ⟨x', y, e'⟩ := this
      rw [e'] at hl
      have := wr_tail_len x' y
      simp only [List.length_cons, List.length_nil] at hl
      (first | lia | omega)
  | cons c o ih =>
    intro ho i hi
    have hc := ho c (.head _)
    have ho' : ∀ x ∈ o, Sg x := fun x hx => ho x (.tail _ hx)
    by_cases h42 : c = 42
    · subst h42
      show mat (none :: ((wr o).map raw1 ++ tl)) _ = _
      rw [Bool.eq_iff_iff, mat_none_iff, hold_star]
      constructor
      · rintro ⟨k, hk, h⟩
        have at_ : ∀ j, j ≤ (Fills z i).length → mat ((wr o).map raw1 ++ tl) (wr ((Fills z i).drop j) ++ [63, 61]) = true → ∃ k, k ≤ i.length ∧ hold o (i.drop k) = true := by
          intro j hj h
          obtain ⟨k, hk, e | e⟩ := fill_drop z i j hj
          · rw [e, ih ho' _ fun d hd => hi d (List.mem_of_mem_drop hd)] at h
            exact ⟨k, hk, h⟩
          · rw [e, wr_cons, List.append_assoc] at h
            have h := mid_no o ho' [122] _ (by simp [Mid]) (by simp) h
            rw [ih ho' _ fun d hd => hi d (List.mem_of_mem_drop hd)] at h
            exact ⟨k, hk, h⟩
        rcases drop_cases _ (fill_sz z i hi) k hk with ⟨j, hj, e⟩ | ⟨m, j, hm, hj, e⟩ | e | e
        · rw [e] at h; exact at_ j hj h
        · rw [e] at h
          exact at_ j hj (mid_no o ho' m _ hm (by simp) h)
        · rw [e] at h; exact absurd (mat_len2 _ _ h) (by decide)
        · rw [e] at h; exact absurd (mat_len2 _ _ h) (by decide)
      · rintro ⟨k, hk, h⟩
        rw [← ih ho' _ fun d hd => hi d (List.mem_of_mem_drop hd)] at h
        have e : wr (Fills z i) ++ [63, 61] = wr (Fills z (i.take k)) ++ (wr (Fills z (i.drop k)) ++ [63, 61]) := by
          rw [← List.append_assoc, ← wr_append, ← fill_append, List.take_append_drop]
        refine ⟨(wr (Fills z (i.take k))).length, by rw [e]; simp, ?_⟩
        rw [e, List.drop_left]; exact h
    · have e1 : (wr (c :: o)).map raw1 ++ tl = (enc c).map raw1 ++ ((wr o).map raw1 ++ tl) := by rw [wr_cons, List.map_append, List.append_assoc]
      rw [e1]
      cases i with
      | nil =>
        rw [hold_cn]
        have : mat ((enc c).map raw1 ++ ((wr o).map raw1 ++ tl)) [63, 61] = false := enc_end hc h42 _
        rw [show (c == 42) = false by simpa using h42, Bool.false_and]; exact this
      | cons d i =>
        rw [hold_cc, if_neg h42, fill_cons]
        have hd := hi d (.head _)
        have hi' : ∀ x ∈ i, Sg x := fun x hx => hi x (.tail _ hx)
        by_cases hcd : c = d
        · subst hcd
          rw [if_neg (fun h => h42 h.2), List.singleton_append, wr_cons, List.append_assoc, mat_pre _ (enc c) _ (enc_free hc h42), ih ho' i hi']
          simp
        · have : ∃ d' r, (if z = true ∧ d = 42 then [122, 122] else [d]) ++ Fills z i = d' :: r ∧ Sz d' ∧ c ≠ d' := by
            by_cases h : z = true ∧ d = 42
            · rw [if_pos h]; exact ⟨122, _, rfl, .inr rfl, fun e => by subst e; exact absurd hc (by unfold Sg; decide)⟩
            · rw [if_neg h]; exact ⟨d, _, rfl, .inl hd, hcd⟩
          obtain ⟨d', r, e, hd', hne⟩ := this
          rw [e, wr_cons, List.append_assoc, enc_apart hc h42 hd' hne]
          simp [hcd]

/-- the law's fourth part: the word as a pattern -/
theorem takes_hold (z : Bool) (o i : List Nat) (ho : ∀ c ∈ o, Sg c) (hi : ∀ d ∈ i, Sg d) : takes (parts (word o)) (word (Fills z i)) = hold o i := by
  rw [takes_mat, parts_raw, ← mat_hold z o ho i hi]
  unfold word
  rw [List.map_append, List.map_append]
  show mat (some 61 :: some 46 :: some 120 :: some 46 :: some 113 :: some 46 :: ((wr o).map raw1 ++ tl)) (61 :: 63 :: 120 :: 63 :: 113 :: 63 :: (wr (Fills z i) ++ [63, 61])) = _
  simp [mat_s]

/-- the weight: the signs that are no star, written -/
def wt (r : List Nat) : Nat := (r.map fun c => if c = 42 then 0 else (enc c).length).sum
/-- the runs of stars; the flag: a star stands ahead -/
def runs : Bool → List Nat → Nat
  | _, [] => 0
  | p, c :: r => if c = 42 then (if p then 0 else 1) + runs true r else runs false r

theorem wt_cons (c : Nat) (r : List Nat) : wt (c :: r) = (if c = 42 then 0 else (enc c).length) + wt r := by simp [wt]
theorem hold_wt : ∀ (n : Nat) (o i : List Nat), o.length + i.length ≤ n → hold o i = true → wt o ≤ wt i := by
  intro n
  induction n with
  | zero =>
    intro o i hn h
    have : o = [] := List.length_eq_zero_iff.mp (by (first | lia | omega))
    subst this; simp [wt]
  | succ n ih =>
    intro o i hn h
    cases o with
    | nil => simp [wt]
    | cons c o =>
      rw [wt_cons]
      cases i with
      | nil =>
        rw [hold_cn, Bool.and_eq_true, beq_iff_eq] at h
        rw [if_pos h.1]
        have := ih o [] (by simp at hn ⊢; (first | lia | omega)) h.2
        (first | lia | omega)
      | cons d i =>
        rw [hold_cc] at h
        by_cases hc : c = 42
        · rw [if_pos hc, Bool.or_eq_true] at h
          rw [if_pos hc]
          rcases h with h | h
          · have := ih o (d :: i) (by simp at hn ⊢; (first | lia | omega)) h; (first | lia | omega)
          · have := ih (c :: o) i (by simp at hn ⊢; (first | lia | omega)) h
            rw [wt_cons, if_pos hc] at this
            rw [wt_cons]; (first | lia | omega)
        · rw [if_neg hc, Bool.and_eq_true, beq_iff_eq] at h
          have := ih o i (by simp at hn ⊢; (first | lia | omega)) h.2
          rw [wt_cons, h.1]; (first | lia | omega)

inductive Same : List Nat → List Nat → Prop
  | nil : Same [] []
  | cons {a o i} : a ≠ 42 → Same o i → Same (a :: o) (a :: i)
  | left {o i} : Same o i → Same (42 :: o) i
  | both {o i} : Same (42 :: o) i → Same (42 :: o) (42 :: i)

theorem same_of : ∀ (n : Nat) (o i : List Nat), o.length + i.length ≤ n → hold o i = true → wt i ≤ wt o → Same o i := by
  intro n
  induction n with
  | zero =>
    intro o i hn h _
    have h1 : o = [] := List.length_eq_zero_iff.mp (by (first | lia | omega))
    have h2 : i = [] := List.length_eq_zero_iff.mp (by (first | lia | omega))
    subst h1 h2; exact .nil
  | succ n ih =>
    intro o i hn h hw
    cases o with
    | nil => rw [hold_nil, List.isEmpty_iff] at h; subst h; exact .nil
    | cons c o =>
      cases i with
      | nil =>
        rw [hold_cn, Bool.and_eq_true, beq_iff_eq] at h
        obtain ⟨rfl, h⟩ := h
        exact .left (ih o [] (by simp at hn ⊢; (first | lia | omega)) h (by simp [wt]))
      | cons d i =>
        rw [hold_cc] at h
        by_cases hc : c = 42
        · subst hc
          rw [if_pos rfl, Bool.or_eq_true] at h
          rw [wt_cons 42, if_pos rfl] at hw
          rcases h with h | h
          · exact .left (ih o (d :: i) (by simp at hn ⊢; (first | lia | omega)) h (by (first | lia | omega)))
          · have h1 := hold_wt _ (42 :: o) i (Nat.le_refl _) h
            rw [wt_cons 42, if_pos rfl] at h1
            rw [wt_cons] at hw
            by_cases hd : d = 42
            · subst hd
              rw [if_pos rfl] at hw
              exact .both (ih (42 :: o) i (by simp at hn ⊢; (first | lia | omega)) h (by rw [wt_cons 42, if_pos rfl]; (first | lia | omega)))
            · rw [if_neg hd] at hw
              have := List.length_pos_iff.mpr (enc_ne d)
              (first | lia | omega)
        · rw [if_neg hc, Bool.and_eq_true, beq_iff_eq] at h
          obtain ⟨rfl, h⟩ := h
          rw [wt_cons, wt_cons] at hw
          exact .cons hc (ih o i (by simp at hn ⊢; (first | lia | omega)) h (by (first | lia | omega)))

theorem runs_le (l : List Nat) : runs true l ≤ runs false l ∧ runs false l ≤ 1 + runs true l := by
  cases l with
  | nil => simp [runs]
  | cons c l => unfold runs; split <;> simp <;> (first | lia | omega)
theorem hold_abs {o i : List Nat} (h : hold (42 :: o) i = true) : hold (42 :: o) (42 :: i) = true := by rw [hold_cc, if_pos rfl, h, Bool.or_true]
theorem hold_put {o i : List Nat} (h : hold o i = true) : hold (42 :: o) i = true := (hold_star o i).mpr ⟨0, Nat.zero_le _, h⟩
theorem hold_two {o i : List Nat} (h : hold (42 :: 42 :: o) i = true) : hold (42 :: o) i = true := by
  obtain ⟨k, hk, h⟩ := (hold_star _ _).mp h
  obtain ⟨j, hj, h⟩ := (hold_star _ _).mp h
  rw [List.drop_drop] at h
  rw [List.length_drop] at hj
  exact (hold_star _ _).mpr ⟨k + j, by (first | lia | omega), h⟩

theorem same_runs {o i : List Nat} (S : Same o i) : (runs false i ≤ runs false o ∧ runs true i ≤ runs true o) ∧ (runs false i = runs false o → hold i o = true) ∧ (runs true i = runs true o → hold (42 :: i) o = true) := by
  induction S with
  | nil => exact ⟨⟨Nat.le_refl _, Nat.le_refl _⟩, fun _ => by rw [hold_nil]; rfl, fun _ => by rw [hold_cn, hold_nil]; rfl⟩
  | @cons a o i ha S ih =>
    obtain ⟨⟨h1, h2⟩, h3, h4⟩ := ih
    have e (p : Bool) (l : List Nat) : runs p (a :: l) = runs false l := by rw [runs, if_neg ha]
    simp only [e]
    refine ⟨⟨h1, h1⟩, fun q => ?_, fun q => hold_put ?_⟩ <;> (rw [hold_cc, if_neg ha, h3 q]; simp)
  | @left o i S ih =>
    obtain ⟨⟨h1, h2⟩, h3, h4⟩ := ih
    have e0 : runs false (42 :: o) = 1 + runs true o := by simp [runs]
    have e1 : runs true (42 :: o) = runs true o := by simp [runs]
    have hi := runs_le i
    rw [e0, e1]
    refine ⟨⟨by (first | lia | omega), h2⟩, fun q => ?_, fun q => hold_abs (h4 q)⟩
    have q1 : runs true i = runs true o := by (first | lia | omega)
    have q2 : runs false i = 1 + runs true i := by (first | lia | omega)
    have h5 := h4 q1
    cases i with
    | nil => simp [runs] at q2
    | cons d i =>
      by_cases hd : d = 42
      · subst hd; exact hold_abs (hold_two h5)
      · simp [runs, hd] at q2
  | @both o i S ih =>
    obtain ⟨⟨h1, h2⟩, h3, h4⟩ := ih
    have e0 : runs false (42 :: i) = 1 + runs true i := by simp [runs]
    have e1 : runs true (42 :: i) = runs true i := by simp [runs]
    have o0 : runs false (42 :: o) = 1 + runs true o := by simp [runs]
    have o1 : runs true (42 :: o) = runs true o := by simp [runs]
    rw [e0, e1]
    rw [o1] at h2 h4 ⊢
    rw [o0]
    refine ⟨⟨by (first | lia | omega), h2⟩, fun q => h4 (by (first | lia | omega)), fun q => hold_put (h4 q)⟩

/-- the law's first part: of two rows, the one that leaves least open first -/
theorem back {f s : List Nat} (h : hold f s = true) (le : wt s < wt f ∨ (wt s = wt f ∧ runs false f ≤ runs false s)) : hold s f = true := by
  have h1 := hold_wt _ f s (Nat.le_refl _) h
  rcases le with h2 | ⟨h2, h3⟩
  · (first | lia | omega)
  · have S := same_of _ f s (Nat.le_refl _) h (by (first | lia | omega))
    have := (same_runs S).1.1
    exact (same_runs S).2.1 (by (first | lia | omega))

end Mine
end
section
namespace Mine
def consHead (c : Nat) : List (List Nat) → List (List Nat)
  | [] => [[c]]
  | s :: r => (c :: s) :: r
def segs : List (Option Nat) → List (List Nat)
  | [] => [[]]
  | none :: ps => [] :: segs ps
  | some c :: ps => consHead c (segs ps)
def grp (s : List Nat) : List Nat := [40, 63, 62, 46, 42, 63] ++ s ++ [41]
def mid : List (List Nat) → List Nat
  | [] => []
  | [s] => [46, 42] ++ s
  | s :: t :: r => grp s ++ mid (t :: r)
def body (ps : List (Option Nat)) : List Nat := match segs ps with
  | [] => []
  | [s] => s
  | s :: t :: r => s ++ mid (t :: r)
def preF (f : List Nat) : List (List Nat) → List (List Nat)
  | [] => [f]
  | s :: r => (f ++ s) :: r
theorem segs_ne (ps : List (Option Nat)) : segs ps ≠ [] := by
  cases ps with
  | nil => simp [segs]
  | cons p ps => cases p with
    | none => simp [segs]
    | some c => simp only [segs]; cases segs ps <;> simp [consHead]
theorem body_nil : body [] = [] := rfl
theorem body_some (c : Nat) (ps : List (Option Nat)) : body (some c :: ps) = c :: body ps := by
  unfold body; simp only [segs]
  have := segs_ne ps
  cases h : segs ps with
  | nil => exact absurd h this
  | cons s r => cases r <;> simp [consHead]
theorem body_none (ps : List (Option Nat)) : body (none :: ps) = mid (segs ps) := by
  unfold body; simp only [segs]
  have := segs_ne ps
  cases h : segs ps with
  | nil => exact absurd h this
  | cons s r => simp
theorem preF_nil (ps : List (Option Nat)) : preF [] (segs ps) = segs ps := by
  have := segs_ne ps
  cases h : segs ps with
  | nil => exact absurd h this
  | cons s r => simp [preF]
theorem preF_some (f : List Nat) (c : Nat) (ps : List (Option Nat)) : preF f (segs (some c :: ps)) = preF (f ++ [c]) (segs ps) := by
  simp only [segs]
  have := segs_ne ps
  cases h : segs ps with
  | nil => exact absurd h this
  | cons s r => simp [preF, consHead]
theorem mid_end (f : List Nat) : mid (preF f (segs [])) = [46, 42] ++ f := by simp [segs, preF, mid]
theorem mid_more (f : List Nat) (ps : List (Option Nat)) : mid (preF f (segs (none :: ps))) = grp f ++ mid (segs ps) := by
  simp only [segs, preF, List.append_nil]
  have := segs_ne ps
  cases h : segs ps with
  | nil => exact absurd h this
  | cons s r => rfl
def wide (X : List (List Nat)) : Nat := (X.map fun s => s.length + 7).sum
theorem mid_len : ∀ X : List (List Nat), (mid X).length ≤ wide X
  | [] => by simp [mid]
  | [s] => by simp [mid, wide]
  | s :: t :: r => by
    have := mid_len (t :: r)
    simp [mid, wide, grp] at this ⊢
    (first | lia | omega)
theorem segs_wide (ps : List (Option Nat)) : wide (segs ps) ≤ 7 * ps.length + 7 := by
  induction ps with
  | nil => simp [segs, wide]
  | cons p ps ih => cases p with
    | none => simp [segs, wide] at ih ⊢; (first | lia | omega)
    | some c =>
      simp only [segs]
      have := segs_ne ps
      cases h : segs ps with
      | nil => exact absurd h this
      | cons s r => rw [h] at ih; simp [consHead, wide] at ih ⊢; (first | lia | omega)
theorem body_len (ps : List (Option Nat)) : (body ps).length ≤ 7 * ps.length + 7 := by
  have h1 := segs_wide ps
  unfold body
  split
  · simp
  · rename_i s e; rw [e] at h1; simp [wide] at h1; (first | lia | omega)
  · rename_i s t r e; rw [e] at h1
    have := mid_len (t :: r)
    simp [wide] at h1 this ⊢; (first | lia | omega)
/-- two stars never stand side by side -/
def Sep (ps : List (Option Nat)) : Prop := ∀ i : Nat, ps[i]? = some none → ps[i + 1]? ≠ some none
theorem sep_parts (l : List Nat) : Sep (parts l) := by
  unfold parts
  have : ∀ (l : List Nat) (acc : List (Option Nat)), Sep acc → Sep (l.foldl addP acc) := by
    intro l
    induction l with
    | nil => exact fun _ h => h
    | cons c l ih =>
      intro acc h
      rw [List.foldl_cons]
      refine ih _ ?_
      have snoc : ∀ p : Option Nat, (p = none → acc.getLast? ≠ some none) → Sep (acc ++ [p]) := by
        intro p hp i h1 h2
        rcases Nat.lt_trichotomy (i + 1) acc.length with q | q | q
        · rw [List.getElem?_append_left q] at h2
          rw [List.getElem?_append_left (by (first | lia | omega))] at h1
          exact h i h1 h2
        · rw [List.getElem?_append_right (by (first | lia | omega))] at h2
          rw [List.getElem?_append_left (by (first | lia | omega))] at h1
          have e : i + 1 - acc.length = 0 := by (first | lia | omega)
          rw [e] at h2
          simp at h2
          refine hp h2 ?_
          rw [List.getLast?_eq_getElem?]
          rw [show acc.length - 1 = i by (first | lia | omega)]; exact h1
        · rw [List.getElem?_eq_none (by simp; (first | lia | omega))] at h2; cases h2
      unfold addP
      split
      · split
        · exact h
        · rename_i hq; exact snoc _ fun _ => hq
      · split
        · exact snoc _ fun e => by cases e
        · exact snoc _ fun e => by cases e
  exact this l [] (fun i h => by simp at h)
end Mine
end
section
namespace Mine
def cutS : List Nat → List (List Nat)
  | [] => [[]]
  | c :: l => if c = 42 then [] :: cutS l else consHead c (cutS l)
theorem cutS_ne (l : List Nat) : cutS l ≠ [] := by
  cases l with
  | nil => simp [cutS]
  | cons c l => simp only [cutS]; split
                · simp
                · cases cutS l <;> simp [consHead]
def joinL : List (List Nat) → List Nat
  | [] => []
  | [p] => p
  | p :: q :: r => p ++ 42 :: joinL (q :: r)
theorem cutS_free : ∀ (p l : List Nat), 42 ∉ p → cutS (p ++ l) = preF p (cutS l)
  | [], l, _ => by
    have := cutS_ne l
    cases h : cutS l with
    | nil => exact absurd h this
    | cons s r => simp [preF, h]
  | c :: p, l, hp => by
    have hc : c ≠ 42 := fun e => hp (e ▸ .head _)
    have ih := cutS_free p l (fun h => hp (.tail _ h))
    rw [List.cons_append]
    simp only [cutS, if_neg hc]
    rw [ih]
    have := cutS_ne l
    cases h : cutS l with
    | nil => exact absurd h this
    | cons s r => simp [preF, consHead]
theorem cutS_join : ∀ (ps : List (List Nat)), ps ≠ [] → (∀ p ∈ ps, 42 ∉ p) → cutS (joinL ps) = ps
  | [], h, _ => absurd rfl h
  | [p], _, hf => by
    have := cutS_free p [] (hf p (.head _))
    simp only [joinL]
    rw [List.append_nil] at this
    rw [this]; simp [cutS, preF]
  | p :: q :: r, _, hf => by
    simp only [joinL]
    rw [cutS_free p _ (hf p (.head _))]
    simp only [cutS, if_true]
    rw [cutS_join (q :: r) (by simp) (fun x hx => hf x (.tail _ hx))]
    simp [preF]
theorem cutS_wide : ∀ l : List Nat, wide (cutS l) ≤ 7 * l.length + 7
  | [] => by simp [cutS, wide]
  | c :: l => by
    have ih := cutS_wide l
    simp only [cutS]
    split
    · simp [wide] at ih ⊢; (first | lia | omega)
    · have := cutS_ne l
      cases h : cutS l with
      | nil => exact absurd h this
      | cons s r => rw [h] at ih; simp [consHead, wide] at ih ⊢; (first | lia | omega)
theorem wide_mem {L : List (List Nat)} {p : List Nat} (h : p ∈ L) : p.length + 7 ≤ wide L := by
  induction L with
  | nil => cases h
  | cons q L ih =>
    simp only [wide, List.map_cons, List.sum_cons]
    rcases List.mem_cons.mp h with rfl | h
    · (first | lia | omega)
    · have := ih h; simp only [wide] at this; (first | lia | omega)
theorem wide_count (L : List (List Nat)) : 7 * L.length ≤ wide L := by
  induction L with
  | nil => simp [wide]
  | cons q L ih => simp only [wide, List.map_cons, List.sum_cons, List.length_cons] at ih ⊢; (first | lia | omega)
theorem wide_sub {A B : List (List Nat)} (h : A.Sublist B) : wide A ≤ wide B := by
  induction h with
  | slnil => exact Nat.le_refl _
  | cons a _ ih => simp only [wide, List.map_cons, List.sum_cons] at ih ⊢; (first | lia | omega)
  | cons_cons a _ ih => simp only [wide, List.map_cons, List.sum_cons] at ih ⊢; (first | lia | omega)
theorem flat_grp (L : List (List Nat)) : (L.flatMap grp).length = wide L := by
  induction L with
  | nil => rfl
  | cons q L ih => rw [List.flatMap_cons, List.length_append, ih]; simp only [wide, List.map_cons, List.sum_cons]; simp [grp]
def preX : List Nat := [40, 63, 115, 58] ++ [61, 46, 120, 46, 113, 46]
def postX : List Nat := [46, 61, 41, 92, 90]
def midsX (rest : List (List Nat)) : List Nat := (rest.dropLast.filter (· != [])).flatMap grp
def exprT (x : List Nat) : List Nat := match cutS x with
  | [] => []
  | [p] => preX ++ p ++ postX
  | p :: q :: r => preX ++ p ++ midsX (q :: r) ++ [46, 42] ++ (q :: r).getLast (by simp) ++ postX
end Mine
end
section
namespace Mine
/-- the parts of a pattern, by one walk; the flag: a star stands ahead -/
def col : Bool → List Nat → List (Option Nat)
  | _, [] => []
  | b, c :: l => if c = 42 then (if b then col true l else none :: col true l) else some (if c = 63 then 46 else c) :: col false l
theorem fold_col : ∀ (l : List Nat) (acc : List (Option Nat)), l.foldl addP acc = acc ++ col (acc.getLast? == some none) l := by
  intro l
  induction l with
  | nil => intro acc; simp [col]
  | cons c l ih =>
    intro acc
    rw [List.foldl_cons, ih]
    unfold addP
    by_cases h : c = 42
    · subst h
      by_cases q : acc.getLast? = some none
      · simp [col, q]
      · have q' : (acc.getLast? == some none) = false := by simpa using q
        simp [col, q, q']
    · by_cases q : c = 63
      · subst q; simp [col]
      · simp [col, h, q]
theorem parts_col (l : List Nat) : parts l = col false l := by
  have := fold_col l []
  simpa [parts] using this

def f63 (c : Nat) : Nat := if c = 63 then 46 else c
theorem col_map : ∀ (l : List Nat) (b : Bool), col b l = col b (l.map f63) := by
  intro l
  induction l with
  | nil => intro b; rfl
  | cons c l ih =>
    intro b
    rw [List.map_cons]
    by_cases h : c = 42
    · subst h; simp only [col, f63, if_true, show ¬ (42 = 63) by decide, if_false]; rw [ih true]
    · by_cases q : c = 63
      · subst q; simp only [col, f63, if_true, show ¬ (63 = 42) by decide, show ¬ (46 = 42) by decide, show ¬ (46 = 63) by decide, if_false]; rw [ih false]
      · simp only [col, f63, if_neg h, if_neg q]; rw [ih false]

/-- the inner pieces without the empty ones, and the last one -/
def sq (X : List (List Nat)) : List (List Nat) := match X with
  | [] => []
  | x :: xs => (x :: xs).dropLast.filter (· != []) ++ [(x :: xs).getLast (by simp)]
theorem sq_nil_cons {X : List (List Nat)} (h : X ≠ []) : sq ([] :: X) = sq X := by
  cases X with
  | nil => exact absurd rfl h
  | cons y ys => simp [sq]
theorem sq_one (x : List Nat) : sq [x] = [x] := by simp [sq]
theorem sq_cons (x : List Nat) (y : List Nat) (ys : List (List Nat)) (h : x ≠ []) : sq (x :: y :: ys) = x :: sq (y :: ys) := by
  simp [sq, h]
theorem segs_col : ∀ (l : List Nat), (∀ c ∈ l, c ≠ 63) → (∀ p r, cutS l = p :: r → segs (col false l) = p :: sq r) ∧ segs (col true l) = sq (cutS l) := by
  intro l
  induction l with
  | nil => intro _; refine ⟨fun p r h => ?_, by simp [col, segs, cutS, sq]⟩
           simp [cutS] at h; obtain ⟨rfl, rfl⟩ := h; simp [col, segs, sq]
  | cons c l ih =>
    intro hl
    obtain ⟨i1, i2⟩ := ih fun d hd => hl d (.tail _ hd)
    by_cases h : c = 42
    · subst h
      refine ⟨fun p r e => ?_, ?_⟩
      · simp only [cutS, if_true] at e
        obtain ⟨rfl, rfl⟩ := List.cons.inj e
        simp [col, segs, i2]
      · simp only [col, cutS, if_true]
        rw [i2, sq_nil_cons (cutS_ne l)]
    · have h63 := hl c (.head _)
      obtain ⟨p, r, e⟩ : ∃ p r, cutS l = p :: r := by
        cases q : cutS l with
        | nil => exact absurd q (cutS_ne l)
        | cons p r => exact ⟨p, r, rfl⟩
      have s1 := i1 p r e
      simp only [col, cutS, if_neg h, if_neg h63, segs, e, s1, consHead]
      refine ⟨fun p' r' e' => ?_, ?_⟩
      · obtain ⟨rfl, rfl⟩ := List.cons.inj e'; rfl
      · cases r with
        | nil => simp [sq]
        | cons y ys => rw [sq_cons _ _ _ (by simp)]
theorem mid_snoc : ∀ (X : List (List Nat)) (t : List Nat), mid (X ++ [t]) = X.flatMap grp ++ ([46, 42] ++ t)
  | [], t => by simp [mid]
  | [s], t => by simp [mid]
  | s :: s' :: r, t => by
    have := mid_snoc (s' :: r) t
    rw [List.cons_append, List.cons_append, mid]
    rw [List.cons_append] at this
    rw [this]; simp
/-- cut of a text with an end that holds no star -/
theorem cutS_snoc : ∀ (l t : List Nat), 42 ∉ t → ∃ X y, cutS l = X ++ [y] ∧ cutS (l ++ t) = X ++ [y ++ t]
  | [], t, h => by
    refine ⟨[], [], by simp [cutS], ?_⟩
    have := cutS_free t [] h
    rw [List.append_nil] at this
    simp [this, cutS, preF]
  | c :: l, t, h => by
    obtain ⟨X, y, e1, e2⟩ := cutS_snoc l t h
    rw [List.cons_append]
    simp only [cutS]
    by_cases hc : c = 42
    · simp only [hc, if_true, e1, e2]; exact ⟨[] :: X, y, by simp, by simp⟩
    · simp only [hc, if_false, e1, e2]
      cases X with
      | nil => exact ⟨[], c :: y, by simp [consHead], by simp [consHead]⟩
      | cons x xs => exact ⟨(c :: x) :: xs, y, by simp [consHead], by simp [consHead]⟩
theorem sq_snoc (X : List (List Nat)) (y : List Nat) : sq (X ++ [y]) = X.filter (· != []) ++ [y] := by
  cases X with
  | nil => simp [sq]
  | cons x xs =>
    rw [List.cons_append]
    simp only [sq]
    have : (x :: (xs ++ [y])) = (x :: xs) ++ [y] := rfl
    simp only [this, List.dropLast_concat, List.getLast_concat]
theorem wr_free {r : List Nat} (hr : ∀ c ∈ r, Sz c) : ∀ c ∈ wr r, c ≠ 63 := by
  intro c hc
  obtain ⟨d, hd, h⟩ := List.mem_flatMap.mp hc
  rcases hr d hd with (rfl | rfl | rfl | rfl | rfl | rfl | rfl | rfl) | rfl <;> (simp [enc] at h; (first | lia | omega))
theorem body_snoc {ps : List (Option Nat)} {s t : List Nat} {Z : List (List Nat)} (h : segs ps = s :: (Z ++ [t])) : body ps = s ++ mid (Z ++ [t]) := by
  unfold body; rw [h]
  cases Z <;> rfl
theorem expr_snoc {x p t : List Nat} {Z : List (List Nat)} (h : cutS x = p :: (Z ++ [t])) : exprT x = preX ++ p ++ midsX (Z ++ [t]) ++ [46, 42] ++ t ++ postX := by
  unfold exprT; rw [h]
  cases Z with
  | nil => rfl
  | cons z zs =>
    show preX ++ p ++ midsX (z :: (zs ++ [t])) ++ [46, 42] ++ (z :: (zs ++ [t])).getLast (by simp) ++ postX = _
    have : (z :: (zs ++ [t])) = (z :: zs) ++ [t] := rfl
    simp only [this, List.getLast_concat]
/-- translate's text is the text told -/
theorem told_expr {r : List Nat} (hr : ∀ c ∈ r, Sz c) : [40, 63, 115, 58] ++ body (parts (word r)) ++ [41, 92, 90] = exprT (wr r) := by
  have hw := wr_free hr
  rw [parts_col, col_map]
  have e : (word r).map f63 = [61, 46, 120, 46, 113, 46] ++ (wr r ++ [46, 61]) := by
    unfold word
    rw [List.map_append, List.map_append]
    have : (wr r).map f63 = wr r := by
      conv => rhs; rw [← List.map_id (wr r)]
      exact List.map_congr_left fun c hc => by simp [f63, hw c hc]
    rw [this]; simp [hdr, f63]
  rw [e]
  have hfree : ∀ c ∈ [61, 46, 120, 46, 113, 46] ++ (wr r ++ [46, 61]), c ≠ 63 := by
    intro c hc
    simp only [List.mem_append, List.mem_cons, List.not_mem_nil, or_false] at hc
    rcases hc with hc | hc | hc
    · (first | lia | omega)
    · exact hw c hc
    · (first | lia | omega)
  have key := (segs_col _ hfree).1
  have c1 := cutS_free [61, 46, 120, 46, 113, 46] (wr r ++ [46, 61]) (by decide)
  obtain ⟨X, y, e1, e2⟩ := cutS_snoc (wr r) [46, 61] (by decide)
  rw [e2] at c1
  cases X with
  | nil =>
    have k := key _ [] (by rw [c1]; rfl)
    have e1 : cutS (wr r) = [y] := e1
    unfold exprT
    rw [e1]
    unfold body; rw [k]
    simp [sq, preX, postX]
  | cons p q =>
    have k := key ([61, 46, 120, 46, 113, 46] ++ p) (q ++ [y ++ [46, 61]]) (by rw [c1]; rfl)
    have e1 : cutS (wr r) = p :: (q ++ [y]) := e1
    rw [sq_snoc] at k
    rw [body_snoc k, expr_snoc e1, mid_snoc]
    have : midsX (q ++ [y]) = (q.filter (· != [])).flatMap grp := by unfold midsX; rw [List.dropLast_concat]
    rw [this]
    simp [preX, postX]
/-- the counts -/
def nones (ps : List (Option Nat)) : Nat := (ps.filter (· == none)).length
theorem col_somes : ∀ (l : List Nat) (b : Bool), (col b l).length = nones (col b l) + (l.filter (· != 42)).length := by
  intro l
  induction l with
  | nil => intro b; rfl
  | cons c l ih =>
    intro b
    by_cases h : c = 42
    · subst h
      have := ih true
      cases b <;> simp [col, nones] at this ⊢ <;> (first | lia | omega)
    · have := ih false
      simp [col, h, nones] at this ⊢
      (first | lia | omega)
theorem col_runs : ∀ (l : List Nat) (b : Bool), nones (col b l) = runs b l := by
  intro l
  induction l with
  | nil => intro b; rfl
  | cons c l ih =>
    intro b
    by_cases h : c = 42
    · subst h
      have := ih true
      cases b <;> simp [col, nones, runs] at this ⊢ <;> (first | lia | omega)
    · have := ih false
      simp [col, h, nones, runs] at this ⊢
      (first | lia | omega)
theorem runs_app_free : ∀ (l : List Nat), (∀ c ∈ l, c ≠ 42) → l ≠ [] → ∀ (b : Bool) (m : List Nat), runs b (l ++ m) = runs false m := by
  intro l
  induction l with
  | nil => intro _ h; exact absurd rfl h
  | cons c l ih =>
    intro hl _ b m
    rw [List.cons_append]
    simp only [runs, if_neg (hl c (.head _))]
    cases l with
    | nil => rfl
    | cons d l => exact ih (fun x hx => hl x (.tail _ hx)) (by simp) false m
theorem runs_end : ∀ (l t : List Nat), (∀ c ∈ t, c ≠ 42) → ∀ b, runs b (l ++ t) = runs b l := by
  intro l t ht
  induction l with
  | nil =>
    intro b
    rw [List.nil_append]
    cases t with
    | nil => rfl
    | cons c t =>
      have := runs_app_free (c :: t) ht (by simp) b []
      rw [List.append_nil] at this
      rw [this]; cases b <;> rfl
  | cons c l ih => intro b; rw [List.cons_append]; simp only [runs, ih]
theorem runs_wr : ∀ (r : List Nat), (∀ c ∈ r, Sz c) → ∀ b, runs b (wr r) = runs b r := by
  intro r
  induction r with
  | nil => intro _ b; rfl
  | cons c r ih =>
    intro hr b
    have ih := ih fun d hd => hr d (.tail _ hd)
    rw [wr_cons]
    by_cases h : c = 42
    · subst h
      show runs b (42 :: wr r) = _
      simp only [runs, if_true, ih]
    · have h1 : ∀ x ∈ enc c, x ≠ 42 := by
        rcases hr c (.head _) with (rfl | rfl | rfl | rfl | rfl | rfl | rfl | rfl) | rfl <;> simp [enc] at h ⊢
      rw [runs_app_free _ h1 (enc_ne c), ih]
      simp only [runs, if_neg h]
def starsN (row : List Nat) : Nat := (row.filter (· == 42)).length
theorem wr_stars : ∀ (r : List Nat), (∀ c ∈ r, Sz c) → ((wr r).filter (· != 42)).length = wt r ∧ (wr r).length = starsN r + wt r := by
  intro r
  induction r with
  | nil => intro _; exact ⟨rfl, rfl⟩
  | cons c r ih =>
    intro hr
    obtain ⟨i1, i2⟩ := ih fun d hd => hr d (.tail _ hd)
    have hs : starsN (c :: r) = (if c = 42 then 1 else 0) + starsN r := by
      unfold starsN; by_cases h : c = 42 <;> simp [h]; (first | lia | omega)
    rw [wr_cons, wt_cons, List.filter_append, List.length_append, List.length_append, i1, i2, hs]
    rcases hr c (.head _) with (rfl | rfl | rfl | rfl | rfl | rfl | rfl | rfl) | rfl <;> (simp [enc]; try (first | lia | omega))
theorem runsN_go : ∀ (r : List Nat) (b : Bool) (pre : List Nat), (pre.getLast? == some 42) = b →
    ((List.range' pre.length r.length).filter fun n => (pre ++ r)[n]? == some 42 && !(((pre ++ r).take n).getLast? == some 42)).length = runs b r := by
  intro r
  induction r with
  | nil => intro b pre _; rfl
  | cons c r ih =>
    intro b pre hb
    have := ih (c == 42) (pre ++ [c]) (by simp)
    rw [List.length_append, List.length_singleton, List.append_assoc, List.singleton_append] at this
    rw [List.length_cons, List.range'_succ, List.filter_cons]
    have e1 : (pre ++ c :: r)[pre.length]? = some c := by simp
    have e2 : (pre ++ c :: r).take pre.length = pre := by simp
    rw [e1, e2, hb]
    by_cases h : c = 42
    · subst h
      cases b <;> simp [runs] at this ⊢ <;> (first | lia | omega)
    · have h' : (c == 42) = false := by simpa using h
      rw [h'] at this
      simp [runs, h] at this ⊢; (first | lia | omega)
theorem runsN_runs (r : List Nat) : ((List.range r.length).filter fun n => r[n]? == some 42 && !((r.take n).getLast? == some 42)).length = runs false r := by
  have := runsN_go r false [] rfl
  rw [List.range_eq_range']
  simpa using this
/-- what parts(word r) counts -/
theorem count_word {r : List Nat} (hr : ∀ c ∈ r, Sz c) : nones (parts (word r)) = runs false r ∧ ((nones (parts (word r)) : Nat) : Int) - ((parts (word r)).length : Nat) = (starsN r : Int) - (wr r).length - 8 := by
  obtain ⟨w1, w2⟩ := wr_stars r hr
  have hn : nones (parts (word r)) = runs false r := by
    rw [parts_col, col_runs]
    show runs false (hdr ++ wr r ++ [63, 61]) = _
    rw [runs_end _ _ (by decide), runs_app_free _ (by decide) (by decide), runs_wr r hr]
  refine ⟨hn, ?_⟩
  have h2 := col_somes (word r) false
  rw [← parts_col] at h2
  have h3 : ((word r).filter (· != 42)).length = wt r + 8 := by
    show ((hdr ++ wr r ++ [63, 61]).filter (· != 42)).length = _
    rw [List.filter_append, List.filter_append, List.length_append, List.length_append, w1]
    simp [hdr]; (first | lia | omega)
  (first | lia | omega)
end Mine
end
section
open PySem PySem.W PySem.Calls PyProof.Rows
namespace Mine


abbrev No : Value → Shared → Prop := fun _ _ => False
def Ext (h h' : Heap) : Prop := ∀ b o, h.get? b = some o → h'.get? b = some o
theorem Ext.refl (h : Heap) : Ext h h := fun _ _ e => e
theorem Ext.trans {a b c : Heap} (x : Ext a b) (y : Ext b c) : Ext a c := fun _ _ e => y _ _ (x _ _ e)

structure Gd (w : World) (mg mb : Str → Option Value) (h : Heap) : Prop where
  k : (hdK w.params).In h
  g : h.Ns mainGlobals mg
  b : h.Ns builtinsNs mb
  lim : h.NoLimit
  dig : ∃ mc, h.Ns cStatics mc ∧ mc "sys.int_max_str_digits" = none
  bi : ∀ x : Str, x ≠ "__name__" → mb x = bootBuiltins x

theorem Gd.ext {w : World} {mg mb : Str → Option Value} {h h' : Heap} (G : Gd w mg mb h) (x : Ext h h') : Gd w mg mb h' where
  k := G.k.keeps x
  g := G.g.keeps x
  b := G.b.keeps x
  lim := G.lim.keeps x
  dig := let ⟨mc, h1, h2⟩ := G.dig; ⟨mc, h1.keeps x, h2⟩
  bi := G.bi

/-- what the call has made stands, and is new -/
def Made (h h' : Heap) (os : List (Addr × Obj)) : Prop := ∀ p ∈ os, h.get? p.1 = none ∧ h'.get? p.1 = some p.2
/-- the call ended so: nothing that stood is changed, what it made is told -/
inductive After (s : Shared) (P : Value → List (Addr × Obj) → Prop) (v : Value) (s' : Shared) : Prop
  | mk (h' : Heap) (tk : Nat) (os : List (Addr × Obj)) (e : s' = { s with heap := h', toks := tk }) (x : Ext s.heap h') (n : Made s.heap h' os) (p : P v os)

theorem allC {α : Type} {P : α → Prop} {a : α} {l : List α} (h : P a) (t : ∀ p ∈ l, P p) : ∀ p ∈ a :: l, P p := fun p hp => by
  rcases List.mem_cons.mp hp with rfl | hp
  · exact h
  · exact t p hp
theorem allN {α : Type} {P : α → Prop} : ∀ p ∈ ([] : List α), P p := fun _ h => nomatch h
theorem ninC {α : Type} {q a : α} {l : List α} (h : q ≠ a) (t : q ∉ l) : q ∉ a :: l := fun hp => by
  rcases List.mem_cons.mp hp with rfl | hp
  · exact h rfl
  · exact t hp
theorem ninN {α : Type} {q : α} : q ∉ ([] : List α) := fun h => nomatch h
theorem newsC {h₀ h : Heap} {L a : Addr} {o : Obj} {l : List (Addr × Obj)} (x : h.get? a = some o ∧ a ≠ L ∧ h₀.get? a = none) (t : News h₀ L h l) : News h₀ L h ((a, o) :: l) := allC x t
theorem len2 {α : Type} : ∀ {l : List α}, l.length = 2 → ∃ a b, l = [a, b]
  | [a, b], _ => ⟨a, b, rfl⟩
theorem len3 {α : Type} : ∀ {l : List α}, l.length = 3 → ∃ a b c, l = [a, b, c]
  | [a, b, c], _ => ⟨a, b, c, rfl⟩
theorem at3 {α : Type} {P : Nat → α → Prop} {a b c v : α} {i : Nat} (h : (#[a, b, c] : Array α)[i]? = some v) (pa : P 0 a) (pb : P 1 b) (pc : P 2 c) : P i v := by
  match i, h with
  | 0, h => exact Option.some.inj h ▸ pa
  | 1, h => exact Option.some.inj h ▸ pb
  | 2, h => exact Option.some.inj h ▸ pc
  | i + 3, h => exact nomatch h
theorem all3 {P : Nat → Prop} (h0 : P 0) (h1 : P 1) (h2 : P 2) : ∀ i, i < 3 → P i
  | 0, _ => h0
  | 1, _ => h1
  | 2, _ => h2
theorem lt3 {P : Nat → Prop} {i : Nat} (hi : i < 3) (h0 : P 0) (h1 : P 1) (h2 : P 2) : P i := all3 h0 h1 h2 i hi
/-- what is wanted, variables -/
theorem absQE {α : Type} {M : Model} {A : Around} {t : Sem α} {s : Shared} {Q : α → Shared → Prop} {E : Value → Shared → Prop} (h : ∀ (Q₁ : α → Shared → Prop) (E₁ : Value → Shared → Prop), (∀ v s', Q v s' → Q₁ v s') → wpAny M A t Q₁ E₁ s) : wpAny M A t Q E s := h Q E fun _ _ x => x
/-- the goal a variable for a while -/
theorem hideG {G : Prop} (k : ∀ H : Prop, (G → H) → H) : G := k G id
theorem use {M : Model} {A : Around} {t : Sem Value} {s : Shared} {P : Value → List (Addr × Obj) → Prop} {Q E : Value → Shared → Prop} (h : wpAny M A t (After s P) No s)
    (k : ∀ v os h' tk, Ext s.heap h' → Made s.heap h' os → P v os → Q v { s with heap := h', toks := tk }) : wpAny M A t Q E s :=
  wpAny_mono h (fun v _ ⟨h', tk, os, e, x, n, p⟩ => e ▸ k v os h' tk x n p) fun _ _ f => f.elim

theorem useN {M : Model} {A : Around} {t : Sem Value} {s : Shared} {P : Value → List (Addr × Obj) → Prop} {Q E : Value → Shared → Prop} {h₀ : Heap} {L : Addr} {m : Str → Option Value} {news : List (Addr × Obj)}
    (F : Fr h₀ L s.heap m) (N : News h₀ L s.heap news) (h : wpAny M A t (After s P) No s)
    (k : ∀ v os h' tk, Ext s.heap h' → Fr h₀ L h' m → News h₀ L h' (os ++ news) → P v os → Q v { s with heap := h', toks := tk }) : wpAny M A t Q E s :=
  use h fun v os h' tk x n p => k v os h' tk x (F.keeps x) (fun q hq => by
    rcases List.mem_append.mp hq with hq | hq
    · refine ⟨(n q hq).2, fun e => ?_, ?_⟩
      · obtain ⟨o, _, _, ho, _⟩ := F.ns
        have := (n q hq).1
        rw [e, ho] at this; cases this
      · cases e : h₀.get? q.1 with
        | none => rfl
        | some o => have := (n q hq).1; rw [F.keep _ _ e] at this; cases this
    · exact N.grown x q hq) p

theorem afterI {s : Shared} {P : Value → List (Addr × Obj) → Prop} {v : Value} {h' : Heap} {tk : Nat} (os : List (Addr × Obj)) (x : Ext s.heap h') (n : Made s.heap h' os) (p : P v os) : After s P v { s with heap := h', toks := tk } := ⟨h', tk, os, rfl, x, n, p⟩
/-- the end of a body: the ledger tells what was made -/
theorem afterF {s : Shared} {P : Value → List (Addr × Obj) → Prop} {v : Value} {h' : Heap} {tk : Nat} {L : Addr} {m : Str → Option Value} {news : List (Addr × Obj)} (F : Fr s.heap L h' m) (N : News s.heap L h' news) (os : List (Addr × Obj)) (sub : ∀ p ∈ os, p ∈ news) (p : P v os) :
    After s P v { s with heap := h', toks := tk } := ⟨h', tk, os, rfl, F.keep, fun q hq => ⟨(N q (sub q hq)).2.2, (N q (sub q hq)).1⟩, p⟩

section
variable {prog : Program} {w : World} {mg mb : Str → Option Value} {A : Around} {s : Shared}

theorem enter {R : Value → List (Addr × Obj) → Prop} {name qual : Str} {params : Arguments} {body : List Stmt} {scope : Scope} {dV kV doc pm cdv ct oc : Value} {an od : Option Addr} {osl : Array (Option Value)} {f : Addr}
    {vs : List Value} {kw : List (Str × Value)} {binds : List (Str × Value)}
    (G : Gd w mg mb s.heap) (ho : (hdK w.params).lookup f = some ⟨oc, od, .func (fnOf name qual params body scope dV kV doc pm an cdv ct), osl⟩) (hcd : codeIn (hdK w.params) cdv qual = true) (hd : A.depth < recursionLimit)
    (hbind : BindsTo s (fnOf name qual params body scope dV kV doc pm an cdv ct) ⟨vs, kw⟩ binds) (hloc : ∀ y ∈ binds, scope.names.lookup y.1 = some .local)
    (h : ∀ L h₁, Fr s.heap L h₁ (fun y => binds.reverse.lookup y) → wpAny (model prog w) (A.deeper (envOf qual scope L f cdv)) (execs body (envOf qual scope L f cdv))
      (fun fl s' => After s R (match fl with | .ret v => v | _ => .none) s') No { s with heap := h₁, toks := s.toks + binds.length })
    (hcell : ∀ x ∈ scope.names, x.2 ≠ .cell) (hco : scope.isCoroutine = false) (hgen : scope.isGenerator = false) (hk : scope.kind = .function) :
    wpAny (model prog w) A (call (.ref f) vs kw) (After s R) No s := by
  refine wpAny_call (codeAny_call_def (fd := fnOf name qual params body scope dV kV doc pm an cdv ct) (body := body) (binds := binds) hd (G.k _ _ ho) rfl G.lim (codeRec_of G.k hcd) rfl hbind hcell hloc (fun h₁ hns hk₁ => ?_) hco hgen hk)
  exact wpAny_mono (h s.heap.objs.size h₁ ⟨hns, hk₁, Nat.le_refl _⟩) (fun _ _ q => q) fun _ _ q => q.elim

/-- the same, the end wanted a variable -/
theorem enterK {R : Value → List (Addr × Obj) → Prop} {name qual : Str} {params : Arguments} {body : List Stmt} {scope : Scope} {dV kV doc pm cdv ct oc : Value} {an od : Option Addr} {osl : Array (Option Value)} {f : Addr}
    {vs : List Value} {kw : List (Str × Value)} {binds : List (Str × Value)}
    (G : Gd w mg mb s.heap) (ho : (hdK w.params).lookup f = some ⟨oc, od, .func (fnOf name qual params body scope dV kV doc pm an cdv ct), osl⟩) (hcd : codeIn (hdK w.params) cdv qual = true) (hd : A.depth < recursionLimit)
    (hbind : BindsTo s (fnOf name qual params body scope dV kV doc pm an cdv ct) ⟨vs, kw⟩ binds) (hloc : ∀ y ∈ binds, scope.names.lookup y.1 = some .local)
    (h : ∀ (K : Flow → Shared → Prop), (∀ v s', After s R v s' → K (.ret v) s') → ∀ L h₁, Fr s.heap L h₁ (fun y => binds.reverse.lookup y) → wpAny (model prog w) (A.deeper (envOf qual scope L f cdv)) (execs body (envOf qual scope L f cdv))
      K No { s with heap := h₁, toks := s.toks + binds.length })
    (hcell : ∀ x ∈ scope.names, x.2 ≠ .cell) (hco : scope.isCoroutine = false) (hgen : scope.isGenerator = false) (hk : scope.kind = .function) :
    wpAny (model prog w) A (call (.ref f) vs kw) (After s R) No s :=
  enter G ho hcd hd hbind hloc (fun L h₁ F => h _ (fun _ _ x => x) L h₁ F) hcell hco hgen hk
/-- the same, nothing is returned -/
theorem enterN {R : Value → List (Addr × Obj) → Prop} {name qual : Str} {params : Arguments} {body : List Stmt} {scope : Scope} {dV kV doc pm cdv ct oc : Value} {an od : Option Addr} {osl : Array (Option Value)} {f : Addr}
    {vs : List Value} {kw : List (Str × Value)} {binds : List (Str × Value)}
    (G : Gd w mg mb s.heap) (ho : (hdK w.params).lookup f = some ⟨oc, od, .func (fnOf name qual params body scope dV kV doc pm an cdv ct), osl⟩) (hcd : codeIn (hdK w.params) cdv qual = true) (hd : A.depth < recursionLimit)
    (hbind : BindsTo s (fnOf name qual params body scope dV kV doc pm an cdv ct) ⟨vs, kw⟩ binds) (hloc : ∀ y ∈ binds, scope.names.lookup y.1 = some .local)
    (h : ∀ (K : Flow → Shared → Prop), (∀ s', After s R .none s' → K .next s') → ∀ L h₁, Fr s.heap L h₁ (fun y => binds.reverse.lookup y) → wpAny (model prog w) (A.deeper (envOf qual scope L f cdv)) (execs body (envOf qual scope L f cdv))
      K No { s with heap := h₁, toks := s.toks + binds.length })
    (hcell : ∀ x ∈ scope.names, x.2 ≠ .cell) (hco : scope.isCoroutine = false) (hgen : scope.isGenerator = false) (hk : scope.kind = .function) :
    wpAny (model prog w) A (call (.ref f) vs kw) (After s R) No s :=
  enter G ho hcd hd hbind hloc (fun L h₁ F => h _ (fun _ x => x) L h₁ F) hcell hco hgen hk

variable {h₀ : Heap} {L a : Addr} {m : Str → Option Value} {cn : Str} {cs : Scope} {ccd : Value} {M : Model} {E : Value → Shared → Prop} {Q : Value → Shared → Prop} {x : Str} {pos : Pos} {v : Value}

theorem gname (F : Fr h₀ L s.heap m) (G : Gd w mg mb h₀) (e : nsIn (hdK w.params) mainGlobals x = some (some v)) (h : Q v s)
    (hk : cs.kind = .function := by rfl) (hx : (envOf cn cs L a ccd).kindOf x = some .globalImplicit := by rfl) (hd : (x == ("__debug__" : Str)) = false := by decide) :
    wpAny M A (eval (.Name x pos) (envOf cn cs L a ccd)) Q E s := ld_global_at F G.g (mg_of G.k G.g e) h hk hx hd
theorem bname (F : Fr h₀ L s.heap m) (G : Gd w mg mb h₀) (e : nsIn (hdK w.params) mainGlobals x = some none) (hv : bootBuiltins x = some v) (hn : x ≠ "__name__") (h : Q v s)
    (hk : cs.kind = .function := by rfl) (hx : (envOf cn cs L a ccd).kindOf x = some .globalImplicit := by rfl) (hd : (x == ("__debug__" : Str)) = false := by decide) :
    wpAny M A (eval (.Name x pos) (envOf cn cs L a ccd)) Q E s := ld_builtin_at F G.g (mg_none_of G.k G.g e) G.b ((G.bi x hn).trans hv) h hk hx hd
end

theorem at_len (w : World) : nsIn (hdK w.params) mainGlobals "len" = some none := by k_is
theorem at_translate (w : World) : nsIn (hdK w.params) mainGlobals "_translate" = some (some (.ref 117)) := by k_is

section
variable {prog : Program} {w : World} {mg mb : Str → Option Value} {A : Around} {s : Shared}


abbrev listO (xs : List Value) (n : Nat) : Obj := { cls := .type "list", data := .seq xs.toArray n }
abbrev tupO (xs : List Value) : Obj := { cls := .type "tuple", data := .seq xs.toArray }

section
variable {prog : Program} {w : World} {A : Around} {s : Shared}

/-- an iterator stands at its start -/
def It (prog : Program) (w : World) (A : Around) (I : Addr) (n : Nat) (P : Nat → Value → Prop) (h : Heap) : Prop :=
  ∃ fp St, Walks prog w A I fp [I] n P St ∧ St 0 h ∧ (∀ b ∈ fp, ∃ o, h.get? b = some o) ∧ (∀ i h', St i h' → ∃ o, h'.get? I = some o)

/-- what iter() of it gives -/
def Iters (prog : Program) (w : World) (A : Around) (xv : Value) (s₁ : Shared) (n : Nat) (P : Nat → Value → Prop) : Prop :=
  ∀ (Q : Value → Shared → Prop) (E : Value → Shared → Prop), (∀ h₂ tk I, Ext s₁.heap h₂ → s₁.heap.get? I = none → It prog w A I n P h₂ → Q (.ref I) { s₁ with heap := h₂, toks := tk }) → wpAny (model prog w) A (pyIter xv) Q E s₁

theorem new_none (h : Heap) : h.get? h.objs.size = none := by
  cases e : h.get? h.objs.size with
  | none => rfl
  | some o => exact absurd (Heap.lt_size e) (Nat.lt_irrefl _)

theorem iters_list {l : Addr} {items : Array Value} (hh : A.handled = none) (hl : s.heap.IsList l items) : Iters prog w A (.ref l) s items.size (fun i v => items[i]? = some v) := by
  intro Q E h
  obtain ⟨ol, hol, _⟩ := id hl
  have hlt := Heap.lt_size hol
  refine wpAny_pyIter_list hl (h _ s.toks _ (fun b o e => Heap.get?_push_of_some _ e) (new_none _) ?_)
  refine ⟨_, _, Walks.list hh _ l (Nat.ne_of_lt hlt) items, ⟨⟨_, Heap.get?_push_size _ rfl, rfl, rfl⟩, hl.at fun o e => Heap.get?_push_of_some _ e⟩, ?_, fun i h' st => ?_⟩
  · intro b hb
    rcases List.mem_cons.mp hb with rfl | hb
    · exact ⟨_, Heap.get?_push_size _ rfl⟩
    · rw [List.mem_singleton.mp hb]; exact ⟨_, Heap.get?_push_of_some _ hol⟩
  · obtain ⟨⟨o, ho, _⟩, _⟩ := st
    exact ⟨o, ho⟩
theorem iters_range {r : Addr} {a b c : Int} {t u v : Tok} {n : Nat} (hh : A.handled = none) (hr : IsRange s.heap r a b c t u v) (hsmall : Builtin.Range.small a b c = true) (hn : Builtin.Range.rangeSize a b c = (n : Int)) :
    Iters prog w A (.ref r) s n (fun i v => ∃ t, v = .int (a + i * c) t) := by
  intro Q E h
  refine wpAny_pyIter_range hr hsmall (h _ s.toks _ (fun b o e => Heap.get?_push_of_some _ e) (new_none _) ?_)
  refine ⟨_, _, Walks.range hh _ a c n, (by show IsRangeIter _ _ _ _ _; rw [hn]; simpa using Heap.get?_push_size _ rfl), ?_, fun i h' st => ⟨_, st⟩⟩
  intro b hb
  rw [List.mem_singleton.mp hb]; exact ⟨_, Heap.get?_push_size _ rfl⟩
theorem iters_str {x : Str} {t : Tok} (hh : A.handled = none) : Iters prog w A (.str x t) s x.cps.size (SignAt x) := by
  intro Q E h
  have one : ∀ b ∈ [s.heap.objs.size], ∀ o : Obj, o.isFreed = false → ∃ o', (s.heap.push o).get? b = some o' := fun b hb o ho => by
    rw [List.mem_singleton.mp hb]; exact ⟨_, Heap.get?_push_size _ ho⟩
  cases ha : x.cps.all (· < 128)
  · refine wpAny_pyIter_wide ha (h _ s.toks _ (fun b o e => Heap.get?_push_of_some _ e) (new_none _) ?_)
    exact ⟨_, _, Walks.strWide hh _ x t, ⟨_, Heap.get?_push_size _ rfl, rfl, rfl⟩, fun b hb => one b hb _ rfl, fun i h' ⟨o, ho, _⟩ => ⟨o, ho⟩⟩
  · refine wpAny_pyIter_ascii ha (h _ s.toks _ (fun b o e => Heap.get?_push_of_some _ e) (new_none _) ?_)
    exact ⟨_, _, Walks.strAscii hh _ x t, ⟨_, Heap.get?_push_size _ rfl, rfl, rfl⟩, fun b hb => one b hb _ rfl, fun i h' ⟨o, ho, _⟩ => ⟨o, ho⟩⟩

theorem paired_imp {α β : Type} {F G : α → β → Prop} {a : List α} {b : List β} (h : Paired F a b) (i : ∀ x y, F x y → G x y) : Paired G a b := by
  induction h with
  | nil => exact .nil
  | cons e _ ih => exact .cons (i _ _ e) ih

abbrev Tests (prog : Program) (w : World) (A : Around) (cenv : Env) (ifs : List Expr) (b : Bool) (s : Shared) : Prop :=
  wpAny (model prog w) A (forIn ifs true fun c r => if r = true then do let ok ← isTrue c cenv (eval c cenv); pure (ForInStep.yield ok) else pure (ForInStep.yield r)) (fun ok s' => ok = b ∧ Keeps s s') No s

/-- where the loop of a comprehension stands -/
inductive CTI (s : Shared) (g : Heap) (D I C : Addr) (n : Nat) (P : Nat → Value → Prop) (St : Nat → Heap → Prop) (p : Value → Bool) (F : Value → Value → List (Addr × Obj) → Prop) (k : Nat) (s' : Shared) : Prop
  | mk (h' : Heap) (tk : Nat) (m' : Str → Option Value) (vs : List Value) (zs : List (Value × List (Addr × Obj))) (e : s' = { s with heap := h', toks := tk }) (hst : St vs.length h') (hacc : h'.PlainList D (zs.map (·.1)).toArray) (hn : h'.Ns C m')
    (hP : ∀ j v, vs[j]? = some v → P j v) (hF : Paired (fun v z => F v z.1 z.2) (vs.filter p) zs) (hi : vs.length ≤ n) (hk : k = n + 1 - vs.length)
    (ho : ∀ z ∈ zs, ∀ q ∈ z.2, q.1 ≠ C ∧ q.1 ≠ D ∧ q.1 ≠ I ∧ g.get? q.1 = none ∧ h'.get? q.1 = some q.2) (hg : Ext g h')
/-- the turns of a comprehension -/
theorem compTurns {R : Result → Shared → Prop} {elt iter : Expr} {x : Str} {px : Pos} {ifs : List Expr} {scope : Scope} {pos : Pos} {I D : Addr} {fp : List Addr} {n : Nat} {P : Nat → Value → Prop} {St : Nat → Heap → Prop} {cenv : Env} {m : Str → Option Value} {g : Heap}
    (W : Walks prog w A I fp [I] n P St) (p : Value → Bool) (F : Value → Value → List (Addr × Obj) → Prop)
    (hx : cenv.kindOf x = some .local) (hp : (cenv.scope.kind == .class || (cenv.scope.kind == .module && cenv.locals != cenv.globals)) = false)
    (hDC : D ≠ cenv.locals) (hDf : D ∉ fp) (hCf : cenv.locals ∉ fp) (hob : ∀ i h, St i h → ∃ o, h.get? I = some o)
    (hst : St 0 s.heap) (hacc : s.heap.PlainList D #[]) (hn : s.heap.Ns cenv.locals m)
    (gs : Ext g s.heap) (gC : g.get? cenv.locals = none) (gD : g.get? D = none) (gI : g.get? I = none)
    (htests : ∀ i v s₂ m₂, P i v → s₂.heap.Ns cenv.locals m₂ → m₂ x = some v → Ext g s₂.heap → Tests prog w A cenv ifs (p v) s₂)
    (helt : ∀ i v s₂ m₂, P i v → p v = true → s₂.heap.Ns cenv.locals m₂ → m₂ x = some v → Ext g s₂.heap → wpAny (model prog w) A (eval elt cenv) (After s₂ (F v)) No s₂)
    (hR : ∀ h' tk m' (vs : List Value) (zs : List (Value × List (Addr × Obj))), h'.Ns cenv.locals m' → h'.PlainList D (zs.map (·.1)).toArray → vs.length = n → (∀ j v, vs[j]? = some v → P j v) → Paired (fun v z => F v z.1 z.2) (vs.filter p) zs →
      (∀ z ∈ zs, ∀ q ∈ z.2, q.1 ≠ cenv.locals ∧ q.1 ≠ D ∧ q.1 ≠ I ∧ g.get? q.1 = none ∧ h'.get? q.1 = some q.2) → Ext g h' → R (.ok .next) { s with heap := h', toks := tk })
    (hsz : n ≤ sizeLine) :
    codeAny (model prog w) A (.compLoop (.ListComp elt [⟨.Name x px, iter, ifs, 0⟩] scope pos) 0 (.ref I) (.ref D) cenv) R s := by
  have ne (b : Addr) {o : Obj} {c : Addr} (e : g.get? b = some o) (c0 : g.get? c = none) : b ≠ c := fun q => by rw [q, c0] at e; cases e
  have hIf : I ∈ fp := W.sub _ (.head _)
  have hCI : cenv.locals ≠ I := fun e => hCf (e ▸ hIf)
  have hDI : D ≠ I := fun e => hDf (e ▸ hIf)
  refine codeAny_compLoop_tests
    (CTI s g D I cenv.locals n P St p F) ?_ (n + 1)
    ⟨s.heap, s.toks, m, [], [], rfl, hst, hacc, hn, by simp, by simpa using Paired.nil, Nat.zero_le _, rfl, (fun _ h => nomatch h), gs⟩
  rintro k s' ⟨H, tk, m', vs, zs, rfl, hst', hacc', hn', hP, hF, hi, rfl, ho, hgH⟩
  by_cases hlt : vs.length < n
  · refine W.item vs.length _ _ _ hlt hst' fun v h₁ tk₁ hPv hst₁ hk₁ => ?_
    have hk₁' : ∀ b o, b ≠ I → H.get? b = some o → h₁.get? b = some o := fun b o hb e => hk₁ b o (by simpa using hb) e
    refine wpAny_assign_Name (wpAny_storeName_local hx (hn'.at' fun o e => hk₁' _ o hCI e) (fun h₂ hn₂ hs₂ => ?_) hp)
    have up₂ : ∀ b o, b ≠ cenv.locals → b ≠ I → H.get? b = some o → h₂.get? b = some o := fun b o hbC hbI e => hs₂.extBut b o hbC (hk₁' b o hbI e)
    have hst₂ : St (vs.length + 1) h₂ := W.frame _ _ _ hst₁ fun b hb o e => hs₂.extBut b o (fun h => hCf (h ▸ hb)) e
    have hg₂ : Ext g h₂ := fun b o e => up₂ b o (ne b e gC) (ne b e gI) (hgH b o e)
    refine wpAny_mono (htests vs.length v _ _ hPv hn₂ (by simp) hg₂) (fun ok s₃ h₃ => ?_) fun _ _ e => e.elim
    obtain ⟨rfl, h₃, tk₃, rfl, hk₃⟩ := h₃
    have hst₃ : St (vs.length + 1) h₃ := W.frame _ _ _ hst₂ fun b _ o e => hk₃ b o e
    have hacc₃ : h₃.PlainList D (zs.map (·.1)).toArray := hacc'.at fun o e => hk₃ _ o (up₂ D o hDC hDI e)
    have hn₃ := hn₂.keeps hk₃
    have hg₃ : Ext g h₃ := fun b o e => hk₃ b o (hg₂ b o e)
    have ho₃ : ∀ z ∈ zs, ∀ q ∈ z.2, q.1 ≠ cenv.locals ∧ q.1 ≠ D ∧ q.1 ≠ I ∧ g.get? q.1 = none ∧ h₃.get? q.1 = some q.2 := fun z hz q hq =>
      let ⟨a, b, c, d, e⟩ := ho z hz q hq; ⟨a, b, c, d, hk₃ _ _ (up₂ _ _ a c e)⟩
    have hP' : ∀ j u, (vs ++ [v])[j]? = some u → P j u := fun j u hj => by
      rcases Nat.lt_trichotomy j vs.length with h | h | h
      · exact hP j u (by rwa [List.getElem?_append_left h] at hj)
      · subst h; simp at hj; subst hj; exact hPv
      · have hnone : (vs ++ [v])[j]? = none := List.getElem?_eq_none (by rw [List.length_append, List.length_singleton]; (first | lia | omega))
        rw [hnone] at hj; cases hj
    cases hpv : p v with
    | false =>
      simp only [Bool.false_eq_true, if_false]
      refine ⟨n + 1 - (vs.length + 1), by (first | lia | omega), h₃, tk₃, _, vs ++ [v], zs, rfl, by simpa using hst₃, hacc₃, hn₃, hP', ?_, (by rw [List.length_append, List.length_singleton]; exact hlt), (by rw [List.length_append, List.length_singleton]), ho₃, hg₃⟩
      rw [List.filter_append]; simpa [hpv] using hF
    | true =>
      simp only [if_true]
      refine use (helt vs.length v _ _ hPv hpv hn₃ (by simp) hg₃) fun y os h₄ tk₄ hk₄ made hFy => ?_
      have hzs : zs.length ≤ sizeLine := by
        have e1 := hF.length
        have e2 : (vs.filter p).length ≤ vs.length := List.length_filter_le _ _
        (first | lia | omega)
      refine wpAny_list_append_plain (hsz := by simpa using hzs) (hacc₃.at fun o e => hk₄ _ o e) fun h₅ hl₅ hs₅ => ?_
      refine ⟨n + 1 - (vs.length + 1), by (first | lia | omega), h₅, tk₄, _, vs ++ [v], zs ++ [(y, os)], rfl, ?_, by simpa using hl₅, (hn₃.keeps hk₄).sameBut hs₅ (Ne.symm hDC), hP', ?_, (by rw [List.length_append, List.length_singleton]; exact hlt), (by rw [List.length_append, List.length_singleton]), ?_,
        fun b o e => hs₅.extBut b o (ne b e gD) (hk₄ b o (hg₃ b o e))⟩
      · have := W.frame _ _ h₅ hst₃ fun b hb o e => hs₅.extBut b o (fun h => hDf (h ▸ hb)) (hk₄ b o e)
        simpa using this
      · rw [List.filter_append]; simpa [hpv] using Paired.snoc hF hFy
      · intro z hz q hq
        rcases List.mem_append.mp hz with hz | hz
        · obtain ⟨a, b, c, d, e⟩ := ho₃ z hz q hq
          exact ⟨a, b, c, d, hs₅.extBut _ _ b (hk₄ _ _ e)⟩
        · rw [List.mem_singleton.mp hz] at hq
          obtain ⟨n1, n2⟩ := made q hq
          have nn {c : Addr} {o : Obj} (e : h₃.get? c = some o) : q.1 ≠ c := fun x => by rw [x] at n1; exact absurd (n1.symm.trans e) (by simp)
          obtain ⟨oC, _, _, hoC, _⟩ := hn₃
          obtain ⟨kD, hoD⟩ := hacc₃
          obtain ⟨oI, hoI⟩ := hob _ _ hst₃
          refine ⟨nn hoC, nn hoD, nn hoI, ?_, hs₅.extBut _ _ (nn hoD) n2⟩
          cases e : g.get? q.1 with
          | none => rfl
          | some o => exact absurd rfl (nn (hg₃ _ _ e))
  · have hin : vs.length = n := by (first | lia | omega)
    refine W.done _ _ _ (hin ▸ hst') fun h₁ tk₁ hk₁ => ?_
    have hk₁' : ∀ b o, b ≠ I → H.get? b = some o → h₁.get? b = some o := fun b o hb e => hk₁ b o (by simpa using hb) e
    exact hR h₁ tk₁ m' vs zs (hn'.at' fun o e => hk₁' _ o hCI e) (hacc'.at fun o e => hk₁' _ o hDI e) hin hP hF (fun z hz q hq => let ⟨a, b, c, d, e⟩ := ho z hz q hq; ⟨a, b, c, d, hk₁' _ _ c e⟩) fun b o e => hk₁' b o (ne b e gI) (hgH b o e)

/-- what a comprehension's source, tests and element must show -/
inductive CompOk (prog : Program) (w : World) (A : Around) (env : Env) (scope : Scope) (cl : List (Str × Addr)) (x : Str) (ifs : List Expr) (elt : Expr) (K : Addr → Heap → Nat → Prop) (xv : Value) (s₁ : Shared) : Prop
  | mk (n : Nat) (P : Nat → Value → Prop) (p : Value → Bool) (F : Value → Value → List (Addr × Obj) → Prop) (src : Iters prog w A xv s₁ n P) (hsz : n ≤ sizeLine)
    (tests : ∀ C i v s₂ m₂, P i v → s₂.heap.Ns C m₂ → m₂ x = some v → Ext s₁.heap s₂.heap → s₁.heap.get? C = none → Tests prog w A (compEnvC scope cl C env) ifs (p v) s₂)
    (el : ∀ C i v s₂ m₂, P i v → p v = true → s₂.heap.Ns C m₂ → m₂ x = some v → Ext s₁.heap s₂.heap → s₁.heap.get? C = none → wpAny (model prog w) A (eval elt (compEnvC scope cl C env)) (After s₂ (F v)) No s₂)
    (done : ∀ D h' tk (vs : List Value) (zs : List (Value × List (Addr × Obj))) k, vs.length = n → (∀ j v, vs[j]? = some v → P j v) → Paired (fun v z => F v z.1 z.2) (vs.filter p) zs →
      Made s₁.heap h' ((D, listO (zs.map (·.1)) k) :: zs.flatMap (·.2)) → Ext s₁.heap h' → K D h' tk)

theorem compBlock {E : Value → Shared → Prop} {env : Env} {elt iter : Expr} {x : Str} {px : Pos} {ifs : List Expr} {scope : Scope} {cl : List (Str × Addr)} {pos : Pos} {s₁ : Shared} {xv : Value} {K : Addr → Heap → Nat → Prop}
    (RR : Value → Addr → Result → Shared → Prop) (hcell : ∀ y ∈ scope.names, y.2 ≠ .cell) (hkind : scope.kind = .function) (hx : scope.names.lookup x = some .local)
    (ok : CompOk prog w A env scope cl x ifs elt K xv s₁)
    (hRR : ∀ D C h' tk m', s₁.heap.get? D = none → s₁.heap.get? C = none → D ≠ C → h'.Ns C m' → (∀ h'' tk', (∀ b o, b ≠ C → h'.get? b = some o → h''.get? b = some o) → K D h'' tk') → Ext s₁.heap h' → RR (.ref D) C (.ok .next) { s₁ with heap := h', toks := tk }) :
    wpAny (model prog w) A (pyIter xv) (fun it s₂ => wpAny (model prog w) A (newList []) (fun acc s₃ => wpAny (model prog w) A (newFunctionEnv scope env.globals cl [] env.qual none .none (some env)) (fun cenv s₄ =>
      codeAny (model prog w) A (.compStart (.ListComp elt [⟨.Name x px, iter, ifs, 0⟩] scope pos) 0 it acc { cenv with scope := relabel scope env }) (RR acc cenv.locals) s₄) E s₃) E s₂) E s₁ := by
  obtain ⟨n, P, p, F, src, hsz, tests, el, done⟩ := ok
  refine src _ _ fun h₂ tk₂ I x₂ nI T => ?_
  obtain ⟨fp, St, W, hst, hfp, hob⟩ := T
  refine wpAny_newObj_type (wpAny_newFunctionEnv hcell (by intro y hy; simp at hy) (fun h₁ hns₁ hsb₁ => ?_) hkind)
  dsimp only at hns₁ hsb₁ ⊢
  generalize hH2 : h₂.push { cls := .type "list", dict := none, data := .seq ([] : List Value).toArray } = H2 at hns₁ hsb₁ ⊢
  have hC : H2.objs.size = h₂.objs.size + 1 := by rw [← hH2, Heap.size_push]
  have hDC : h₂.objs.size ≠ H2.objs.size := by rw [hC]; exact Nat.ne_of_lt (Nat.lt_succ_self _)
  have below : ∀ b, b < h₂.objs.size → b ≠ H2.objs.size ∧ b ≠ h₂.objs.size := fun b hb => ⟨by rw [hC]; exact Nat.ne_of_lt (Nat.lt_succ_of_lt hb), Nat.ne_of_lt hb⟩
  have inn : ∀ b ∈ fp, b < h₂.objs.size := fun b hb => let ⟨o, ho⟩ := hfp b hb; Heap.lt_size ho
  have hDf : h₂.objs.size ∉ fp := fun hm => Nat.lt_irrefl _ (inn _ hm)
  have hCf : H2.objs.size ∉ fp := fun hm => by have := inn _ hm; rw [hC] at this; exact Nat.lt_irrefl _ (Nat.lt_of_succ_lt this)
  have old : ∀ b o, h₂.get? b = some o → h₁.get? b = some o := fun b o e => hsb₁.extBut b o (below b (Heap.lt_size e)).1 (Heap.get?_push_of_some _ (hH2 ▸ Heap.get?_push_of_some _ e))
  have hacc : h₁.PlainList h₂.objs.size #[] := ⟨_, hsb₁.extBut _ _ hDC (Heap.get?_push_of_some _ (hH2 ▸ Heap.get?_push_size _ rfl))⟩
  have hst₁ : St 0 h₁ := W.frame _ _ _ hst fun b _ o e => old b o e
  have fresh : ∀ a, h₂.objs.size ≤ a → s₁.heap.get? a = none := fun a ha => by
    cases e : s₁.heap.get? a with
    | none => rfl
    | some o' => exact absurd (Heap.lt_size (x₂ _ _ e)) (Nat.not_lt.mpr ha)
  have gD := fresh _ (Nat.le_refl _)
  have gC : s₁.heap.get? H2.objs.size = none := fresh _ (by rw [hC]; exact Nat.le_succ _)
  have loop : ∀ s₃ : Shared, s₃ = { s₁ with heap := h₁, toks := tk₂ + ([] : List (Str × Value)).length } →
      codeAny (model prog w) A (.compLoop (.ListComp elt [⟨.Name x px, iter, ifs, 0⟩] scope pos) 0 (.ref I) (.ref h₂.objs.size) (compEnvC scope cl H2.objs.size env))
        (RR (.ref h₂.objs.size) H2.objs.size) s₃ := by
    rintro s₃ rfl
    refine compTurns (cenv := compEnvC scope cl H2.objs.size env) (g := s₁.heap) W p F (lookup_relabel_local hx) (by simp [compEnvC, relabel, hkind]) hDC hDf hCf hob hst₁ hacc hns₁ (fun b o e => old b o (x₂ b o e)) gC gD nI
      (fun i v s₂ m₂ hv hn hm hk => tests _ i v s₂ m₂ hv hn hm hk gC) (fun i v s₂ m₂ hv hpv hn hm hk => el _ i v s₂ m₂ hv hpv hn hm hk gC) (fun h' tk m' vs zs hn hl hlen hP hF ho hg => ?_) hsz
    refine hRR _ _ h' tk m' gD gC hDC hn (fun h'' tk' up => ?_) hg
    obtain ⟨k, hl⟩ := hl
    refine done _ h'' tk' vs zs k hlen hP hF (fun q hq => ?_) fun b o e => up b o (fun z => by rw [z, gC] at e; cases e) (hg b o e)
    rcases List.mem_cons.mp hq with rfl | hq
    · exact ⟨gD, up _ _ hDC hl⟩
    · obtain ⟨z, hz, hq⟩ := List.mem_flatMap.mp hq
      obtain ⟨a, b, c, d, e⟩ := ho z hz q hq
      exact ⟨d, up _ _ a e⟩
  exact codeAny_compStart_list (loop _ rfl) (W.self 0 _ _ _ hst₁ (loop _ rfl))

theorem comp {E : Value → Shared → Prop} {Q : Value → Shared → Prop} {env : Env} {elt iter : Expr} {x : Str} {px : Pos} {ifs : List Expr} {scope : Scope} {cl : List (Str × Addr)} {pos : Pos}
    (hclos : closureFor scope env = pure cl) (hcell : ∀ y ∈ scope.names, y.2 ≠ .cell) (hkind : scope.kind = .function)
    (hnames : ∀ y ∈ scope.names, y.2 = .local → scope.names.lookup y.1 = some .local) (hx : scope.names.lookup x = some .local)
    (h : wpAny (model prog w) A (eval iter env) (fun xv s₁ => CompOk prog w A env scope cl x ifs elt (fun D h' tk => Q (.ref D) { s₁ with heap := h', toks := tk }) xv s₁) E s)
    (hs : ∀ x, foldedSetIterable iter env x = pure x := by intro _; rfl) :
    wpAny (model prog w) A (eval (.ListComp elt [⟨.Name x px, iter, ifs, 0⟩] scope pos) env) Q E s := by
  rw [eval_ListComp]
  refine wpAny_comprehension_free (use := none) rfl hs hclos hkind hnames (wpAny_mono h (fun xv s₁ ok => ?_) fun _ _ e => e)
  refine compBlock (fun acc C => compPost (model prog w) A E none Q acc C) hcell hkind hx ok fun D C h' tk m' hD hC hDC hn hK hk => ?_
  exact ⟨m', hn, fun h'' hs'' => hK h'' tk hs''.extBut⟩

/-- the same as the value of an assignment -/
theorem compTo {E : Value → Shared → Prop} {Q : Flow → Shared → Prop} {env : Env} {elt iter : Expr} {x y : Str} {px py : Pos} {ifs : List Expr} {scope : Scope} {cl : List (Str × Addr)} {pos spos : Pos} {h₀ : Heap} {m : Str → Option Value}
    (hsw : swapsWith (.ListComp elt [⟨.Name x px, iter, ifs, 0⟩] scope pos) (some (.Name y py)) spos.line env = pure true)
    (hclos : closureFor scope env = pure cl) (hcell : ∀ z ∈ scope.names, z.2 ≠ .cell) (hkind : scope.kind = .function)
    (hnames : ∀ z ∈ scope.names, z.2 = .local → scope.names.lookup z.1 = some .local) (hx : scope.names.lookup x = some .local)
    (hy : env.kindOf y = some .local) (hp : (env.scope.kind == .class || (env.scope.kind == .module && env.locals != env.globals)) = false)
    (h : wpAny (model prog w) A (eval iter env) (fun xv s₁ => Fr h₀ env.locals s₁.heap m ∧ CompOk prog w A env scope cl x ifs elt
      (fun D h' _ => ∀ h'' tk, Fr h₀ env.locals h'' (fun z => if z = y then some (.ref D) else m z) → (∀ b o, b ≠ env.locals → h'.get? b = some o → h''.get? b = some o) → Q .next { s₁ with heap := h'', toks := tk }) xv s₁) E s)
    (hs : ∀ x, foldedSetIterable iter env x = pure x := by intro _; rfl) :
    wpAny (model prog w) A (exec (.Assign [.Name y py] (.ListComp elt [⟨.Name x px, iter, ifs, 0⟩] scope pos) spos) env) Q E s := by
  rw [exec_Assign_Name_used _ _ _ _ hsw]
  refine wpAny_bind (wpAny_standAt (wpAny_bind ?_))
  show wpAny _ A (do let _ ← comprehension (.ListComp elt [⟨.Name x px, iter, ifs, 0⟩] scope pos) scope env _ (newList []) false (eval iter env) (some (assign (.Name y py) env))) _ _ s
  refine wpAny_bind (wpAny_mono (wpAny_comprehension_free (use := some (assign (.Name y py) env)) (Q := fun _ s' => Q .next s') rfl hs hclos hkind hnames
    (wpAny_mono h (fun xv s₁ ⟨F, ok⟩ => ?_) fun _ _ e => e)) (fun _ s' hq => wpAny_pure (wpAny_pure hq)) fun _ _ e => e)
  refine compBlock (fun acc C => compPost (model prog w) A E (some (assign (.Name y py) env)) (fun _ s' => Q .next s') acc C) hcell hkind hx ok fun D C h' tk m' hD hC hDC hnC hK hk => ?_
  have hn := F.ns
  have hLC : env.locals ≠ C := by rintro rfl; obtain ⟨o, _, _, ho, _⟩ := hn; rw [hC] at ho; cases ho
  show wpAny _ A (assign (.Name y py) env (.ref D)) _ _ _
  have F' := F.keeps hk
  refine wpAny_assign_Name (wpAny_storeName_local hy F'.ns (fun h₂ hn₂ hs₂ => ?_) hp)
  refine ⟨m', hnC.sameBut hs₂ (Ne.symm hLC), fun h₃ hs₃ => ?_⟩
  have F₂ : Fr h₀ env.locals h₂ (fun z => if z = y then some (.ref D) else m z) := F'.set hn₂ hs₂
  refine hK (h'.hide C) tk (fun b o hb e => (Heap.hide_ne _ hb).trans e) h₃ _ ⟨F₂.ns.sameBut hs₃ hLC, fun b o e => hs₃.extBut b o (fun z => ?_) (F₂.keep b o e), F.above⟩ fun b o hbL e => ?_
  · rw [z] at e; have := F.keep _ _ e; rw [hC] at this; cases this
  · have hbC : b ≠ C := fun z => by rw [z, Heap.hide_self] at e; cases e
    exact hs₃.extBut b o hbC (hs₂.extBut b o hbL (Heap.of_hide e))

end
end

section
variable {prog : Program} {w : World} {mg mb : Str → Option Value} {M : Model} {A : Around} {s : Shared} {E : Value → Shared → Prop} {env : Env} {x : Str} {pos : Pos} {v : Value} {g : Heap} {m : Str → Option Value}

theorem nmL {Q : Value → Shared → Prop} (hn : s.heap.Ns env.locals m) (hv : m x = some v) (h : Q v s) (hk : env.scope.kind = .function := by rfl) (hl : env.kindOf x = some .local := by rfl) (hd : (x == ("__debug__" : Str)) = false := by decide) :
    wpAny M A (eval (.Name x pos) env) Q E s := wpAny_Name (wpAny_loadName_local hk hl hn hv h) hd
theorem nmG {Q : Value → Shared → Prop} (G : Gd w mg mb g) (k : Ext g s.heap) (e : nsIn (hdK w.params) mainGlobals x = some (some v)) (h : Q v s)
    (hg : env.globals = mainGlobals := by rfl) (hk : env.scope.kind = .function := by rfl) (hx : env.kindOf x = some .globalImplicit := by rfl) (hd : (x == ("__debug__" : Str)) = false := by decide) :
    wpAny M A (eval (.Name x pos) env) Q E s :=
  Name_function_global hk hx (loadGlobal_global (env := env) (by rw [hg]; exact G.g.keeps k) (mg_of G.k G.g e) h) hd
theorem nmB {Q : Value → Shared → Prop} (G : Gd w mg mb g) (k : Ext g s.heap) (e : nsIn (hdK w.params) mainGlobals x = some none) (hv : bootBuiltins x = some v) (hn : x ≠ "__name__") (h : Q v s)
    (hg : env.globals = mainGlobals := by rfl) (hb : env.builtins = builtinsNs := by rfl) (hk : env.scope.kind = .function := by rfl) (hx : env.kindOf x = some .globalImplicit := by rfl) (hd : (x == ("__debug__" : Str)) = false := by decide) :
    wpAny M A (eval (.Name x pos) env) Q E s :=
  Name_function_global hk hx (loadGlobal_builtin (env := env) (by rw [hg]; exact G.g.keeps k) (mg_none_of G.k G.g e) (by rw [hb]; exact G.b.keeps k) ((G.bi x hn).trans hv) h) hd
theorem nmF {Q : Value → Shared → Prop} {c : Addr} {o : Obj} (hc : env.cells.lookup x = some c) (ho : s.heap.get? c = some o) (hd : o.data = .cell (some v)) (h : Q v s)
    (hk : env.scope.kind = .function := by rfl) (hl : env.kindOf x = some .free ∨ env.kindOf x = some .cell := by first | exact .inl rfl | exact .inr rfl) (hn : (x == ("__classdict__" : Str)) = false := by decide) (hdb : (x == ("__debug__" : Str)) = false := by decide) :
    wpAny M A (eval (.Name x pos) env) Q E s := by
  refine wpAny_Name ?_ hdb
  rcases hl with hl | hl
  · exact wpAny_loadName_free hk hl hc ⟨o, ho, hd⟩ h hn
  · exact wpAny_loadName_cell hk hl hc ⟨o, ho, hd⟩ h

theorem tests0 {cenv : Env} : Tests prog w A cenv [] true s := wpAny_tests_nil ⟨rfl, s.heap, s.toks, rfl, fun _ _ e => e⟩
theorem tests1 {cenv : Env} {c : Expr} {b : Bool} (h : wpAny (model prog w) A (isTrue c cenv (eval c cenv)) (fun ok s' => ok = b ∧ Keeps s s') No s) : Tests prog w A cenv [c] b s := wpAny_tests_one h
theorem keepsI {s : Shared} {h' : Heap} {tk : Nat} (x : Ext s.heap h') : Keeps s { s with heap := h', toks := tk } := ⟨h', tk, rfl, x⟩
theorem keeps0 {s : Shared} : Keeps s s := ⟨s.heap, s.toks, rfl, fun _ _ e => e⟩
theorem made0 {h h' : Heap} : Made h h' [] := fun _ q => nomatch q
theorem after0 {P : Value → List (Addr × Obj) → Prop} (h : P v []) : After s P v s := ⟨s.heap, s.toks, [], rfl, fun _ _ e => e, made0, h⟩

/-- the items met are the list's -/
theorem items_eq {vs : List Value} {l : List Value} (hl : vs.length = l.toArray.size) (hP : ∀ (j : Nat) (v : Value), vs[j]? = some v → l.toArray[j]? = some v) : vs = l := by
  refine List.ext_getElem? fun j => ?_
  by_cases h : j < vs.length
  · rw [List.getElem?_eq_getElem h]
    have := hP j vs[j] (by simp [h])
    simpa using this.symm
  · rw [List.getElem?_eq_none (by (first | lia | omega)), List.getElem?_eq_none (by simp at hl; (first | lia | omega))]
end
end Mine
end
section
open PySem PySem.W PySem.Calls PyProof.Rows
namespace Mine
section
variable {prog : Program} {w : World} {mg mb : Str → Option Value} {A : Around} {s : Shared}

theorem paired_eq {l : List Value} {zs : List (Value × List (Addr × Obj))} (h : Paired (fun v (z : Value × List (Addr × Obj)) => z.1 = v ∧ z.2 = []) l zs) : zs.map (·.1) = l ∧ zs.flatMap (·.2) = [] := by
  induction h with
  | nil => exact ⟨rfl, rfl⟩
  | cons e _ ih => rw [List.map_cons, List.flatMap_cons, ih.1, ih.2, e.1, e.2]; exact ⟨rfl, rfl⟩

/-- _law_count -/
theorem sp_count {l : Addr} {vs : List Value} (G : Gd w mg mb s.heap) (hh : A.handled = none) (hd : A.depth < recursionLimit) (hl : s.heap.IsList l vs.toArray) (hlen : vs.length < 2 ^ 20)
    (hv : ∀ v ∈ vs, v = .none ∨ ∃ x t, v = .str x t) :
    wpAny (model prog w) A (call (.ref 188) [.ref l]) (After s fun v os => ∃ b t u, v = .ref b ∧ os = [(b, tupO [.int (((vs.filter (· == .none)).length : Int) - vs.length) t, .int (vs.filter (· == .none)).length u])]) No s := by
  refine enterK (binds := [(Str.ofString "parts", .ref l)]) G (by k_is) (by k_is) hd (BindsTo.of_eq rfl) (locs rfl) (fun Kf hKf L h₁ F => ?_) (by decide) rfl rfl rfl
  refine wpAny_execs_cons (wpAny_Assign_Name ?_)
  refine Call_ (bname F G (at_len w) rfl (by decide) (callWith_builtin1 (args_cons ?_)))
  refine comp (cl := []) rfl (by decide) rfl (by decide) rfl ?_
  refine ld F rfl ?_
  refine ⟨_, _, (fun v => v == .none), (fun v y os => y = v ∧ os = []), iters_list hh (F.lst hl), ?_, ?_, ?_, ?_⟩
  · simp only [List.size_toArray]; rw [sizeLine_eq]; (first | lia | omega)
  · intro C i v s₂ m₂ hP hn hm hx hC
    refine tests1 (wpAny_isTrue_Compare1 (nmL hn hm (wpAny_Constant_none ?_)))
    have hv' := hv v (by simpa using List.mem_of_getElem? (l := vs) (by simpa using hP))
    rcases hv' with rfl | ⟨y, t, rfl⟩
    · exact wpAny_is_self rfl (wpAny_truthy_bool ⟨rfl, keeps0⟩)
    · exact wpAny_is_other rfl (by intro e; cases e) (wpAny_truthy_bool ⟨rfl, keeps0⟩)
  · intro C i v s₂ m₂ hP hp hn hm hx hC
    exact nmL hn hm (after0 ⟨rfl, rfl⟩)
  · intro D h' tk vs' zs k hlen' hP hF made hx
    obtain rfl := items_eq hlen' hP
    obtain ⟨e1, e2⟩ := paired_eq hF
    rw [e1, e2] at made
    refine args_nil ?_
    have hD := (made _ (.head _)).2
    have F' := F.keeps hx
    have hfl : (vs'.filter fun v => v == Value.none).length ≤ vs'.length := List.length_filter_le _ _
    refine len_list (items := (vs'.filter fun v => v == Value.none).toArray) ⟨_, hD, rfl, _, rfl⟩ (by simp; (first | lia | omega)) ?_
    refine st F' (fun h₂ F₂ => ?_)
    refine wpAny_execs_cons (wpAny_Return_some (Tuple_ (args_cons ?_)))
    refine wpAny_BinOp (ld F₂ rfl ?_)
    refine Call_ (bname F₂ G (at_len w) rfl (by decide) (callWith_builtin1 (args_cons (ld F₂ rfl (args_nil ?_)))))
    refine len_list (F₂.lst hl) (by simp; (first | lia | omega)) ?_
    refine sub_int (args_cons (ld F₂ rfl (args_nil ?_)))
    refine newTuple_N F₂ News.nil (fun h₃ F₃ N₃ => ?_)
    exact hKf _ _ (afterF F₃ N₃ _ (fun p hp => hp) ⟨_, _, _, rfl, by simp; exact ⟨rfl, rfl⟩⟩)
end
end Mine
end
section
open PySem PySem.W PySem.Calls PyProof.Rows
namespace Mine
section
variable {prog : Program} {w : World} {mg mb : Str → Option Value} {A : Around} {s : Shared}

def glued (f : Nat → Str) (l : List Nat) : List Nat := l.flatMap fun c => (f c).cps.toList

theorem glued_nil (f : Nat → Str) : glued f [] = [] := rfl
theorem glued_snoc (f : Nat → Str) (l : List Nat) (c : Nat) : glued f (l ++ [c]) = glued f l ++ (f c).cps.toList := by simp [glued]
theorem glued_len_le (f : Nat → Str) (a b : List Nat) : (glued f a).length ≤ (glued f (a ++ b)).length := by simp [glued]

inductive TrI (f : Nat → Str) (x : Str) (s : Shared) (rest : List Nat) (b : List Str × Nat × Bool × List (Nat × Option Nat) × Bool) (s' : Shared) : Prop
  | mk (done : List Nat) (pieces : List Str) (fast : Bool) (known : List (Nat × Option Nat)) (h' : Heap) (tk : Nat) (hx : x.cps.toList = done ++ rest) (eb : b = (pieces, (glued f done).length, fast, known, false)) (es : s' = { s with heap := h', toks := tk }) (hk : Ext s.heap h')
    (hp : pieces.reverse.flatMap (fun (p : Str) => p.cps.toList) = glued f done) (hkn : ∀ c a, known.lookup c = some a → ∃ d, a = some d ∧ f c = ⟨#[d]⟩)
theorem TrI.snoc {f : Nat → Str} {x : Str} {s : Shared} {rest done : List Nat} {pieces : List Str} {c n : Nat} {known : List (Nat × Option Nat)} {h' : Heap} {tk : Nat} (p : Str) (fast : Bool)
    (hx : x.cps.toList = done ++ c :: rest) (hk : Ext s.heap h') (hp : pieces.reverse.flatMap (fun (p : Str) => p.cps.toList) = glued f done)
    (hkn : ∀ c a, known.lookup c = some a → ∃ d, a = some d ∧ f c = ⟨#[d]⟩) (e : f c = p) (en : n = p.length) :
    TrI f x s rest (p :: pieces, (glued f done).length + n, fast, known, false) { s with heap := h', toks := tk } := by
  subst e en
  refine ⟨done ++ [c], f c :: pieces, fast, known, h', tk, by rw [hx, List.append_assoc]; rfl, ?_, rfl, hk, ?_, hkn⟩
  · rw [glued_snoc, List.length_append]; rfl
  · rw [glued_snoc, List.reverse_cons, List.flatMap_append, hp]; simp

/-- str.translate, where the table gives a text for a sign, or nothing -/
theorem str_translate {x : Str} {t : Tok} {tab : Value} (f : Nat → Str) (M : Nat → Builtin.Str.Mapped)
    (hM : ∀ c, c ∈ x.cps.toList → M c = .text (f c) ∨ (M c = .keep ∧ f c = ⟨#[c]⟩))
    (look : ∀ c, c ∈ x.cps.toList → ∀ s', Ext s.heap s'.heap → wpAny (model prog w) A.in1 (Builtin.Str.tableLookup tab c) (fun r s'' => r = M c ∧ Keeps s' s'') No s')
    (hsz : (glued f x.cps.toList).length ≤ sizeLine) :
    wpAny (model prog w) A (call (.builtin "str.translate") [.str x t, tab]) (After s fun v os => os = [] ∧ ∃ u, v = .str ⟨(glued f x.cps.toList).toArray⟩ u) No s := by
  refine wpAny_call_entry F.slot_str_translate (typeIs_str _ _ _) F.entry_str_translate ?_ (F.args_str_translate_2 _ _)
  unfold Builtin.«str.translate»
  refine wpAny_bind (wpAny_pure ?_)
  dsimp only
  by_cases h0 : (x.length == 0) = true
  · rw [if_pos h0]
    have hx : x.cps = #[] := by
      have : x.cps.size = 0 := by simpa [Str.length] using h0
      exact Array.size_eq_zero_iff.mp this
    obtain ⟨xc⟩ := x
    simp only at hx; subst hx
    refine wpAny_bind (wpAny_rule (wpAny_bind (wpAny_pure (wpAny_pure ⟨_, rfl, after0 ⟨rfl, _, rfl⟩⟩))))
  · rw [if_neg h0]
    refine wpAny_bind (wpAny_forIn_array' _ (TrI f x s) _ ?_ ?_ x.cps _ ⟨[], [], _, [], s.heap, s.toks, rfl, rfl, rfl, Ext.refl _, rfl, fun c a h => by cases h⟩)
    · rintro c rest _ _ ⟨done, pieces, fast, known, h', tk, hx, rfl, rfl, hk, hp, hkn⟩
      dsimp only
      have hc : c ∈ x.cps.toList := by rw [hx]; simp
      have hlt : Builtin.Str.tooLong (glued f done).length = false := by
        have := glued_len_le f done (c :: rest)
        rw [← hx] at this
        simp only [Builtin.Str.tooLong, decide_eq_false_iff_not]; (first | lia | omega)
      rw [if_neg (by rw [hlt]; exact Bool.false_ne_true)]
      simp only [Bool.false_eq_true, if_false]
      -- a look
      have lk : ∀ {β : Type} {m : Builtin.Str.Mapped} (em : M c = m) (k : Builtin.Str.Mapped → Sem β) (Q : β → Shared → Prop) (h₁ : Heap) (tk₁ : Nat), Ext s.heap h₁ → (∀ h₂ tk₂, Ext s.heap h₂ → wpAny (model prog w) A.in1 (k m) Q No { s with heap := h₂, toks := tk₂ }) →
          wpAny (model prog w) A.in1 (Builtin.Str.tableLookup tab c >>= k) Q No { s with heap := h₁, toks := tk₁ } := fun em k Q h₁ tk₁ hk₁ hq =>
        wpAny_bind (wpAny_mono (look c hc _ hk₁) (fun r s'' ⟨e, h₂, tk₂, e₂, hk₂⟩ => by subst e e₂ em; exact hq h₂ tk₂ fun b o e => hk₂ b o (hk₁ b o e)) fun _ _ e => e)
      cases fast with
      | false =>
        simp only [Bool.false_eq_true, if_false]
        refine hideG fun H kH => ?_
        rcases hM c hc with e | ⟨e, e'⟩
        · exact kH (lk e _ _ _ _ hk fun h₂ tk₂ hk₂ => wpAny_pure (TrI.snoc _ _ hx hk₂ hp hkn rfl rfl))
        · exact kH (lk e _ _ _ _ hk fun h₂ tk₂ hk₂ => wpAny_pure (TrI.snoc _ _ hx hk₂ hp hkn e' rfl))
      | true =>
        simp only [if_true]
        cases hkl : known.lookup c with
        | some a =>
          obtain ⟨d, rfl, e⟩ := hkn c a hkl
          exact wpAny_bind (wpAny_pure (wpAny_pure (TrI.snoc _ _ hx hk hp hkn e rfl)))
        | none =>
          refine hideG fun H kH => ?_
          have kn' : ∀ d, f c = ⟨#[d]⟩ → ∀ c' a, List.lookup c' ((c, some d) :: known) = some a → ∃ d, a = some d ∧ f c' = ⟨#[d]⟩ := by
            intro d e c' a h
            rw [List.lookup_cons] at h
            by_cases q : c' = c
            · subst q; simp at h; exact ⟨d, h.symm, e⟩
            · rw [beq_eq_false_iff_ne.mpr q] at h; exact hkn c' a h
          rcases hM c hc with e | ⟨e, e'⟩
          · by_cases hq : ((f c).length == 1 && (f c).cps.all fun x => decide (x < 128)) = true
            · have h1 : (f c).cps.size = 1 := by
                have := (Bool.and_eq_true_iff.mp hq).1
                simpa [Str.length] using this
              obtain ⟨d, hd⟩ : ∃ d, f c = ⟨#[d]⟩ := by
                generalize f c = z at h1
                obtain ⟨⟨l⟩⟩ := z
                have h1 : l.length = 1 := h1
                obtain ⟨d, rfl⟩ := List.length_eq_one_iff.mp h1
                exact ⟨d, rfl⟩
              refine kH (lk e _ _ _ _ hk fun h₂ tk₂ hk₂ => ?_)
              dsimp only
              simp only [hq, if_true]
              rw [hd]
              exact wpAny_bind (wpAny_pure (wpAny_pure (TrI.snoc _ _ hx hk₂ hp (kn' d hd) hd rfl)))
            · refine kH (lk e _ _ _ _ hk fun h₂ tk₂ hk₂ => ?_)
              dsimp only
              simp only [hq, Bool.false_eq_true, if_false]
              exact wpAny_bind (wpAny_pure (wpAny_bind (wpAny_rule (lk e _ _ _ _ hk₂ fun h₃ tk₃ hk₃ => wpAny_pure (TrI.snoc _ _ hx hk₃ hp hkn rfl rfl)))))
          · exact kH (lk e _ _ _ _ hk fun h₂ tk₂ hk₂ => wpAny_bind (wpAny_pure (wpAny_pure (TrI.snoc _ _ hx hk₂ hp (kn' c e') e' rfl))))
    · rintro _ _ ⟨done, pieces, fast, known, h', tk, hx, rfl, rfl, hk, hp, hkn⟩
      rw [List.append_nil] at hx
      subst hx
      dsimp only
      have hlt : Builtin.Str.tooLong (glued f x.cps.toList).length = false := by
        simp only [Builtin.Str.tooLong, decide_eq_false_iff_not]; (first | lia | omega)
      rw [if_neg (by rw [hlt]; exact Bool.false_ne_true)]
      have e : pieces.reverse.foldl (fun (acc : Array Nat) (p : Str) => acc ++ p.cps) #[] = (glued f x.cps.toList).toArray := by
        rw [← hp]
        have : ∀ (l : List Str) (acc : Array Nat), l.foldl (fun acc p => acc ++ p.cps) acc = acc ++ (l.flatMap fun p => p.cps.toList).toArray := by
          intro l
          induction l with
          | nil => intro acc; simp
          | cons p l ih => intro acc; rw [List.foldl_cons, ih, List.flatMap_cons]; obtain ⟨a⟩ := acc; obtain ⟨⟨b⟩⟩ := p; simp
        rw [this]; simp
      unfold retStr
      rw [e]
      refine wpAny_bind (wpAny_mkStr (wpAny_pure ⟨_, rfl, afterI [] hk made0 ⟨rfl, _, rfl⟩⟩) ?_)
      simpa [Str.length] using hsz
end
end Mine
end
section
open PySem PySem.W PySem.Calls PyProof.Rows
namespace Mine
section
variable {prog : Program} {w : World} {mg mb : Str → Option Value} {A : Around} {s : Shared} {E : Value → Shared → Prop}

/-- '=?%s?q?%s?=' % ('x', y) -/
theorem pct_word {b L : Addr} {n : Nat} {h₀ : Heap} {news : List (Addr × Obj)} {y : Str} {t u v : Tok} {Q : Value → Shared → Prop} (N : News h₀ L s.heap news)
    (hb : (b, ({ cls := .type "tuple", data := .seq #[.str (Str.ofString "x") u, .str y v] n } : Obj)) ∈ news) (hy : y.length ≤ 1000000)
    (h : ∀ t' k, Q (.str ⟨#[61, 63, 120, 63, 113, 63] ++ y.cps ++ #[63, 61]⟩ t') { s with toks := k }) :
    wpAny (model prog w) A (binaryOp .Mod (.str (Str.ofString "=?%s?q?%s?=") t) (.ref b)) Q E s := by
  refine' KPt.mod_tuple (X' := ⟨#[61, 63, 37, 115, 63, 113, 63, 37, 115, 63, 61]⟩) N hb ?kF ?km ?_
  case kF => decide +kernel
  case km => kpt_run
  intro t' k
  have e : Str.ofString "=?" ++ Str.ofString "x" ++ Str.ofString "?q?" ++ y ++ Str.ofString "?=" = ⟨#[61, 63, 120, 63, 113, 63] ++ y.cps ++ #[63, 61]⟩ := by
    rw [show Str.ofString "=?" ++ Str.ofString "x" ++ Str.ofString "?q?" = (⟨#[61, 63, 120, 63, 113, 63]⟩ : Str) by decide +kernel, show Str.ofString "?=" = (⟨#[63, 61]⟩ : Str) by decide +kernel]
    rfl
  rw [e]
  exact h t' k

open Builtin in
theorem latin_find (b : Array UInt8) (p : Nat) (fin : Bool) : _codecs.latin1Decoder.find fin b p = .char (b.getD p 0).toNat (p + 1) := rfl

open Builtin in
/-- the decoder latin-1 reads each octet as itself -/
theorem latin_run {Q : Array Nat × Nat → Shared → Prop} {id : String} {b : Array UInt8} {M : Model} (hsz : b.size ≤ sizeLine) (h : Q ((b.map (·.toNat)), b.size) s) :
    wpAny M A (_codecs.runDecoder id _codecs.latin1Decoder none true b 0 []) Q E s := by
  unfold _codecs.runDecoder
  refine wpAny_bind ?_
  rw [KPc.range_list]
  refine wpAny_forIn_list (I := fun rest (r : Nat × Array Nat × _codecs.Faults) s' => s' = s ∧ r.1 + rest.length = b.size ∧ r.2.1.toList = (b.toList.take r.1).map (·.toNat)) (turn := ?_) (fin := ?_) (h := ⟨rfl, by simp, rfl⟩)
  · intro x rest r s' hI
    obtain ⟨p, out, st⟩ := r
    obtain ⟨hs, hl, ho⟩ := hI
    have hl : p + (rest.length + 1) = b.size := hl
    have ho : out.toList = (b.toList.take p).map (·.toNat) := ho
    have hos : out.size = p := by
      have := congrArg List.length ho
      simp at this; (first | lia | omega)
    have n1 : ¬ out.size > sizeLine := by (first | lia | omega)
    have n2 : ¬ p ≥ b.size := by (first | lia | omega)
    dsimp only
    rw [if_neg n1, if_neg n2, latin_find]
    have hp : p < b.toList.length := by simp; (first | lia | omega)
    refine wpAny_pure ⟨hs, by show p + 1 + rest.length = b.size; (first | lia | omega), ?_⟩
    show (out ++ [(b.getD p 0).toNat].toArray).toList = (b.toList.take (p + 1)).map (·.toNat)
    rw [List.take_succ_eq_append_getElem hp, List.map_append, ← ho]
    have : b.getD p 0 = b.toList[p] := by
      have hb : p < b.size := by (first | lia | omega)
      simp [Array.getD, hb]
    simp [this]
  · intro r s' hI
    obtain ⟨p, out, st⟩ := r
    obtain ⟨hs, hl, ho⟩ := hI
    have hl : p + 0 = b.size := hl
    have ho : out.toList = (b.toList.take p).map (·.toNat) := ho
    have e : out = b.map (·.toNat) := by
      apply Array.toList_inj.mp
      rw [ho, List.take_of_length_le (by simp; (first | lia | omega))]; simp
    have e2 : p = b.size := by simpa using hl
    subst e e2 hs
    exact wpAny_pure h

open Builtin in
theorem latin_road {id : String} {b : Array UInt8} : _codecs.decodeRoad id b (Str.ofString "latin1") none [] = (_codecs.runDecoder id _codecs.latin1Decoder none true b 0 [] >>= fun r => mkStr ⟨r.1⟩) := by kernel_rfl

open Builtin in
theorem latin_entry {c : UInt8} {cs : List UInt8} {t u : Tok} : «bytes.decode» ⟨[.bytes (c :: cs).toArray t, .str (Str.ofString "latin1") u], []⟩ = (mkStr (Str.ofString "utf-8") >>= fun _ => mkStr (Str.ofString "latin1") >>= fun e => mkStr (Str.ofString "bytes.decode") >>= fun d =>
    call (.builtin "_codecs.decode.text") [.bytes (c :: cs).toArray t, e, .none, d] >>= fun v => ret v) := by kernel_rfl

theorem args_decode2 (a b : Value) : argsOk "bytes.decode" ⟨[a, b], []⟩ := by unfold argsOk; kernel_rfl
/-- b.decode('latin1') -/
theorem decode_latin {c : UInt8} {cs : List UInt8} {t u : Tok} {Q : Value → Shared → Prop} (hsz : (c :: cs).length ≤ sizeLine) (h : ∀ t' k, Q (.str ⟨((c :: cs).map (·.toNat)).toArray⟩ t') { s with toks := k }) :
    wpAny (model prog w) A (call (.builtin "bytes.decode") [.bytes (c :: cs).toArray t, .str (Str.ofString "latin1") u]) Q E s := by
  refine wpAny_call_entry FB.slot_bytes_decode (typeIs_bytes _ _ _) FB.entry_bytes_decode ?_ (args_decode2 _ _)
  rw [latin_entry]
  refine wpAny_bind (wpAny_mkStr ?_ (by decide))
  refine wpAny_bind (wpAny_mkStr ?_ (by decide))
  refine wpAny_bind (wpAny_mkStr ?_ (by decide))
  refine wpAny_bind (Calls.call_function_entry KBd.kind_text KBd.plain_text KBd.entry_text (KBd.args_text _ _ _ _) ?_)
  show wpAny _ _ (Builtin.Bytes.bytesLike _ (.bytes (c :: cs).toArray t) >>= fun r => _) _ _ _
  refine wpAny_bind (wpAny_of_eq KBd.like_eq ?_)
  refine wpAny_bind (wpAny_of_eq KBd.held_eq ?_)
  show wpAny _ _ (Builtin._codecs.decodeRoad _ (c :: cs).toArray (Str.ofString "latin1") none [] >>= fun v => _) _ _ _
  rw [latin_road]
  refine wpAny_bind (wpAny_bind (latin_run (by simpa using hsz) ?_))
  refine wpAny_mkStr (wpAny_pure ⟨_, rfl, wpAny_pure ⟨_, rfl, ?_⟩⟩) (by simpa [Str.length] using hsz)
  simpa using h _ _
end
end Mine
end
section
open PySem PySem.W PySem.Calls PyProof.Rows
set_option maxRecDepth 100000
set_option maxHeartbeats 4000000
namespace Mine
abbrev S (l : List Nat) : Str := ⟨l.toArray⟩

noncomputable def listHas (P : Params) (a : Addr) (ok : Array Value → Bool) : Bool := match (hdK P).lookup a with
  | some o => o.cls == .type "list" && (match o.data with | .seq xs _ => ok xs | _ => false)
  | none => false
theorem listHas_is {P : Params} {h : Heap} {a : Addr} {ok : Array Value → Bool} (K : (hdK P).In h) (e : listHas P a ok = true) : ∃ items, h.IsList a items ∧ ok items = true := by
  unfold listHas at e
  split at e
  · rename_i o ho
    rw [Bool.and_eq_true] at e
    obtain ⟨e1, e2⟩ := e
    split at e2
    · rename_i xs n hd
      exact ⟨xs, ⟨o, K _ _ ho, beq_iff_eq.mp e1, n, hd⟩, e2⟩
    · cases e2
  · cases e
def mapOk (xs : Array Value) : Bool := [103, 42, 107, 32, 233, 63, 91, 95, 122].all fun c => match (xs[c]? : Option Value) with | some (.str x _) => x == S (enc c) | _ => false
theorem map_has (P : Params) : listHas P 44 mapOk = true := by kernel_rfl
theorem mapOk_at {xs : Array Value} (h : mapOk xs = true) {c : Nat} (hc : Sz c) : ∃ t, xs[c]? = some (.str (S (enc c)) t) := by
  have hm : c ∈ [103, 42, 107, 32, 233, 63, 91, 95, 122] := by
    rcases hc with (rfl | rfl | rfl | rfl | rfl | rfl | rfl | rfl) | rfl <;> simp
  have := List.all_eq_true.mp h c hm
  split at this
  · rename_i x t e
    exact ⟨t, by rw [e, beq_iff_eq.mp this]⟩
  · cases this

section
variable {prog : Program} {w : World} {mg mb : Str → Option Value} {A : Around} {s : Shared}

theorem hmap_look (G : Gd w mg mb s.heap) {c : Nat} (hc : Sz c) {A : Around} : wpAny (model prog w) A (Builtin.Str.tableLookup (.ref 44) c) (fun r s'' => r = .text (S (enc c)) ∧ Keeps s s'') No s := by
  obtain ⟨items, hl, ok⟩ := listHas_is G.k (map_has _)
  obtain ⟨t, ht⟩ := mapOk_at ok hc
  unfold Builtin.Str.tableLookup
  refine wpAny_bind (wpAny_attempt (wpAny_bind (wpAny_mkInt ?_)))
  refine wpAny_getItem_list (s := { s with toks := s.toks + 1 }) hl (Int.natCast_nonneg c) ?_ (by simpa using ht) ?_
  · rcases hc with (rfl | rfl | rfl | rfl | rfl | rfl | rfl | rfl) | rfl <;> decide
  · exact wpAny_bind (wpAny_pure (wpAny_bind (wpAny_pure (wpAny_pure ⟨rfl, _, _, rfl, fun _ _ e => e⟩))))

theorem glued_wr (l : List Nat) : glued (fun c => S (enc c)) l = wr l := by
  unfold glued wr
  rfl

theorem enc_len (c : Nat) : (enc c).length ≤ 3 := by unfold enc; repeat' split
                                                     all_goals simp
theorem wr_len (l : List Nat) : (wr l).length ≤ 3 * l.length := by
  induction l with
  | nil => simp [wr]
  | cons c l ih => rw [wr_cons, List.length_append, List.length_cons]; have := enc_len c; (first | lia | omega)

theorem gm_translate {M : Model} {E : Value → Shared → Prop} {x : Str} {t : Tok} {pl : Sem Bool} {Q : Value × List Value → Shared → Prop} (h : Q (.builtin "str.translate", [.str x t]) s) : wpAny M A (getMethod (.str x t) "translate" pl) Q E s := by
  with_reducible exact GM.of (.str x t) (typeIs_str _ _ _) PySem.F.slot_str_translate PySem.F.type_str_translate GM.noRef h
theorem fstr_s {E : Value → Shared → Prop} {x : Str} {t : Tok} {Q : Value → Shared → Prop} (hx : x.length ≤ sizeLine) (h : ∀ u k, Q (.str x u) { s with toks := k }) :
    wpAny (model prog w) A (convS (.str x t)) (fun r s₂ => wpAny (model prog w) A (formatField r Str.empty) Q E s₂) E s :=
  wpAny_habitSame_str (wpAny_formatField_str (h _ _) (h _ _) hx) (wpAny_formatField_str (h _ _) (h _ _) hx) hx

theorem at_hmap (w : World) : nsIn (hdK w.params) mainGlobals "_QUOPRI_HEADER_MAP" = some (some (.ref 44)) := by k_is

/-- header_encode, of octets that the rows hold, with 'x' -/
theorem sp_header_encode {r : List Nat} {t u : Tok} (G : Gd w mg mb s.heap) (hd : A.depth < recursionLimit) (hr : ∀ c ∈ r, Sz c) (h0 : r ≠ []) (hl : r.length ≤ 1000) :
    wpAny (model prog w) A (call (.ref 67) [.bytes (r.map (·.toUInt8)).toArray t, .str (Str.ofString "x") u]) (After s fun v os => os = [] ∧ ∃ u, v = .str (S (word r)) u) No s := by
  refine enterK (binds := [(Str.ofString "header_bytes", .bytes (r.map (·.toUInt8)).toArray t), (Str.ofString "charset", .str (Str.ofString "x") u)]) G (by k_is) (by k_is) hd (binds_K G.k rfl (by k_is) rfl rfl rfl) (locs rfl) (fun Kf hKf L h₁ F => ?_) (by decide) rfl rfl rfl
  obtain ⟨c, cs, rfl⟩ : ∃ c cs, r = c :: cs := by
    cases r with
    | nil => exact absurd rfl h0
    | cons c cs => exact ⟨c, cs, rfl⟩
  refine wpAny_execs_cons (wpAny_If (wpAny_isTrue_Not (wpAny_isTrue_value (ld F rfl ?_))))
  refine truthy_bytes (by simp at hl ⊢; (first | lia | omega)) ?_
  have e0 : (!((((c :: cs).map (·.toUInt8)).toArray.size : Int) != 0)) = false := by simp; (first | lia | omega)
  rw [e0, if_neg Bool.false_ne_true]
  refine wpAny_execs_nil ?_
  dsimp only
  refine wpAny_execs_cons (wpAny_Assign_Name ?_)
  refine MethodCall_ (MethodCall_ (ld F rfl ?_))
  refine KBd.method ?_
  refine callWith_method1 (args_cons (Constant_str (args_nil ?_)))
  have hlen : (cs.map (·.toUInt8)).length = cs.length := by simp
  refine decode_latin (c := c.toUInt8) (cs := cs.map (·.toUInt8)) (by rw [sizeLine_eq]; simp at hl ⊢; (first | lia | omega)) (fun t' k => ?_)
  have e1 : ((c.toUInt8 :: cs.map (·.toUInt8)).map (·.toNat)) = c :: cs := by
    show ((c :: cs).map (·.toUInt8)).map (·.toNat) = c :: cs
    rw [List.map_map]
    refine map_eq_self fun x hx => ?_
    have := hr x hx
    rcases this with (rfl | rfl | rfl | rfl | rfl | rfl | rfl | rfl) | rfl <;> rfl
  rw [e1]
  refine gm_translate ?_
  refine callWith_method1 (args_cons ?_)
  refine nmG G F.keep (at_hmap w) (args_nil ?_)
  have hw := wr_len (c :: cs)
  refine useN F News.nil (str_translate (fun c => S (enc c)) (fun c => .text (S (enc c))) (fun _ _ => .inl rfl) (fun d hd s' x => hmap_look (G.ext (Ext.trans F.keep x)) (hr d hd)) ?_) ?_
  · rw [glued_wr, sizeLine_eq]; simp at hl hw ⊢; (first | lia | omega)
  rintro v os h₂ tk₂ x₂ F₂ N₂ ⟨rfl, u₂, rfl⟩
  rw [glued_wr]
  refine st F₂ (fun h₃ F₃ => ?_)
  dsimp only
  refine wpAny_execs_cons (wpAny_Return_some (JoinedStr_many ?_))
  have z (y : Str) : y.length ≤ 100000 → y.length ≤ sizeLine := fun h => by rw [sizeLine_eq]; (first | lia | omega)
  have hw' : (wr (c :: cs)).length ≤ 3000 := by simp at hl hw ⊢; (first | lia | omega)
  refine joinParts_cons (Constant_str ⟨by decide, ?_⟩)
  refine joinParts_cons (wpAny_FormattedValue_s (ld F₃ rfl ?_))
  refine fstr_s (by decide) (fun _ _ => ⟨by decide, ?_⟩)
  refine joinParts_cons (Constant_str ⟨by decide, ?_⟩)
  refine joinParts_cons (wpAny_FormattedValue_s (ld F₃ rfl ?_))
  have e2 : Str.empty ++ Str.ofString "=?" ++ Str.ofString "x" ++ Str.ofString "?q?" = S hdr := by decide +kernel
  rw [e2]
  have e3 : S hdr ++ S (wr (c :: cs)) = S (hdr ++ wr (c :: cs)) := by show (⟨_⟩ : Str) = _; simp
  have e4 : S (hdr ++ wr (c :: cs)) ++ Str.ofString "?=" = S (word (c :: cs)) := by
    rw [show Str.ofString "?=" = S [63, 61] by decide +kernel]; show (⟨_⟩ : Str) = _; simp [word]
  refine fstr_s (z _ (by show (wr (c :: cs)).length ≤ _; (first | lia | omega))) (fun _ _ => ⟨z _ (by rw [e3]; show (hdr ++ wr (c :: cs)).length ≤ _; simp [hdr]; (first | lia | omega)), ?_⟩)
  rw [e3]
  have e5 : (S (word (c :: cs))).length ≤ 100000 := by show (word (c :: cs)).length ≤ _; simp [word, hdr]; (first | lia | omega)
  refine joinParts_cons (Constant_str ⟨z _ (by rw [e4]; exact e5), ?_⟩)
  rw [e4]
  refine joinParts_nil ?_ (z _ e5)
  dsimp only
  exact hKf _ _ (afterF F₃ News.nil [] (fun _ h => nomatch h) ⟨rfl, _, rfl⟩)
end
end Mine
end
section
open PySem PySem.W PySem.Calls PyProof.Rows
set_option maxRecDepth 100000
set_option maxHeartbeats 4000000
namespace Mine
theorem at_header_encode (w : World) : nsIn (hdK w.params) mainGlobals "header_encode" = some (some (.ref 67)) := by k_is
theorem at_bytes (w : World) : nsIn (hdK w.params) mainGlobals "bytes" = some none := by k_is
theorem at_ord (w : World) : nsIn (hdK w.params) mainGlobals "ord" = some none := by k_is
section
variable {prog : Program} {w : World} {mg mb : Str → Option Value} {A : Around} {s : Shared}

/-- a def of the text's is called -/
theorem callWith_fn {f : Addr} {env : Env} {pos : Pos} {e : Expr} {rest : List Expr} {Q E : Value → Shared → Prop} {M : Model} (K : (hdK w.params).In s.heap) (hk : keepIn (hdK w.params) (.ref f) = true)
    (h : wpAny M A (spliced (backTo pos (starEach (e :: rest) env))) (fun vs s₁ => Ext s.heap s₁.heap ∧ wpAny M A (call (.ref f) vs) Q E s₁) E s)
    (he : starEach (e :: rest) env = (false, eval e env) :: starEach rest env := by rfl) (hplain : (backTo pos (starEach rest env)).any (·.1) = false := by rfl) :
    wpAny M A (callWith pos (.ref f) [] (backTo pos (starEach (e :: rest) env)) []) Q E s :=
  callWith_K K hk (wpAny_mono h (fun _ _ q => ⟨K.keeps q.1, q.2⟩) fun _ _ q => q) he hplain

theorem keep_header_encode (w : World) : keepIn (hdK w.params) (.ref 67) = true := by k_is

/-- the signs met are the text's -/
theorem signs_eq {vs : List Value} {r : List Nat} (hl : vs.length = (S r).cps.size) (hP : ∀ (j : Nat) (v : Value), vs[j]? = some v → SignAt (S r) j v) : ∃ ts : List Tok, ts.length = r.length ∧ vs = (r.zip ts).map fun p => .str ⟨#[p.1]⟩ p.2 := by
  have hl : vs.length = r.length := by simpa using hl
  induction r generalizing vs with
  | nil => exact ⟨[], rfl, List.length_eq_zero_iff.mp hl⟩
  | cons c r ih =>
    cases vs with
    | nil => simp at hl
    | cons v vs =>
      obtain ⟨c', u, e, rfl⟩ := hP 0 v rfl
      have e : c = c' := by simpa using e
      subst e
      obtain ⟨ts, h1, h2⟩ := ih (vs := vs) (by simpa using hl) (fun j v h => by
        obtain ⟨c', u, e, rfl⟩ := hP (j + 1) v (by simpa using h)
        exact ⟨c', u, by simpa using e, rfl⟩) (by simpa using hl)
      exact ⟨u :: ts, by simp [h1], by rw [h2]; rfl⟩

theorem ints_of {r : List Nat} {vs : List Value} {zs : List (Value × List (Addr × Obj))} (hv : ∀ j v, vs[j]? = some v → SignAt (S r) j v) (hl : vs.length = (S r).cps.size)
    (h : Paired (fun v (z : Value × List (Addr × Obj)) => (∀ (c : Nat) t, v = .str ⟨#[c]⟩ t → ∃ u, z.1 = .int c u) ∧ z.2 = []) vs zs) : IntsAre (zs.map (·.1)) (r.map fun (c : Nat) => (c : Int)) ∧ zs.flatMap (·.2) = [] := by
  obtain ⟨ts, h1, rfl⟩ := signs_eq hl hv
  clear hl hv
  induction r generalizing ts zs with
  | nil => cases h; exact ⟨.nil, rfl⟩
  | cons c r ih =>
    cases ts with
    | nil => simp at h1
    | cons t ts =>
      cases h with
      | cons e h =>
        rename_i z zs'
        obtain ⟨e1, e2⟩ := ih ts (by simpa using h1) h
        obtain ⟨u, e3⟩ := e.1 c t rfl
        refine ⟨?_, by rw [List.flatMap_cons, e2, e.2]; rfl⟩
        rw [List.map_cons, List.map_cons, e3]
        exact .cons _ _ e1

/-- _law_word -/
theorem sp_word {r : List Nat} {t : Tok} (G : Gd w mg mb s.heap) (hh : A.handled = none) (hd : A.depth + 1 < recursionLimit) (hr : ∀ c ∈ r, Sz c) (h0 : r ≠ []) (hl : r.length ≤ 1000) :
    wpAny (model prog w) A (call (.ref 168) [.str (S r) t]) (After s fun v os => os = [] ∧ ∃ u, v = .str (S (word r)) u) No s := by
  refine enterK (binds := [(Str.ofString "row", .str (S r) t)]) G (by k_is) (by k_is) (by (first | lia | omega)) (BindsTo.of_eq rfl) (locs rfl) (fun Kf hKf L h₁ F => ?_) (by decide) rfl rfl rfl
  have G₁ := G.ext F.keep
  refine wpAny_execs_cons (wpAny_Return_some (Call_ (nmG G F.keep (at_header_encode w) (callWith_fn G₁.k (keep_header_encode w) (args_cons ?_)))))
  refine Call_ (nmB G F.keep (at_bytes w) rfl (by decide) (PyProof.Rows.callWith_type1 (args_cons ?_)))
  refine comp (cl := []) rfl (by decide) rfl (by decide) rfl ?_
  refine ld F rfl ?_
  refine ⟨_, _, (fun v => true), (fun v y os => (∀ (c : Nat) t, v = .str ⟨#[c]⟩ t → ∃ u, y = .int c u) ∧ os = []), iters_str hh, ?_, ?_, ?_, ?_⟩
  · rw [sizeLine_eq]; simp; (first | lia | omega)
  · intro C i v s₂ m₂ hP hn hm hx hC
    exact tests0
  · intro C i v s₂ m₂ hP hp hn hm hx hC
    obtain ⟨c, u, -, rfl⟩ := hP
    refine Call_ (nmB G₁ hx (at_ord w) rfl (by decide) (callWith_builtin1 (args_cons (nmL hn hm (args_nil ?_)))))
    exact P.ord_of_char (afterI [] (Ext.refl _) made0 ⟨fun c' t' e => by cases e; exact ⟨_, rfl⟩, rfl⟩)
  · intro D h' tk vs zs k hlen hP hF made hx
    have hall : vs.filter (fun _ => true) = vs := List.filter_eq_self.mpr fun _ _ => rfl
    rw [hall] at hF
    obtain ⟨hi, he⟩ := ints_of hP hlen hF
    rw [he] at made
    have hD := (made _ (.head _)).2
    have F' := F.keeps hx
    have hzl : (zs.map (·.1)).length = r.length := by rw [hi.length]; simp
    refine args_nil ?_
    dsimp only
    refine call_bytes_ints ⟨_, hD, rfl, _, rfl⟩ hi ?_ (by rw [hzl, sizeLine_eq]; (first | lia | omega)) hh (fun h₂ t₂ k₂ x₂ => ?_)
    · intro n hn
      obtain ⟨c, hc, rfl⟩ := List.mem_map.mp hn
      rcases hr c hc with (rfl | rfl | rfl | rfl | rfl | rfl | rfl | rfl) | rfl <;> decide
    have F₂ := F'.keeps x₂
    refine args_cons (Constant_str (args_nil ⟨Ext.trans hx x₂, ?_⟩))
    have eb : byteArr (r.map fun (c : Nat) => (c : Int)) = (r.map (·.toUInt8)).toArray := by simp [byteArr]
    rw [eb]
    dsimp only
    refine useN F₂ News.nil (sp_header_encode (G.ext F₂.keep) (by exact hd) hr h0 hl) ?_
    rintro v os h₃ tk₃ x₃ F₃ N₃ ⟨rfl, u, rfl⟩
    exact hKf _ _ (afterF F₃ News.nil [] (fun _ h => nomatch h) ⟨rfl, u, rfl⟩)
end
end Mine
end
section
open PySem PySem.W PySem.Calls PyProof.Rows
set_option maxRecDepth 100000
set_option maxHeartbeats 4000000
namespace Mine
section
variable {prog : Program} {w : World} {mg mb : Str → Option Value} {A : Around} {s : Shared}

/-- a def that holds cells is entered -/
theorem enterC {R : Value → List (Addr × Obj) → Prop} {name qual : Str} {params : Arguments} {body : List Stmt} {scope : Scope} {dV kV doc pm cdv ct oc : Value} {an od : Option Addr} {osl : Array (Option Value)} {f : Addr}
    {vs : List Value} {kw : List (Str × Value)} {binds : List (Str × Value)}
    (G : Gd w mg mb s.heap) (ho : (hdK w.params).lookup f = some ⟨oc, od, .func (fnOf name qual params body scope dV kV doc pm an cdv ct), osl⟩) (hcd : codeIn (hdK w.params) cdv qual = true) (hd : A.depth < recursionLimit)
    (hbind : BindsTo s (fnOf name qual params body scope dV kV doc pm an cdv ct) ⟨vs, kw⟩ binds) (hkind : (binds.all fun y => scope.names.lookup y.1 == some .local || scope.names.lookup y.1 == some .cell) = true)
    (hnd : ((cellsFrom 0 scope.names []).map (·.1)).Nodup)
    (h : ∀ L h₁ tk cells, Fr s.heap L h₁ (bindL (envOfC qual scope L f cdv).kindOf binds fun _ => none) → News s.heap L h₁ cells →
      CellsAre (bindC (envOfC qual scope L f cdv).kindOf binds fun _ => none) (cellsFrom (L + 1) scope.names []) cells → wpAny (model prog w) (A.deeper (envOfC qual scope L f cdv)) (execs body (envOfC qual scope L f cdv))
      (fun fl s' => After s R (match fl with | .ret v => v | _ => .none) s') No { s with heap := h₁, toks := tk })
    (hco : scope.isCoroutine = false) (hgen : scope.isGenerator = false) (hk : scope.kind = .function) :
    wpAny (model prog w) A (call (.ref f) vs kw) (After s R) No s := by
  refine wpAny_call (codeAny_call_function (fd := fnOf name qual params body scope dV kV doc pm an cdv ct) hd (G.k _ _ ho) rfl hco hgen rfl (codeRec_of G.k hcd) (hbind _ _ _ _ ?_))
  refine wpAny_newFunctionEnv_cells hk (kindsX hkind _) fun env' he s' x => ?_
  subst he
  refine ⟨G.lim.keeps x.toInCall.keep, codeAny_func ?_⟩
  obtain ⟨h₁, tk, rfl, _⟩ := x.done
  have hk₁ := x.toInCall.keep
  obtain ⟨cells, NC, Y⟩ := Cl.news (h₀ := s.heap) (Nat.le_refl _) fun n c hm => ⟨x.cell n c (lookup_of_mem_nodup (cellsFrom_names scope.names 0 (s.heap.objs.size + 1) [] [] rfl ▸ hnd) hm), x.above n c hm⟩
  exact wpAny_mono (h s.heap.objs.size h₁ tk cells ⟨x.toInCall.ns, hk₁, Nat.le_refl _⟩ NC Y) (fun _ _ q => q) fun _ _ q => q.elim

/-- the same, the end wanted a variable -/
theorem enterCK {R : Value → List (Addr × Obj) → Prop} {name qual : Str} {params : Arguments} {body : List Stmt} {scope : Scope} {dV kV doc pm cdv ct oc : Value} {an od : Option Addr} {osl : Array (Option Value)} {f : Addr}
    {vs : List Value} {kw : List (Str × Value)} {binds : List (Str × Value)}
    (G : Gd w mg mb s.heap) (ho : (hdK w.params).lookup f = some ⟨oc, od, .func (fnOf name qual params body scope dV kV doc pm an cdv ct), osl⟩) (hcd : codeIn (hdK w.params) cdv qual = true) (hd : A.depth < recursionLimit)
    (hbind : BindsTo s (fnOf name qual params body scope dV kV doc pm an cdv ct) ⟨vs, kw⟩ binds) (hkind : (binds.all fun y => scope.names.lookup y.1 == some .local || scope.names.lookup y.1 == some .cell) = true)
    (hnd : ((cellsFrom 0 scope.names []).map (·.1)).Nodup)
    (h : ∀ (K : Flow → Shared → Prop), (∀ v s', After s R v s' → K (.ret v) s') → ∀ L h₁ tk cells, Fr s.heap L h₁ (bindL (envOfC qual scope L f cdv).kindOf binds fun _ => none) → News s.heap L h₁ cells →
      CellsAre (bindC (envOfC qual scope L f cdv).kindOf binds fun _ => none) (cellsFrom (L + 1) scope.names []) cells → wpAny (model prog w) (A.deeper (envOfC qual scope L f cdv)) (execs body (envOfC qual scope L f cdv))
      K No { s with heap := h₁, toks := tk })
    (hco : scope.isCoroutine = false) (hgen : scope.isGenerator = false) (hk : scope.kind = .function) :
    wpAny (model prog w) A (call (.ref f) vs kw) (After s R) No s :=
  enterC G ho hcd hd hbind hkind hnd (fun L h₁ tk cells F N Y => h _ (fun _ _ x => x) L h₁ tk cells F N Y) hco hgen hk

/-- a for loop in which nothing is raised, what is wanted behind a turn a variable -/
theorem forLoopK {R : Result → Shared → Prop} {target : Expr} {it : Value} {body : List Stmt} {env : Env} (I : Nat → Shared → Prop)
    (turn : ∀ (P : Option Value → Shared → Prop) (X : Flow → Shared → Prop) n s, I n s → (∀ s₁, R (.ok .next) s₁ → P none s₁) → (∀ v s₁, wpAny (model prog w) A (assign target env v) (fun _ s₂ => wpAny (model prog w) A (execs body env) X No s₂) No s₁ → P (some v) s₁) →
      (∀ m s₃, m < n → I m s₃ → X .next s₃) → wpAny (model prog w) A (pyNext it) P No s)
    (n : Nat) (h : I n s) (ht : ∀ v, letOwnedTupleGo target it v = pure () := by intro _; rfl) : codeAny (model prog w) A (.forLoop target it body [] env) R s := by
  refine codeAny_forLoop I (fun n s hI => ?_) n h ht
  refine wpAny_mono (turn (fun r s₁ => match r with
      | none => R (.ok .next) s₁
      | some v => wpAny (model prog w) A (assign target env v) (fun _ s₂ => wpAny (model prog w) A (execs body env) (fun f s₃ => f = .next ∧ ∃ m, m < n ∧ I m s₃) No s₂) No s₁) (fun f s₃ => f = .next ∧ ∃ m, m < n ∧ I m s₃) n s hI (fun _ x => x) (fun _ _ x => x) (fun m _ a b => ⟨rfl, m, a, b⟩)) (fun r s₁ h => ?_) fun _ _ e => e.elim
  cases r with
  | none => exact wpAny_execs_nil h
  | some v =>
    refine wpAny_mono h (fun _ s₂ h => wpAny_mono h (fun f s₃ h => ?_) fun _ _ e => e.elim) fun _ _ e => e.elim
    obtain ⟨rfl, x⟩ := h
    exact x

/-- a while loop without an else part, in which nothing is raised -/
theorem whileOk {test : Expr} {body : List Stmt} {pos : Pos} {env : Env} {Q : Flow → Shared → Prop} {E : Value → Shared → Prop} (I : Nat → Shared → Prop)
    (turn : ∀ n s, I n s → wpAny (model prog w) A (isTrue test env (eval test env)) (fun b s₂ => if b = true then wpAny (model prog w) A (execs body env) (fun f s₃ => match f with
            | .next | .cont => ∃ m, m < n ∧ I m s₃
            | .brk => Q .next s₃
            | .ret v => Q (.ret v) s₃) No s₂
        else Q .next s₂) No s)
    (n : Nat) (h : I n s) : wpAny (model prog w) A (exec (.While test body [] pos) env) Q E s := by
  refine wpAny_While (codeAny_whileLoop I (fun n s hI => wpAny_mono (turn n s hI) (fun b s₂ hb => ?_) fun _ _ e => e.elim) n h)
  cases b with
  | false =>
    rw [if_neg Bool.false_ne_true] at hb ⊢
    exact wpAny_execs_nil hb
  | true =>
    rw [if_pos rfl] at hb ⊢
    refine wpAny_mono hb (fun f s₃ hf => ?_) fun _ _ e => e.elim
    cases f <;> exact hf
/-- the same, all that is wanted behind a turn a variable -/
theorem whileK {test : Expr} {body : List Stmt} {pos : Pos} {env : Env} {Q : Flow → Shared → Prop} {E : Value → Shared → Prop} (I : Nat → Shared → Prop)
    (turn : ∀ (B : Bool → Shared → Prop) (X : Flow → Shared → Prop) n s, I n s → (∀ s₂, wpAny (model prog w) A (execs body env) X No s₂ → B true s₂) → (∀ s₂, Q .next s₂ → B false s₂) →
      (∀ m s₃, m < n → I m s₃ → X .next s₃) → (∀ m s₃, m < n → I m s₃ → X .cont s₃) → (∀ s₃, Q .next s₃ → X .brk s₃) →
      wpAny (model prog w) A (isTrue test env (eval test env)) B No s)
    (n : Nat) (h : I n s) : wpAny (model prog w) A (exec (.While test body [] pos) env) Q E s :=
  whileOk I (fun n s hI => turn _ (fun f s₃ => match f with
            | .next | .cont => ∃ m, m < n ∧ I m s₃
            | .brk => Q .next s₃
            | .ret v => Q (.ret v) s₃) n s hI (fun s₂ h => by rw [if_pos rfl]; exact h) (fun s₂ h => by rw [if_neg Bool.false_ne_true]; exact h) (fun m _ a b => ⟨m, a, b⟩) (fun m _ a b => ⟨m, a, b⟩) (fun _ x => x)) n h
end
end Mine
end
section
open PySem PySem.W PySem.Calls PyProof.Rows
set_option maxRecDepth 100000
set_option maxHeartbeats 4000000
namespace Mine
section
variable {prog : Program} {w : World} {mg mb : Str → Option Value} {A : Around} {s : Shared}

def toldD : List (PyData × PyData) := [(.str " ", .str "_"), (.str "é", .str "=E9"), (.str "?", .str "=3F"), (.str "[", .str "=5B"), (.str "_", .str "=5F")]
theorem told_at {c : Nat} (hc : Sg c) : (PySem.Spec.lookup (PyData.str ⟨#[c]⟩) toldD).getD (PyData.str ⟨#[c]⟩) = .str (S (enc c)) := by
  rcases hc with rfl | rfl | rfl | rfl | rfl | rfl | rfl | rfl <;> kernel_rfl

theorem swapsDict {ks : List (Option Expr)} {vs : List Expr} {p : Pos} {t : Option Expr} {l : Nat} {env : Env} : swapsWith (.Dict ks vs p) t l env = pure false := rfl

theorem strs_of {r : List Nat} {f : Nat → List Nat} {vs : List Value} {zs : List (Value × List (Addr × Obj))} (hv : ∀ j v, vs[j]? = some v → SignAt (S r) j v) (hl : vs.length = (S r).cps.size)
    (h : Paired (fun v (z : Value × List (Addr × Obj)) => (∀ (c : Nat) t, c ∈ r → v = .str ⟨#[c]⟩ t → ∃ u, z.1 = .str (S (f c)) u) ∧ z.2 = []) vs zs) : StrsAre (zs.map (·.1)) (r.map fun c => S (f c)) ∧ zs.flatMap (·.2) = [] := by
  obtain ⟨ts, h1, rfl⟩ := signs_eq hl hv
  clear hl hv
  induction r generalizing ts zs with
  | nil => cases h; exact ⟨.nil, rfl⟩
  | cons c r ih =>
    cases ts with
    | nil => simp at h1
    | cons t ts =>
      cases h with
      | cons e h =>
        rename_i z zs'
        obtain ⟨e1, e2⟩ := ih ts (by simpa using h1) (paired_imp h fun v z hz => ⟨fun c t hc e => hz.1 c t (List.mem_cons_of_mem _ hc) e, hz.2⟩)
        obtain ⟨u, e3⟩ := e.1 c t (.head _) rfl
        refine ⟨?_, by rw [List.flatMap_cons, e2, e.2]; rfl⟩
        rw [List.map_cons, List.map_cons, e3]
        exact .cons _ _ e1

theorem sum_le {f : Nat → List Nat} {k : Nat} (hf : ∀ c, (f c).length ≤ k) (r : List Nat) : ((r.map fun c => S (f c)).map (·.length)).sum ≤ k * r.length := by
  induction r with
  | nil => simp
  | cons c r ih =>
    have h := hf c
    have e : (S (f c)).length = (f c).length := by show (f c).toArray.size = _; simp
    rw [List.map_cons, List.map_cons, List.sum_cons, List.length_cons, e, Nat.mul_succ]
    (first | lia | omega)
theorem join_flat (r : List Nat) (f : Nat → List Nat) : Txt.join (Str.ofString "") (r.map fun c => S (f c)) = S (r.flatMap f) := by
  have e0 : Txt.join (Str.ofString "") (r.map fun c => S (f c)) = Str.join (Str.ofString "") (r.map fun c => S (f c)) := StrLaws.glued_eq_join _ _
  rw [e0]
  have e3 : Str.ofString "" = S [] := by decide +kernel
  rw [e3]
  clear e0
  induction r with
  | nil => rfl
  | cons c r ih =>
    rw [List.map_cons, List.flatMap_cons]
    cases r with
    | nil => show S (f c) = _; simp
    | cons d r =>
      have e : Str.join (S []) (S (f c) :: (d :: r).map fun c => S (f c)) = S (f c) ++ S [] ++ Str.join (S []) ((d :: r).map fun c => S (f c)) := by
        rw [List.map_cons, Str.join]; simp
      rw [e, ih]
      show (⟨(f c).toArray ++ #[] ++ _⟩ : Str) = _
      simp

theorem news_add {h₀ h h' : Heap} {L d : Addr} {m : Str → Option Value} {news : List (Addr × Obj)} {o : Obj} (F : Fr h₀ L h m) (N : News h₀ L h news) (x : Ext h h') (hle : h.objs.size ≤ d) (hod : h'.get? d = some o) : News h₀ L h' ((d, o) :: news) := by
  refine fun p hp => ?_
  rcases List.mem_cons.mp hp with rfl | hp
  · refine ⟨hod, Nat.ne_of_gt (Nat.lt_of_lt_of_le F.ns.lt hle), ?_⟩
    cases e : h₀.get? d with
    | none => rfl
    | some o => exact absurd (Heap.lt_size (F.keep _ _ e)) (Nat.not_lt.mpr hle)
  · exact N.grown x p hp

/-- _law_written -/
theorem sp_written {r : List Nat} {t : Tok} (G : Gd w mg mb s.heap) (hh : A.handled = none) (hd : A.depth < recursionLimit) (hr : ∀ c ∈ r, Sg c) (hl : r.length ≤ 1000) :
    wpAny (model prog w) A (call (.ref 173) [.str (S r) t]) (After s fun v os => os = [] ∧ ∃ u, v = .str (S (wr r)) u) No s := by
  refine enterCK (binds := [(Str.ofString "row", .str (S r) t)]) G (by k_is) (by k_is) hd (BindsTo.of_eq rfl) (by rfl) (by decide) (fun Kf hKf L h₁ tk cells F N Y => ?_) rfl rfl rfl
  obtain ⟨o, rfl, ho⟩ := Y.one
  have G₁ := G.ext F.keep
  refine wpAny_execs_cons ?_
  with_reducible refine wpAny_Assign_Name ?_ swapsDict
  refine Dict_lits_str (D := toldD) ?a1 ?a2 ?a3 ?a4 ?a5 ?a6 ?a7 ?_
  case a1 => exact rfl
  case a2 => exact rfl
  case a3 => decide +kernel
  case a4 => exact rfl
  case a5 => exact rfl
  case a6 => decide
  case a7 => decide
  intro d od h₂ tk₂ hle hod T x₂
  dsimp only at hle x₂ ⊢
  have F₂ := F.keeps x₂
  have N₂ := news_add F N x₂ hle hod
  have hLd : L + 1 < d := Nat.lt_of_lt_of_le (Heap.lt_size (N _ (.head _)).1) hle
  have hds : (d == sysModules) = false := beq_eq_false_iff_ne.mpr (fun e => by rw [e] at hLd; exact absurd hLd (Nat.not_lt.mpr (Nat.le_add_left 1 L)))
  refine storeX_C F₂ N₂ ?b1 (.tail (Nat.ne_of_gt hLd) (.head (fun _ h => nomatch h))) ho ?_ ?b2 ?b3
  case b1 => exact rfl
  case b2 => exact rfl
  case b3 => exact rfl
  intro h₃ o₃ F₃ N₃ ho₃
  dsimp only at N₃ ⊢
  refine wpAny_execs_cons ?_
  with_reducible refine wpAny_Return_some ?_
  refine MethodCall_ ?_
  with_reducible refine Constant_str ?_
  with_reducible refine GM.join ?_
  refine callWith_method1 (args_cons ?_)
  refine comp (cl := [(Str.ofString "told", L + 1)]) rfl (by decide) rfl (by decide) rfl ?_
  refine nameX_L F₃ rfl ?_
  refine ⟨_, _, (fun v => true), (fun v y os => (∀ (c : Nat) t, c ∈ r → v = .str ⟨#[c]⟩ t → ∃ u, y = .str (S (enc c)) u) ∧ os = []), iters_str hh, ?_, ?_, ?_, ?_⟩
  · rw [sizeLine_eq]; simp; (first | lia | omega)
  · intro C i v s₂ m₂ hP hn hm hx hC
    exact tests0
  · intro C i v s₂ m₂ hP hp hn hm hx hC
    obtain ⟨c, u, hc, rfl⟩ := hP
    have hcr : c ∈ r := List.mem_of_getElem? (by simpa using hc)
    obtain ⟨kvs, T1, T2⟩ := T
    have Td : StrTab prog w s₂.heap d toldD := TabAt.ofObj hds (hx _ _ (N₃.get (.head _))) T1 T2
    have hcell := hx _ _ (N₃.get (.tail _ (.head _)))
    refine MethodCall_ ?_
    refine nmF (c := L + 1) rfl hcell ho₃ ?_
    refine getMethod_strTab_get Td ?_
    refine callWith_method1 (args_cons (nmL hn hm (args_cons (nmL hn hm (args_nil ?_)))))
    refine call_get2_strTab Td (.str _ _) fun v hv => ?_
    rw [told_at (hr c hcr)] at hv
    obtain ⟨t', rfl⟩ := hv.str_inv
    exact afterI [] (Ext.refl _) made0 ⟨fun c' t'' hc' e => by cases e; exact ⟨_, rfl⟩, rfl⟩
  · intro D h' tk vs zs k hlen hP hF made hx
    have hall : vs.filter (fun _ => true) = vs := List.filter_eq_self.mpr fun _ _ => rfl
    rw [hall] at hF
    obtain ⟨hi, he⟩ := strs_of hP hlen hF
    rw [he] at made
    have hD := (made _ (.head _)).2
    have F' := F₃.keeps hx
    refine args_nil ?_
    dsimp only
    refine join_listW (items := (zs.map (·.1)).toArray) ⟨_, hD, rfl, _, rfl⟩ hi (by decide) ?_ (fun t' k' => ?_)
    · have hw := wr_len r
      have e1 := sum_le (f := enc) (k := 3) enc_len r
      have e2 : (r.map fun c => S (enc c)).length = r.length := by simp
      rw [e2]; (first | lia | omega)
    rw [join_flat]
    exact hKf _ _ (afterF F' News.nil [] (fun _ h => nomatch h) ⟨rfl, _, rfl⟩)
end
end Mine
end
section
open PySem PySem.W PySem.Calls PyProof.Rows
set_option maxRecDepth 100000
set_option maxHeartbeats 4000000
namespace Mine
theorem ba_slot : Slot "method_descriptor" "__get__" "method_descriptor.__get__" :=
  .of (owner := "method_descriptor") (n := "__get__") (by rw [typeLookup_type, builtinLookup_eq_fast]; kernel_rfl) (by decide +kernel) (by decide +kernel) (by decide +kernel)
    (by first | exact .inl (by decide +kernel) | exact .inr (by decide +kernel)) (by rw [isSubtype_type]; kernel_rfl)
theorem ba_entry : entryFor table "method_descriptor.__get__" = some Builtin.«method_descriptor.__get__» := entryFor_of_tree (by kernel_rfl)
theorem ba_args (a b c : Value) : argsOk "method_descriptor.__get__" ⟨[a, b, c], []⟩ := by unfold argsOk; kernel_rfl
theorem ba_lk : typeLookup (.type "list") "append" = pure (some (.builtin "list.append")) := by rw [typeLookup_type, builtinLookup_eq_fast]; kernel_rfl
theorem ba_sub : isSubtype (.type "list") (.type (".".intercalate ("list.append".cutAt '.').dropLast)) = pure true := by
  have e0 : "list.append".cutAt '.' = ["list", "append"] := by first | rfl | decide +kernel
  rw [e0, isSubtype_type]; kernel_rfl
theorem ba_set : typeLookup (.type "method_descriptor") "__set__" = pure none := by rw [typeLookup_type, builtinLookup_eq_fast]; kernel_rfl
theorem ba_del : typeLookup (.type "method_descriptor") "__delete__" = pure none := by rw [typeLookup_type, builtinLookup_eq_fast]; kernel_rfl
theorem ba_mod : isSubtype (.type "list") (.type "module") = pure false := by rw [isSubtype_type]; kernel_rfl
theorem ba_typ : isSubtype (.type "list") (.type "type") = pure false := by rw [isSubtype_type]; kernel_rfl
theorem ba_va : (Manifest.varargsMethods.contains "list.append" || false) = false := by decide +kernel
theorem ba_bound (a v : Value) : Bind.checkArgs "list.append" { machinery := Manifest.Machinery.oneArg, full := toString (Bind.lastOf "list") ++ toString "." ++ toString (Bind.lastOf "list.append"), short := "append", receiver := Manifest.Receiver.self, params := [{ name := "object", kind := Manifest.ParamKind.posOnly, required := true }] } ⟨[a, v], []⟩ = pure () := by kernel_rfl
abbrev appObj (D : Addr) : Obj := { cls := .type "builtin_function_or_method", data := .fields #[.builtin "list.append", .ref D] }
section
variable {prog : Program} {w : World} {A : Around} {E : Value → Shared → Prop} {h : Heap} {g : Array GenState} {d : Drawn} {t : Nat} {os : OsState} {a : Addr} {o : Obj}
theorem app_get {R : Result → Shared → Prop} (hx : h.get? a = some o) (hc : o.cls = .type "list") (hq : R (.ok (.ret (.ref h.objs.size))) ⟨h.push (appObj a), g, d, t, os⟩) :
    codeAny (model prog w) A (.call (.builtin "method_descriptor.__get__") ⟨[.builtin "list.append", .ref a, .type "list"], []⟩) R ⟨h, g, d, t, os⟩ := by
  have hT : (⟨h, g, d, t, os⟩ : Shared).TypeIs (.ref a) "list" := ⟨_, hx, hc⟩
  have hT5 : (⟨h, g, d, t, os⟩ : Shared).TypeIs (.builtin "list.append") "method_descriptor" := PySem.F.type_list_append
  refine codeAny_call_builtin ba_slot.plain ba_entry (ba_slot.check _ _ _ _ _ _ _ _ hT5 (ba_args _ _ _) ?_)
  have f8 := ba_sub
  unfold Builtin.«method_descriptor.__get__»
  repeat (any_goals (first | assumption | wp_step))
variable {xs : Array Value} {k : Nat} {sl : Array (Option Value)}
theorem app_entry {tk : Tok} {Q : Fin → Shared → Prop} (hx : h.get? a = some { cls := .type "list", dict := none, data := .seq xs k, slots := sl }) (hq : Q (.done (.ret (.ref h.objs.size))) ⟨h.push (appObj a), g, d, t, os⟩) :
    wpAny (model prog w) A (Builtin.«object.__getattribute__» ⟨[.ref a, .str "append" tk], []⟩) Q E ⟨h, g, d, t, os⟩ := by
  have hT : (⟨h, g, d, t, os⟩ : Shared).TypeIs (.ref a) "list" := ⟨_, hx, rfl⟩
  have hT5 : (⟨h, g, d, t, os⟩ : Shared).TypeIs (.builtin "list.append") "method_descriptor" := PySem.F.type_list_append
  have f4 := ba_lk
  have f5 := PySem.F.type_list_append
  have f6 := ba_slot.lookup
  have f7 := ba_set
  have f8 := ba_del
  repeat (any_goals (first | assumption | wp_step))
  refine app_get hx rfl ?_
  repeat (any_goals (first | assumption | wp_step))
theorem app_call {tk : Tok} {R : Result → Shared → Prop} (hx : h.get? a = some { cls := .type "list", dict := none, data := .seq xs k, slots := sl }) (hq : R (.ok (.ret (.ref h.objs.size))) ⟨h.push (appObj a), g, d, t, os⟩) :
    codeAny (model prog w) A (.call (.builtin "list.__getattribute__") ⟨[.ref a, .str "append" tk], []⟩) R ⟨h, g, d, t, os⟩ :=
  codeAny_call_builtin PySem.F.slot_list_getattribute.plain PySem.F.entry_list_ga (PySem.F.slot_list_getattribute.check _ _ _ _ _ _ _ _ (show (⟨h, g, d, t, os⟩ : Shared).TypeIs (.ref a) "list" from ⟨_, hx, rfl⟩) (PySem.F.args_list_getattribute_2 _ _) (app_entry hx hq))
theorem app_attr {Q : Value → Shared → Prop} (hx : h.get? a = some { cls := .type "list", dict := none, data := .seq xs k, slots := sl }) (hq : Q (.ref h.objs.size) ⟨h.push (appObj a), g, d, t + 1, os⟩) : wpAny (model prog w) A (getAttr (.ref a) "append" true) Q E ⟨h, g, d, t, os⟩ := by
  have hT : ∀ t, (⟨h, g, d, t, os⟩ : Shared).TypeIs (.ref a) "list" := fun _ => ⟨_, hx, rfl⟩
  have f2 := PySem.F.slot_list_getattribute.lookup
  have f3 := PySem.F.slot_list_getattribute.bind (.ref a)
  unfold getAttr getAttrBy
  repeat (any_goals (first | assumption | exact hT _ | wp_step))
  refine app_call hx ?_
  repeat (any_goals (first | assumption | wp_step))
end
section
variable {prog : Program} {w : World} {A : Around} {E : Value → Shared → Prop} {s : Shared} {D q : Addr} {v : Value} {env : Env} {pos : Pos}
theorem app_looks {M : Model} {h : Heap} (ho : h.get? q = some (appObj D)) : Looks M h (keeperOf (.ref q)) .machine := (Looks.ld (part := none) ho).andThen .now
theorem app_run {items : Array Value} {R : Result → Shared → Prop} (ho : s.heap.get? q = some (appObj D)) (hD : s.heap.PlainList D items)
    (h : ∀ h', h'.PlainList D (items.push v) → Heap.SameBut D s.heap h' → R (.ok (.ret .none)) { s with heap := h' }) (hsz : items.size ≤ sizeLine) : codeAny (model prog w) A (.call (.ref q) ⟨[v], []⟩) R s := by
  obtain ⟨hh, g, dr, t, os⟩ := s
  obtain ⟨k, hD⟩ := hD
  refine codeAny_of_tree ?_
  show wpAny _ _ (callAny (.ref q) _) _ _ _
  dsimp only at ho
  refine nd_load ho ?_
  have hT : (⟨hh, g, dr, t, os⟩ : Shared).TypeIs (.ref D) "list" := ⟨_, hD, rfl⟩
  show wpAny _ _ (checkBoundCall _ _ >>= _) _ _ _
  unfold checkBoundCall
  repeat (any_goals (first | assumption | wp_step))
  show wpAny _ _ (isSubtype (.type "list") (.type "module")) _ _ _
  rw [ba_mod]
  refine wpAny_pure ?_
  rw [if_neg (by rw [ba_va]; exact Bool.false_ne_true)]
  repeat (any_goals (first | assumption | wp_step))
  refine ⟨Code.quiet_builtin _ (by decide +kernel), codeAny_builtin PySem.F.entry_list_append ?_⟩
  show wpAny _ _ (updateSeq D (·.push v) >>= fun _ => ret .none) _ _ _
  refine wpAny_bind ?_
  refine wpAny_updateSeq hD rfl (wpAny_pure (h _ ⟨k + 1, ?_⟩ (Heap.SameBut.update ..)))
  rw [Heap.get?_update_self _ hD (by rw [Obj.mapSeq_push_plain]; rfl), Obj.mapSeq_push_plain]
theorem callWith_app {items : Array Value} {e : Expr} {rest : List Expr} {Q : Value → Shared → Prop}
    (h : wpAny (model prog w) A (spliced (backTo pos (starEach (e :: rest) env))) (fun vs s₁ => ∃ v items, vs = [v] ∧ s₁.heap.get? q = some (appObj D) ∧ s₁.heap.PlainList D items ∧ items.size ≤ sizeLine ∧
      ∀ h', h'.PlainList D (items.push v) → Heap.SameBut D s₁.heap h' → Q .none { s₁ with heap := h' }) E s)
    (he : starEach (e :: rest) env = (false, eval e env) :: starEach rest env := by rfl) (hplain : (backTo pos (starEach rest env)).any (·.1) = false := by rfl) :
    wpAny (model prog w) A (callWith pos (.ref q) [] (backTo pos (starEach (e :: rest) env)) []) Q E s := by
  rw [he] at h ⊢
  refine callWith_of (P := fun h => h.get? q = some (appObj D)) (by show ((false || (backTo pos (starEach rest env)).any (·.1)) || false) = false; rw [hplain]; rfl) (fun h ho => ⟨_, .inr (.inl rfl), app_looks ho⟩) (evalArgs_plain (wpAny_mono h (fun vs s₁ ⟨v, items, e, ho, hD, hsz, hQ⟩ => ?_) fun _ _ x => x))
  subst e
  exact ⟨ho, wpAny_call (app_run ho hD (fun h' a b => hQ h' a b) hsz)⟩
end
end Mine
end
section
open PySem PySem.W PySem.Calls PyProof.Rows
set_option maxRecDepth 100000
set_option maxHeartbeats 4000000
namespace Mine
theorem ob_mro : mroOf (.type "object") = pure [.type "object"] := by kernel_rfl
theorem ob_lk : typeLookup (.type "object") "__new__" = pure (some (.builtin "object.__new__")) := by rw [typeLookup_type, builtinLookup_eq_fast]; kernel_rfl
theorem called_object : TypeCalled "object" "object.__new__" "object.__init__" :=
  ⟨by decide +kernel, by decide +kernel, ⟨_, _, ob_mro⟩, madeBy_type ob_mro ob_lk (by decide +kernel), by decide +kernel, by rw [isSubtype_type]; kernel_rfl, PySem.F.slot_object_init⟩
theorem ob_type : checkTypeCall "object" ⟨[], []⟩ = pure () := by kernel_rfl
theorem ob_newCall : checkBuiltinCall "object.__new__" ⟨[.type "object"], []⟩ = pure () := by kernel_rfl
theorem ob_entry : entryFor table "object.__new__" = some Builtin.«object.__new__» := entryFor_of_tree (by kernel_rfl)
theorem ob_plain : plainId "object.__new__" = true := by decide +kernel
theorem ob_init : entryFor table "object.__init__" = some Builtin.«object.__init__» := entryFor_of_tree (by kernel_rfl)
theorem ob_body : Builtin.«object.__new__» ⟨[.type "object"], []⟩ = (do let v ← newObj (.type "object") .plain none; ret v) := by kernel_rfl
section
variable {prog : Program} {w : World} {A : Around} {E : Value → Shared → Prop} {s : Shared}
abbrev bareObj : Obj := { cls := .type "object", data := .plain }
theorem code_object_new {Q₁ : Value → Shared → Prop} (h : Q₁ (.ref s.heap.objs.size) { s with heap := s.heap.push bareObj }) :
    codeAny (model prog w) A (.call (.builtin "object.__new__") ⟨[.type "object"], []⟩) (wants Q₁ E) s := by
  refine codeAny_of_tree ?_
  show wpAny _ A.in1 (do checkBuiltinCall "object.__new__" ⟨[.type "object"], []⟩; again (.builtin "object.__new__" ⟨[.type "object"], []⟩)) _ _ s
  refine wpAny_bind (wpAny_of_eq ob_newCall (wpAny_pure ⟨plainId_quiet ob_plain _, codeAny_builtin ob_entry ?_⟩))
  rw [Around.under_plainId ob_plain _]
  obtain ⟨hp, g, d, tk, os⟩ := s
  rw [ob_body]
  refine wpAny_bind (wpAny_newObj_type (wpAny_pure ?_))
  exact h
theorem call_object {Q : Value → Shared → Prop} (h : Q (.ref s.heap.objs.size) { s with heap := s.heap.push bareObj }) : wpAny (model prog w) A (call (.type "object") []) Q E s := by
  refine callType_codes (Q₁ := fun v s₁ => v = .ref s.heap.objs.size ∧ s₁ = { s with heap := s.heap.push bareObj }) called_object ob_type ob_init (code_object_new ⟨rfl, rfl⟩) ?_
  rintro _ _ ⟨rfl, rfl⟩
  refine ⟨⟨bareObj, Heap.get?_push_size _ rfl, rfl⟩, by unfold argsOk; kernel_rfl, ?_⟩
  exact wpAny_pure ⟨rfl, h⟩
end
end Mine
end
section
open PySem PySem.W PySem.Calls PyProof.Rows
set_option maxRecDepth 100000
set_option maxHeartbeats 4000000
namespace Mine
noncomputable def dictHas (P : Params) (a : Addr) (ok : Array DictEntry → Bool) : Bool := match (hdK P).lookup a with
  | some o => o.cls == .type "dict" && o.dict.isNone && o.slots.size == 0 && (match o.data with | .dict es _ => ok es | _ => false)
  | none => false
def escs : List Nat := [61, 120, 113, 103, 107, 95, 69, 57, 51, 70, 53, 66, 122]
def escOk (es : Array DictEntry) : Bool := es.all fun e => match e.key with | .int i _ => e.hash == hashInt i && !(escs.any fun c => i == (c : Int)) | _ => false
theorem esc_has (P : Params) : dictHas P 100 escOk = true := by kernel_rfl
theorem esc_map (prog : Program) (w : World) {h : Heap} (K : (hdK w.params).In h) : ∃ f, h.MapOf (intKind prog w) 100 f ∧ ∀ c ∈ escs, f (c : Int) = none := by
  have e := esc_has w.params
  unfold dictHas at e
  split at e
  · rename_i o ho
    simp only [Bool.and_eq_true, beq_iff_eq] at e
    obtain ⟨⟨⟨e1, e2⟩, e3⟩, e4⟩ := e
    split at e4
    · rename_i es n hd
      have key : ∀ x ∈ es, ∃ i t, x.key = .int i t ∧ x.hash = hashInt i ∧ ∀ c ∈ escs, i ≠ (c : Int) := by
        intro x hx
        have := Array.all_eq_true'.mp e4 x hx
        split at this
        · rename_i i t hk
          simp only [Bool.and_eq_true, beq_iff_eq, Bool.not_eq_true', List.any_eq_false] at this
          exact ⟨i, t, hk, this.1, fun c hc => this.2 c hc⟩
        · cases this
      refine ⟨_, ⟨o, es, n, K _ _ ho, ⟨e1, by simpa using e2, by simpa using e3⟩, hd, fun x hx => ?_, fun k => rfl⟩, fun c hc => ?_⟩
      · obtain ⟨i, t, h1, h2, _⟩ := key x hx
        exact ⟨i, by rw [h1]; simp [intKind, Value.isInt], h2⟩
      · unfold findBy
        rw [Option.map_eq_none_iff, Array.find?_eq_none]
        intro x hx
        obtain ⟨i, t, h1, _, h3⟩ := key x hx
        rw [h1]
        have := h3 c hc
        simp [intKind, Value.isInt]
        (first | lia | omega)
    · cases e4
  · cases e

theorem at_isinstance (w : World) : nsIn (hdK w.params) mainGlobals "isinstance" = some none := by k_is
theorem at_str (w : World) : nsIn (hdK w.params) mainGlobals "str" = some none := by k_is
theorem at_special (w : World) : nsIn (hdK w.params) mainGlobals "_special_chars_map" = some (some (.ref 100)) := by k_is
theorem at_escape (w : World) : nsIn (hdK w.params) mainGlobals "escape" = some (some (.ref 110)) := by k_is
theorem keep_escape (w : World) : keepIn (hdK w.params) (.ref 110) = true := by k_is
theorem sub_kl : isSubtype (.type "KeyError") (.type "LookupError") = pure true := by rw [isSubtype_type]; kernel_rfl
section
variable {prog : Program} {w : World} {mg mb : Str → Option Value} {A : Around} {s : Shared}
theorem esc_look (G : Gd w mg mb s.heap) (hh : A.handled = none) {c : Nat} (hc : c ∈ escs) : wpAny (model prog w) A (Builtin.Str.tableLookup (.ref 100) c) (fun r s'' => r = .keep ∧ Keeps s s'') No s := by
  obtain ⟨f, hm, hf⟩ := esc_map prog w G.k
  unfold Builtin.Str.tableLookup
  refine wpAny_bind (wpAny_attempt (wpAny_bind (wpAny_mkInt ?_)))
  refine wpAny_getItem_missing_of (knd := intKind prog w) (k := (c : Int)) (s := { s with toks := s.toks + 1 }) (by simp [intKind, Value.isInt]) (by decide) hh hm (hf c hc) (fun h' e x => ?_)
  dsimp only
  obtain ⟨ob, tt, h1, h2, h3⟩ := x.there
  unfold isInstance
  refine wpAny_bind (wpAny_bind (wpAny_typeOf (T := "KeyError") ⟨ob, h1, h2⟩ ?_))
  rw [sub_kl]
  refine wpAny_pure ?_
  rw [if_pos rfl]
  exact wpAny_bind (wpAny_rule (wpAny_pure ⟨rfl, keepsI x.keeps⟩))
theorem escs_word : ∀ c, c ∈ escs → c ≠ 42 ∧ c ≠ 63 ∧ c ≠ 91 := by decide
/-- escape, of a sign that is not special -/
theorem sp_escape {c : Nat} {t : Tok} (G : Gd w mg mb s.heap) (hh : A.handled = none) (hd : A.depth < recursionLimit) (hc : c ∈ escs) :
    wpAny (model prog w) A (call (.ref 110) [.str ⟨#[c]⟩ t]) (After s fun v os => os = [] ∧ ∃ u, v = .str ⟨#[c]⟩ u) No s := by
  refine enterK (binds := [(Str.ofString "pattern", .str ⟨#[c]⟩ t)]) G (by k_is) (by k_is) hd (BindsTo.of_eq rfl) (locs rfl) (fun Kf hKf L h₁ F => ?_) (by decide) rfl rfl rfl
  refine wpAny_execs_cons ?_
  with_reducible refine wpAny_If ?_
  refine wpAny_isTrue_value ?_
  refine Call_ (nmB G F.keep (at_isinstance w) rfl (by decide) (callWith_builtin1 (args_cons (ld F rfl (args_cons (nmB G F.keep (at_str w) rfl (by decide) (args_nil ?_)))))))
  refine IsiPair.str_str (wpAny_truthy_bool ?_)
  rw [if_pos rfl]
  refine wpAny_execs_cons ?_
  with_reducible refine wpAny_Return_some ?_
  refine MethodCall_ (ld F rfl (gm_translate ?_))
  refine callWith_method1 (args_cons (nmG G F.keep (at_special w) (args_nil ?_)))
  refine useN F News.nil (str_translate (fun c => ⟨#[c]⟩) (fun _ => .keep) (fun _ _ => .inr ⟨rfl, rfl⟩) (fun d hd s' x => ?_) (by simp [glued, sizeLine_eq])) ?_
  · have : d = c := by simpa using hd
    subst this
    exact esc_look (A := A.deeper _ |>.in1) (G.ext (Ext.trans F.keep x)) hh hc
  rintro v os h₂ tk₂ x₂ F₂ N₂ ⟨rfl, u₂, rfl⟩
  exact hKf _ _ (afterF F₂ News.nil [] (fun _ h => nomatch h) ⟨rfl, _, rfl⟩)
end
end Mine
end
section
open PySem PySem.W PySem.Calls PyProof.Rows
set_option maxRecDepth 100000
set_option maxHeartbeats 4000000
namespace Mine
section
variable {prog : Program} {w : World} {mg mb : Str → Option Value} {A : Around} {s : Shared}

theorem news_set {h₀ h h' : Heap} {L D : Addr} {m : Str → Option Value} {news : List (Addr × Obj)} {g : Obj → List (Addr × Obj)} {o o' : Obj} (F : Fr h₀ L h m) (N : News h₀ L h news) (U : UpdF D o news g) (hs : Heap.SameBut D h h') (ho' : h'.get? D = some o') :
    Fr h₀ L h' m ∧ News h₀ L h' (g o') := by
  obtain ⟨pre, post, rfl, hg, h1, h2⟩ := U.split
  have hmem := N (D, o) (List.mem_append_right _ (.head _))
  refine ⟨⟨F.ns.sameBut hs (Ne.symm hmem.2.1), fun b ob e => (hs.2 b (fun q => ?_)).trans (F.keep b ob e), F.above⟩, hg o' ▸ N.setAt h1 h2 hs ho'⟩
  rw [q, hmem.2.2] at e; cases e

inductive AddP (h₀ : Heap) (L q D : Addr) (Q : Value → Shared → Prop) (vs : List Value) (s₁ : Shared) : Prop
  | mk (v : Value) (m' : Str → Option Value) (news : List (Addr × Obj)) (l : List Value) (n : Nat) (g : Obj → List (Addr × Obj)) (e : vs = [v]) (F : Fr h₀ L s₁.heap m') (N : News h₀ L s₁.heap news) (hq : (q, appObj D) ∈ news) (U : UpdF D (listO l n) news g) (hsz : l.length ≤ sizeLine)
    (hQ : ∀ h' n', Fr h₀ L h' m' → News h₀ L h' (g (listO (l ++ [v]) n')) → Q .none { s₁ with heap := h' })
/-- add(x), where add is a list's bound append -/
theorem add_ {env : Env} {pos : Pos} {e : Expr} {rest : List Expr} {q D : Addr} {h₀ : Heap} {L : Addr} {E : Value → Shared → Prop} {Q : Value → Shared → Prop}
    (h : wpAny (model prog w) A (spliced (backTo pos (starEach (e :: rest) env))) (AddP h₀ L q D Q) E s)
    (he : starEach (e :: rest) env = (false, eval e env) :: starEach rest env := by rfl) (hplain : (backTo pos (starEach rest env)).any (·.1) = false := by rfl) :
    wpAny (model prog w) A (callWith pos (.ref q) [] (backTo pos (starEach (e :: rest) env)) []) Q E s := by
  refine callWith_app (D := D) (items := #[]) (wpAny_mono h (fun vs s₁ ⟨v, m', news, l, n, g, e, F, N, hq, U, hsz, hQ⟩ => ?_) fun _ _ x => x) he hplain
  have hD : (D, listO l n) ∈ news := by
    obtain ⟨pre, post, rfl, _⟩ := U.split
    exact List.mem_append_right _ (.head _)
  refine ⟨v, l.toArray, e, N.get hq, ⟨n, N.get hD⟩, by simpa using hsz, fun h' P hs => ?_⟩
  obtain ⟨n', hP⟩ := P
  obtain ⟨F', N'⟩ := news_set (o' := listO (l ++ [v]) n') F N U hs (by rw [hP]; simp)
  exact hQ h' n' F' N'

theorem one_eq (c d : Nat) : ((⟨#[c]⟩ : Str) == ⟨#[d]⟩) = (c == d) := by
  rw [Bool.eq_iff_iff, beq_iff_eq, beq_iff_eq]
  constructor
  · intro h; injection h with h; injection h with h; injection h
  · rintro rfl; rfl
theorem item_at {l : List Nat} {k c : Nat} (h : l[k]? = some c) : Txt.item (S l) (k : Int) = ⟨#[c]⟩ := by
  have hk : k < l.length := (List.getElem?_eq_some_iff.mp h).1
  unfold Txt.item Txt.charAt
  have e : seqIndex? (k : Int) (S l).length = some k := by
    show seqIndex? (k : Int) l.length = some k
    unfold seqIndex?
    simp
    (first | lia | omega)
  rw [e]
  simp [h]
theorem paired_snoc_inv {α β : Type} {F : α → β → Prop} {a : List α} {b : List β} (h : Paired F a b) : (a = [] ∧ b = []) ∨ ∃ a' x b' y, a = a' ++ [x] ∧ b = b' ++ [y] ∧ Paired F a' b' ∧ F x y := by
  induction h with
  | nil => exact .inl ⟨rfl, rfl⟩
  | cons e t ih =>
    rename_i x y l₁ l₂
    rcases ih with ⟨rfl, rfl⟩ | ⟨a', x', b', y', rfl, rfl, p, q⟩
    · exact .inr ⟨[], x, [], y, rfl, rfl, .nil, e⟩
    · exact .inr ⟨x :: a', x', y :: b', y', rfl, rfl, .cons e p, q⟩
/-- the last item of a list -/
theorem item_last {value slice : Expr} {a : Addr} {l : List Value} {u : Tok} {x : Value} {E Q : Value → Shared → Prop} (hl : s.heap.IsList a (l ++ [x]).toArray) (hsz : l.length < 2 ^ 62) (h : Q x s)
    (hs : subscripted slice false (.ref a) (.int (-1) u) = operate [.ref a, .int (-1) u] (getItem (.ref a) (.int (-1) u)) := by with_unfolding_all rfl) (hg : ∀ r, letTemporaryGo value (.ref a) r = pure () := by intro _; with_unfolding_all rfl) :
    wpAny (model prog w) A (subscriptTail value slice (.ref a) (.int (-1) u)) Q E s :=
  subscriptTail_builtin hl.typeIs slot_list_getitem.lookup (wpAny_getItem_list_neg hl (by decide) (by simp; (first | lia | omega)) (by decide) (by
    have e : (-1 + ((l ++ [x]).toArray.size : Int)).toNat = l.length := by simp; (first | lia | omega)
    rw [e]; simp) h) hs hg

/-- an item of the parts, as a value -/
def partV (star : Value) : Option Nat → Value → Prop
  | none, v => v = star
  | some c, v => ∃ t, v = .str ⟨#[c]⟩ t
end
end Mine
end
section
open PySem PySem.W PySem.Calls PyProof.Rows
set_option maxRecDepth 100000
set_option maxHeartbeats 4000000
namespace Mine
section
variable {prog : Program} {w : World} {mg mb : Str → Option Value} {A : Around} {s : Shared}

def PSign (c : Nat) : Prop := c = 42 ∨ c = 63 ∨ c ∈ escs

theorem star_eq : Str.ofString "*" = ⟨#[42]⟩ := by decide +kernel
theorem quest_eq : Str.ofString "?" = ⟨#[63]⟩ := by decide +kernel
theorem brack_eq : Str.ofString "[" = ⟨#[91]⟩ := by decide +kernel
theorem dot_eq : Str.ofString "." = ⟨#[46]⟩ := by decide +kernel

theorem parts_snoc (l : List Nat) (c : Nat) : parts (l ++ [c]) = addP (parts l) c := by simp [parts]

theorem parts_len (l : List Nat) : (parts l).length ≤ l.length := by
  unfold parts
  have : ∀ (l : List Nat) (acc : List (Option Nat)), (l.foldl addP acc).length ≤ acc.length + l.length := by
    intro l
    induction l with
    | nil => simp
    | cons c l ih =>
      intro acc
      rw [List.foldl_cons]
      have h1 := ih (addP acc c)
      have h2 : (addP acc c).length ≤ acc.length + 1 := by unfold addP; repeat' split
                                                           all_goals simp
      rw [List.length_cons]; (first | lia | omega)
  simpa using this l []

theorem star_self {M : Model} {star : Value} {E Q : Value → Shared → Prop} (hs : star = .none ∨ ∃ a, star = .ref a) (h : Q (.bool false) s) : wpAny M A (compareOp .IsNot star star) Q E s := by
  rcases hs with rfl | ⟨a, rfl⟩
  · exact wpAny_isNot_self rfl h
  · exact wpAny_isNot_ref_self h
theorem star_other {M : Model} {star : Value} {x : Str} {t : Tok} {E Q : Value → Shared → Prop} (hs : star = .none ∨ ∃ a, star = .ref a) (h : Q (.bool true) s) : wpAny M A (compareOp .IsNot (.str x t) star) Q E s := by
  rcases hs with rfl | ⟨a, rfl⟩
  · exact wpAny_isNot_other rfl (by intro h; cases h) h
  · exact wpAny_isNot_other rfl (by intro h; cases h) h
theorem star_is {M : Model} {star : Value} {E Q : Value → Shared → Prop} (hs : star = .none ∨ ∃ a, star = .ref a) (h : Q (.bool true) s) : wpAny M A (compareOp .Is star star) Q E s := by
  rcases hs with rfl | ⟨a, rfl⟩
  · exact wpAny_is_self rfl h
  · exact wpAny_is_ref_self h
theorem star_isnt {M : Model} {star : Value} {x : Str} {t : Tok} {E Q : Value → Shared → Prop} (hs : star = .none ∨ ∃ a, star = .ref a) (h : Q (.bool false) s) : wpAny M A (compareOp .Is (.str x t) star) Q E s := by
  rcases hs with rfl | ⟨a, rfl⟩
  · exact wpAny_is_other rfl (by intro h; cases h) h
  · exact wpAny_is_other rfl (by intro h; cases h) h

/-- where the loop of _translate stands -/
def ParseI (star : Value) (l : List Nat) (L D q : Addr) (s : Shared) (k : Nat) (s' : Shared) : Prop :=
  ∃ h' tk m vs n t1 t2 t3 t4, k ≤ l.length ∧ s' = { s with heap := h', toks := tk } ∧ Fr s.heap L h' m ∧ News s.heap L h' [(q, appObj D), (D, listO vs n)] ∧ Paired (partV star) (parts (l.take k)) vs ∧
    m "res" = some (.ref D) ∧ m "add" = some (.ref q) ∧ m "i" = some (.int k t1) ∧ m "n" = some (.int l.length t2) ∧ m "pat" = some (.str (S l) t3) ∧ m "STAR" = some star ∧ m "QUESTION_MARK" = some (.str ⟨#[46]⟩ t4)

theorem ParseI.mk {star : Value} {l : List Nat} {L D q : Addr} {s : Shared} {k : Nat} {h' : Heap} {tk : Nat} {m : Str → Option Value} {vs : List Value} {n t1 t2 t3 t4 : Nat} (hk : k ≤ l.length) (F : Fr s.heap L h' m) (N : News s.heap L h' [(q, appObj D), (D, listO vs n)]) (P : Paired (partV star) (parts (l.take k)) vs)
    (e1 : m "res" = some (.ref D)) (e2 : m "add" = some (.ref q)) (e3 : m "i" = some (.int k t1)) (e4 : m "n" = some (.int l.length t2)) (e5 : m "pat" = some (.str (S l) t3)) (e6 : m "STAR" = some star) (e7 : m "QUESTION_MARK" = some (.str ⟨#[46]⟩ t4)) :
    ParseI star l L D q s k { s with heap := h', toks := tk } := ⟨h', tk, m, vs, n, t1, t2, t3, t4, hk, rfl, F, N, P, e1, e2, e3, e4, e5, e6, e7⟩
theorem ParseI.out {star : Value} {l : List Nat} {L D q : Addr} {s s' : Shared} {k : Nat} {Z : Shared → Prop} (X : ParseI star l L D q s k s')
    (c : ∀ (h' : Heap) (tk : Nat) (m : Str → Option Value) (vs : List Value) (n t1 t2 t3 t4 : Nat), k ≤ l.length → Fr s.heap L h' m → News s.heap L h' [(q, appObj D), (D, listO vs n)] → Paired (partV star) (parts (l.take k)) vs →
      m "res" = some (.ref D) → m "add" = some (.ref q) → m "i" = some (.int k t1) → m "n" = some (.int l.length t2) → m "pat" = some (.str (S l) t3) → m "STAR" = some star → m "QUESTION_MARK" = some (.str ⟨#[46]⟩ t4) →
      Z { s with heap := h', toks := tk }) : Z s' := by
  obtain ⟨h', tk, m, vs, n, t1, t2, t3, t4, hk, rfl, F, N, P, e1, e2, e3, e4, e5, e6, e7⟩ := X
  exact c h' tk m vs n t1 t2 t3 t4 hk F N P e1 e2 e3 e4 e5 e6 e7

/-- _translate -/
theorem sp_parse {l : List Nat} {t u : Tok} {star : Value} (G : Gd w mg mb s.heap) (hh : A.handled = none) (hd : A.depth + 1 < recursionLimit) (hl : ∀ c ∈ l, PSign c) (hlen : l.length ≤ 5000) (hstar : star = .none ∨ ∃ a, star = .ref a) :
    wpAny (model prog w) A (call (.ref 117) [.str (S l) t, star, .str (Str.ofString ".") u]) (After s fun v os => ∃ D n vs, v = .ref D ∧ os = [(D, listO vs n)] ∧ Paired (partV star) (parts l) vs) No s := by
  refine enterK (binds := [(Str.ofString "pat", .str (S l) t), (Str.ofString "STAR", star), (Str.ofString "QUESTION_MARK", .str (Str.ofString ".") u)]) G (by k_is) (by k_is) (by (first | lia | omega)) (BindsTo.of_eq rfl) (locs rfl) (fun K hK L h₁ F => ?_) (by decide) rfl rfl rfl
  (refine wpAny_execs_cons ?_; with_reducible refine wpAny_Assign_Name ?_ ?as2x1; (case as2x1 => with_unfolding_all exact rfl))
  refine List_ (args_nil ?_)
  refine newList_N F News.nil (fun h₂ F N => ?_)
  refine stN F N (fun h₃ F N => ?_)
  dsimp only at F N ⊢
  (refine wpAny_execs_cons ?_; with_reducible refine wpAny_Assign_Name ?_ ?as2x2; (case as2x2 => with_unfolding_all exact rfl))
  refine Attribute_Name_ (ld F rfl ?_)
  refine app_attr (N.get (.head _)) ?_
  have F₄ := F.push (appObj h₁.objs.size)
  have N₄ := N.push F (appObj h₁.objs.size)
  refine stN F₄ N₄ (fun h₅ F N => ?_)
  dsimp only at F N ⊢
  generalize h₁.objs.size = D at F N ⊢
  generalize h₃.objs.size = q at F N ⊢
  refine wpAny_execs_cons ?_
  with_reducible refine' Assign_Tuple_swapped ?t1 ?t2 ?t3
  case t2 => with_unfolding_all exact rfl
  case t3 => with_unfolding_all exact rfl
  have hfit : ¬ ((S l).length : Int) ≥ 2 ^ 63 := by show ¬ (l.length : Int) ≥ 2 ^ 63; (first | lia | omega)
  refine Tuple_ (args_cons (wpAny_Constant_int (args_cons (Call_ (nmB G F.keep (at_len w) rfl (by decide) (callWith_builtin1 (args_cons (ld F rfl (args_nil (len_str hfit (args_nil ?_))))))))))) 
  dsimp only
  refine newTuple_N F N (fun h₆ F N => ?_)
  refine unpackItemsN_ F N (N.isTup (.head _)) hh rfl (fun h₇ F N => ?_)
  dsimp only at F N ⊢
  refine assignInOrder_cons (bindName_ (stN F N (fun h₈ F N => ?_)))
  refine assignInOrder_cons (bindName_ (stN F N (fun h₉ F N => ?_)))
  refine assignInOrder_nil ?_
  dsimp only at F N ⊢
  refine wpAny_execs_cons ?_
  refine whileK (fun n s' => ∃ k, n = l.length - k ∧ ParseI star l L D q s k s') ?_ l.length ⟨0, rfl, ?_⟩
  · rintro B X _ s' ⟨k, rfl, hI⟩ hB1 hB0 hX - -
    refine hI.out (fun h' tk m vs nn u1 u2 u3 u4 hk F N P e1 e2 e3 e4 e5 e6 e7 => ?_)
    have hqD : q ≠ D := fun e => by
      have h1 := N.get (.head _)
      have h2 := N.get (.tail _ (.head _))
      rw [e, h2] at h1
      have h3 := congrArg Obj.cls (Option.some.inj h1)
      injection h3 with h3
      exact absurd h3 (by decide)
    have hvl : vs.length ≤ 5000 := by
      have h1 := P.length
      have h2 := parts_len (l.take k)
      have h3 := List.length_take_le k l
      (first | lia | omega)
    have hvs : vs.length ≤ sizeLine := by rw [sizeLine_eq]; (first | lia | omega)
    refine wpAny_isTrue_Compare1 (ld F e3 (ld F e4 (lt_int (wpAny_truthy_bool ?_))))
    by_cases hlt : k < l.length
    · rw [decide_eq_true (by simpa using hlt)]
      refine hB1 _ ?_
      obtain ⟨c, hc⟩ : ∃ c, l[k]? = some c := ⟨_, List.getElem?_eq_getElem hlt⟩
      have hcl := hl c (List.mem_of_getElem? hc)
      have htk : parts (l.take (k + 1)) = addP (parts (l.take k)) c := by rw [← parts_snoc, List.take_add_one, hc]; rfl
      (refine wpAny_execs_cons ?_; with_reducible refine wpAny_Assign_Name ?_ ?as2x3; (case as2x3 => with_unfolding_all exact rfl))
      refine Subscript_ (ld F e5 (ld F e3 ?_))
      refine item_str (by unfold fitsSsize; simp; (first | lia | omega)) (by show -(l.length : Int) ≤ _; (first | lia | omega)) (by show _ < (l.length : Int); (first | lia | omega)) (fun _ => ?_)
      rw [item_at hc]
      refine stN F N (fun h₁₀ F N => ?_)
      dsimp only at F N ⊢
      (refine wpAny_execs_cons ?_; with_reducible refine wpAny_Assign_Name ?_ ?as2x4; (case as2x4 => with_unfolding_all exact rfl))
      refine wpAny_BinOp (ld F e3 (wpAny_Constant_int (add_int ?_)))
      refine stN F N (fun h₁₁ F N => ?_)
      dsimp only at F N ⊢
      have ek : ((k : Int) + 1) = ((k + 1 : Nat) : Int) := by (first | lia | omega)
      rw [ek] at F
      obtain ⟨m₂, Fb, e1, e2, ⟨u5, e3⟩, e4, e5, e6, e7, ⟨u6, e8⟩⟩ : ∃ m₂, Fr s.heap L h₁₁ m₂ ∧ m₂ "res" = some (.ref D) ∧ m₂ "add" = some (.ref q) ∧ (∃ u5, m₂ "i" = some (.int ((k + 1 : Nat) : Int) u5)) ∧ m₂ "n" = some (.int l.length u2) ∧ m₂ "pat" = some (.str (S l) u3) ∧ m₂ "STAR" = some star ∧ m₂ "QUESTION_MARK" = some (.str ⟨#[46]⟩ u4) ∧ ∃ u6, m₂ "c" = some (.str ⟨#[c]⟩ u6) :=
        ⟨_, F, e1, e2, ⟨_, rfl⟩, e4, e5, e6, e7, ⟨_, rfl⟩⟩
      clear F
      have F := Fb
      clear Fb
      have adv : ∀ (v : Value) (h' : Heap) (n' tk' : Nat) (p : Option Nat), parts (l.take (k + 1)) = parts (l.take k) ++ [p] → partV star p v → Fr s.heap L h' m₂ → News s.heap L h' [(q, appObj D), (D, listO (vs ++ [v]) n')] →
          X .next { s with heap := h', toks := tk' } := fun v h' n' tk' p hp hv F N =>
        hX (l.length - (k + 1)) _ (by (first | lia | omega)) ⟨k + 1, rfl, .mk hlt F N (hp ▸ P.snoc hv) e1 e2 e3 e4 e5 e6 e7⟩
      (refine wpAny_execs_cons ?_; with_reducible refine wpAny_If ?_)
      refine wpAny_isTrue_Compare1 (ld F e8 (Constant_str (eq_str (wpAny_truthy_bool ?_))))
      rw [star_eq, one_eq]
      by_cases h42 : c = 42
      · rw [if_pos (by rw [h42]; rfl)]
        rw [h42] at htk
        (refine wpAny_execs_cons ?_; with_reducible refine wpAny_If ?_)
        refine isTrue_or (wpAny_isTrue_Not (wpAny_isTrue_value (ld F e1 (wpAny_truthy_list (N.isList (.tail _ (.head _))) (by simp; (first | lia | omega)) ?_))))
        rcases paired_snoc_inv P with ⟨ep, rfl⟩ | ⟨ps, p, vs', v, ep, rfl, P', hv⟩
        · have hp : addP (parts (l.take k)) 42 = parts (l.take k) ++ [none] := by rw [ep]; rfl
          rw [if_pos (by rfl), if_pos rfl]
          refine wpAny_execs_cons ?_
          with_reducible refine' wpAny_Expr_any ?_ ?i1 ?i2
          case i1 => with_unfolding_all exact rfl
          case i2 => with_unfolding_all exact rfl
          refine Call_ (ld F e2 (add_ (args_cons (ld F e6 (args_nil ⟨_, _, _, _, _, _, rfl, F, N, .head _, .tail hqD (.head (fun _ h => nomatch h)), hvs, fun h' n' F' N' => ?_⟩)))))
          refine wpAny_execs_nil (wpAny_execs_nil (wpAny_execs_nil ?_))
          exact adv _ h' n' _ _ (htk.trans hp) rfl F' N'
        · rw [if_neg (by simp)]
          refine isTrue_or (wpAny_isTrue_Compare1 (Subscript_ (ld F e1 (UnaryOp_ (wpAny_Constant_int (PyProof.Rows.neg_int ?_))))))
          refine item_last (N.isList (.tail _ (.head _))) (by simp at hvl; (first | lia | omega)) ?_
          refine ld F e6 ?_
          cases p with
          | none =>
            have hv : v = star := hv
            rw [hv]
            have hp : addP (parts (l.take k)) 42 = parts (l.take k) := by rw [ep]; simp [addP]
            refine star_self hstar (wpAny_truthy_bool ?_)
            rw [if_neg Bool.false_ne_true]
            refine isTrue_or_nil ?_
            rw [if_neg Bool.false_ne_true]
            refine wpAny_execs_nil (wpAny_execs_nil (wpAny_execs_nil ?_))
            exact hX (l.length - (k + 1)) _ (by (first | lia | omega)) ⟨k + 1, rfl, .mk hlt F N ((htk.trans hp) ▸ P) e1 e2 e3 e4 e5 e6 e7⟩
          | some d =>
            obtain ⟨tt, rfl⟩ := hv
            have hp : addP (parts (l.take k)) 42 = parts (l.take k) ++ [none] := by rw [ep]; simp [addP]
            refine star_other hstar (wpAny_truthy_bool ?_)
            rw [if_pos rfl, if_pos rfl]
            refine wpAny_execs_cons ?_
            with_reducible refine' wpAny_Expr_any ?_ ?i1 ?i2
            case i1 => with_unfolding_all exact rfl
            case i2 => with_unfolding_all exact rfl
            refine Call_ (ld F e2 (add_ (args_cons (ld F e6 (args_nil ⟨_, _, _, _, _, _, rfl, F, N, .head _, .tail hqD (.head (fun _ h => nomatch h)), hvs, fun h' n' F' N' => ?_⟩)))))
            refine wpAny_execs_nil (wpAny_execs_nil (wpAny_execs_nil ?_))
            exact adv _ h' n' _ _ (htk.trans hp) rfl F' N'
      · rw [if_neg (by simpa using h42)]
        have hadd : addP (parts (l.take k)) c = parts (l.take k) ++ [some (if c = 63 then 46 else c)] := by
          unfold addP; rw [if_neg h42]; split <;> rfl
        rw [hadd] at htk
        (refine wpAny_execs_cons ?_; with_reducible refine wpAny_If ?_)
        refine wpAny_isTrue_Compare1 (ld F e8 (Constant_str (eq_str (wpAny_truthy_bool ?_))))
        rw [quest_eq, one_eq]
        by_cases h63 : c = 63
        · rw [if_pos (by rw [h63]; rfl)]
          rw [if_pos h63] at htk
          refine wpAny_execs_cons ?_
          with_reducible refine' wpAny_Expr_any ?_ ?i1 ?i2
          case i1 => with_unfolding_all exact rfl
          case i2 => with_unfolding_all exact rfl
          refine Call_ (ld F e2 (add_ (args_cons (ld F e7 (args_nil ⟨_, _, _, _, _, _, rfl, F, N, .head _, .tail hqD (.head (fun _ h => nomatch h)), hvs, fun h' n' F' N' => ?_⟩)))))
          refine wpAny_execs_nil (wpAny_execs_nil (wpAny_execs_nil ?_))
          exact adv _ h' n' _ _ htk ⟨_, rfl⟩ F' N'
        · rw [if_neg (by simpa using h63)]
          rw [if_neg h63] at htk
          (refine wpAny_execs_cons ?_; with_reducible refine wpAny_If ?_)
          refine wpAny_isTrue_Compare1 (ld F e8 (Constant_str (eq_str (wpAny_truthy_bool ?_))))
          have hce : c ∈ escs := hcl.resolve_left h42 |>.resolve_left h63
          rw [brack_eq, one_eq, if_neg (by simpa using (escs_word c hce).2.2)]
          refine wpAny_execs_cons ?_
          with_reducible refine' wpAny_Expr_any ?_ ?i1 ?i2
          case i1 => with_unfolding_all exact rfl
          case i2 => with_unfolding_all exact rfl
          refine Call_ (ld F e2 (add_ (D := D) (h₀ := s.heap) (L := L) (args_cons ?_)))
          refine Call_ (nmG G F.keep (at_escape w) (callWith_fn (G.ext F.keep).k (keep_escape w) (args_cons (ld F e8 (args_nil ⟨Ext.refl _, ?_⟩)))))
          refine useN F N (sp_escape (G.ext F.keep) hh (by exact hd) hce) ?_
          rintro v os h₁₂ tk₂ x F N ⟨rfl, tt, rfl⟩
          refine args_nil ⟨_, _, _, _, _, _, rfl, F, N, .head _, .tail hqD (.head (fun _ h => nomatch h)), hvs, fun h' n' F' N' => ?_⟩
          refine wpAny_execs_nil (wpAny_execs_nil (wpAny_execs_nil (wpAny_execs_nil ?_)))
          exact adv _ h' n' _ _ htk ⟨_, rfl⟩ F' N'
    · rw [decide_eq_false (by simpa using hlt)]
      refine hB0 _ ?_
      obtain rfl : k = l.length := by (first | lia | omega)
      refine wpAny_execs_cons (wpAny_Assert_holds (wpAny_isTrue_Compare1 (ld F e3 (ld F e4 (eq_int (wpAny_truthy_bool ⟨by simp, ?_⟩))))))
      (refine wpAny_execs_cons ?_; with_reducible refine wpAny_Return_some ?_)
      refine ld F e1 ?_
      rw [List.take_length] at P
      exact hK _ _ (afterF F N [(D, listO vs nn)] (fun p hp => by rw [List.mem_singleton.mp hp]; exact .tail _ (.head _)) ⟨D, nn, vs, rfl, rfl, P⟩)
  · exact .mk (Nat.zero_le _) F (fun p hp => N p (.tail _ hp)) .nil rfl rfl rfl rfl rfl rfl rfl
end
end Mine
end
section
open PySem PySem.W PySem.Calls PyProof.Rows
set_option maxRecDepth 100000
set_option maxHeartbeats 4000000
namespace Mine
section
variable {prog : Program} {w : World} {mg mb : Str → Option Value} {A : Around} {s : Shared}

/-- a while loop, and what it leaves -/
theorem whileJ {test : Expr} {body : List Stmt} {pos : Pos} {env : Env} {Q : Flow → Shared → Prop} {E : Value → Shared → Prop} (J : Shared → Prop) (I : Nat → Shared → Prop)
    (turn : ∀ n s, I n s → wpAny (model prog w) A (isTrue test env (eval test env)) (fun b s₂ => if b = true then wpAny (model prog w) A (execs body env) (fun f s₃ => match f with
            | .next | .cont => ∃ m, m < n ∧ I m s₃
            | .brk => J s₃
            | .ret _ => False) No s₂
        else J s₂) No s)
    (n : Nat) (h : I n s) (hJ : ∀ s', J s' → Q .next s') : wpAny (model prog w) A (exec (.While test body [] pos) env) Q E s :=
  whileOk I (fun n s hI => wpAny_mono (turn n s hI) (fun b s₂ hb => by
    cases b with
    | false => rw [if_neg Bool.false_ne_true] at hb ⊢; exact hJ _ hb
    | true =>
      rw [if_pos rfl] at hb ⊢
      refine wpAny_mono hb (fun f s₃ hf => ?_) fun _ _ e => e
      cases f with
      | next => exact hf
      | cont => exact hf
      | brk => exact hJ _ hf
      | ret v => exact hf.elim) fun _ _ e => e) n h

/-- the same, what is wanted behind a turn a variable -/
theorem whileJK {test : Expr} {body : List Stmt} {pos : Pos} {env : Env} {Q : Flow → Shared → Prop} {E : Value → Shared → Prop} (J : Shared → Prop) (I : Nat → Shared → Prop)
    (turn : ∀ (B : Bool → Shared → Prop) (X : Flow → Shared → Prop) n s, I n s → (∀ s₂, wpAny (model prog w) A (execs body env) X No s₂ → B true s₂) → (∀ s₂, J s₂ → B false s₂) →
      (∀ m s₃, m < n → I m s₃ → X .next s₃) → (∀ m s₃, m < n → I m s₃ → X .cont s₃) → (∀ s₃, J s₃ → X .brk s₃) →
      wpAny (model prog w) A (isTrue test env (eval test env)) B No s)
    (n : Nat) (h : I n s) (hJ : ∀ s', J s' → Q .next s') : wpAny (model prog w) A (exec (.While test body [] pos) env) Q E s :=
  whileJ J I (fun n s hI => turn _ (fun f s₃ => match f with
            | .next | .cont => ∃ m, m < n ∧ I m s₃
            | .brk => J s₃
            | .ret _ => False) n s hI (fun s₂ h => by rw [if_pos rfl]; exact h) (fun s₂ h => by rw [if_neg Bool.false_ne_true]; exact h) (fun m _ a b => ⟨m, a, b⟩) (fun m _ a b => ⟨m, a, b⟩) (fun _ x => x)) n h hJ

def Txts (vs : List Value) (acc : List Nat) : Prop := ∃ ys, StrsAre vs ys ∧ ys.flatMap (fun (y : Str) => y.cps.toList) = acc
theorem Txts.nil : Txts [] [] := ⟨[], .nil, rfl⟩
theorem Txts.snoc {vs : List Value} {acc : List Nat} (T : Txts vs acc) (x : Str) (t : Tok) : Txts (vs ++ [.str x t]) (acc ++ x.cps.toList) := by
  obtain ⟨ys, h, rfl⟩ := T
  exact ⟨ys ++ [x], StrsAre.append' h (.cons x t .nil), by simp⟩
theorem join_any (ys : List Str) : Txt.join (Str.ofString "") ys = S (ys.flatMap fun (y : Str) => y.cps.toList) := by
  have e0 : Txt.join (Str.ofString "") ys = Str.join (Str.ofString "") ys := StrLaws.glued_eq_join _ _
  rw [e0]
  have e3 : Str.ofString "" = S [] := by decide +kernel
  rw [e3]
  clear e0
  induction ys with
  | nil => rfl
  | cons x ys ih =>
    rw [List.flatMap_cons]
    cases ys with
    | nil => show x = _; obtain ⟨⟨l⟩⟩ := x; simp
    | cons y ys =>
      have e : Str.join (S []) (x :: y :: ys) = x ++ S [] ++ Str.join (S []) (y :: ys) := by rw [Str.join]; simp
      rw [e, ih]
      obtain ⟨⟨l⟩⟩ := x
      show (⟨l.toArray ++ #[] ++ _⟩ : Str) = _
      simp
theorem join_txts {vs : List Value} {acc : List Nat} {t : Tok} {D : Addr} {E Q : Value → Shared → Prop} (hD : s.heap.IsList D vs.toArray) (T : Txts vs acc) (hw : acc.length + vs.length ≤ 1048576) (h : ∀ t' k, Q (.str (S acc) t') { s with toks := k }) :
    wpAny (model prog w) A (call (.builtin "str.join") [.str (Str.ofString "") t, .ref D]) Q E s := by
  obtain ⟨ys, hs, rfl⟩ := T
  refine join_listW hD (by simpa using hs) (by decide) ?_ (fun t' k => ?_)
  · have e1 : vs.length = ys.length := hs.len_eq
    have e2 : (ys.map (·.length)).sum = (ys.flatMap fun (y : Str) => y.cps.toList).length := by
      rw [List.length_flatMap]
      congr 1
    (first | lia | omega)
  · rw [join_any]; exact h t' k

theorem dotstar_eq : Str.ofString ".*" = S [46, 42] := by decide +kernel
theorem paired_at {α β : Type} {F : α → β → Prop} {a : List α} {b : List β} (h : Paired F a b) {k : Nat} {x : α} (hx : a[k]? = some x) : ∃ y, b[k]? = some y ∧ F x y := by
  induction h generalizing k with
  | nil => simp at hx
  | cons e t ih =>
    cases k with
    | zero => simp at hx; subst hx; exact ⟨_, rfl, e⟩
    | succ k => exact ih (by simpa using hx)

theorem fmt3 {cn : Str} {cs : Scope} {a L : Addr} {ccd : Value} {x pre post : Str} {k1 k2 : Nat} {p1 p2 p3 p4 p5 : Pos} {h₀ : Heap} {m : Str → Option Value} {l : List Nat} {t : Tok} {E Q : Value → Shared → Prop}
    (F : Fr h₀ L s.heap m) (hm : m x = some (.str (S l) t)) (h1 : l.length ≤ 100000) (h2 : pre.length ≤ 1000) (h3 : post.length ≤ 1000)
    (h : ∀ t' k, Q (.str (pre ++ S l ++ post) t') { s with toks := k })
    (hk : cs.kind = .function := by rfl) (hx : (envOf cn cs L a ccd).kindOf x = some .local := by rfl) (hd : (x == ("__debug__" : Str)) = false := by decide)  :
    wpAny (model prog w) A (eval (.JoinedStr [.Constant (.str pre) k1 p1, .FormattedValue (.Name x p2) (-1) none p3, .Constant (.str post) k2 p4] p5) (envOf cn cs L a ccd)) Q E s := by
  have e0 : ∀ y : Str, Str.empty ++ y = y := fun y => by obtain ⟨y⟩ := y; show (⟨#[] ++ y⟩ : Str) = _; simp
  have l1 : (pre ++ S l).length = pre.length + l.length := by rw [Str.length_append]; show _ + l.toArray.size = _; simp
  have l2 : (pre ++ S l ++ post).length = pre.length + l.length + post.length := by rw [Str.length_append, l1]
  have l3 : (S l).length = l.length := by show l.toArray.size = _; simp
  refine JoinedStr_many ?_
  refine joinParts_cons (Constant_str ⟨by rw [e0, sizeLine_eq]; (first | lia | omega), ?_⟩)
  rw [e0]
  refine joinParts_cons (wpAny_FormattedValue_plain (ld F hm ?_ hk hx hd))
  have fin : ∀ (k : Nat), (pre ++ S l).length ≤ sizeLine ∧ wpAny (model prog w) A (joinParts (pre ++ S l) [eval (.Constant (.str post) k2 p4) (envOf cn cs L a ccd)]) Q E { s with toks := k } := fun k => by
    refine ⟨by rw [l1, sizeLine_eq]; (first | lia | omega), ?_⟩
    refine joinParts_cons (Constant_str ⟨by rw [l2, sizeLine_eq]; (first | lia | omega), ?_⟩)
    exact joinParts_nil (h _ _) (by rw [l2, sizeLine_eq]; (first | lia | omega))
  exact wpAny_formatField_str (fin _) (fin _) (by rw [l3, sizeLine_eq]; (first | lia | omega))

/-- where the first loop of _join_translated_parts stands -/
def JoinI (s : Shared) (star : Value) (ps : List (Option Nat)) (I L D q : Addr) (m : Str → Option Value) (k : Nat) (acc : List Nat) (rv : List Value) : Prop :=
  k ≤ ps.length ∧ Txts rv acc ∧ rv.length ≤ 2 * k ∧ m "inp" = some (.ref I) ∧ m "STAR" = some star ∧ m "res" = some (.ref D) ∧ m "add" = some (.ref q) ∧ (∃ t, m "i" = some (.int k t)) ∧ (∃ t, m "n" = some (.int ps.length t))

/-- the whole state there; the list of the fixed signs is told by nf -/
def JS (s : Shared) (star : Value) (ps : List (Option Nat)) (I L D q : Addr) (k : Nat) (acc : List Nat) (rv : List Value) (nn : Nat) (nf : List (Addr × Obj)) (M : (Str → Option Value) → Prop) (s' : Shared) : Prop :=
  ∃ h' tk m, s' = { s with heap := h', toks := tk } ∧ Fr s.heap L h' m ∧ News s.heap L h' (nf ++ [(q, appObj D), (D, listO rv nn)]) ∧ JoinI s star ps I L D q m k acc rv ∧ M m
theorem JS.mk {s : Shared} {star : Value} {ps : List (Option Nat)} {I L D q : Addr} {k : Nat} {acc : List Nat} {rv : List Value} {nn : Nat} {nf : List (Addr × Obj)} {M : (Str → Option Value) → Prop} {h' : Heap} {tk t5 t6 : Nat} {m : Str → Option Value}
    (F : Fr s.heap L h' m) (N : News s.heap L h' (nf ++ [(q, appObj D), (D, listO rv nn)])) (hk : k ≤ ps.length) (T : Txts rv acc) (hr : rv.length ≤ 2 * k) (e1 : m "inp" = some (.ref I)) (e2 : m "STAR" = some star) (e3 : m "res" = some (.ref D)) (e4 : m "add" = some (.ref q))
    (e5 : m "i" = some (.int k t5)) (e6 : m "n" = some (.int ps.length t6)) (hM : M m) : JS s star ps I L D q k acc rv nn nf M { s with heap := h', toks := tk } :=
  ⟨h', tk, m, rfl, F, N, ⟨hk, T, hr, e1, e2, e3, e4, ⟨_, e5⟩, ⟨_, e6⟩⟩, hM⟩
theorem JS.out {s s' : Shared} {star : Value} {ps : List (Option Nat)} {I L D q : Addr} {k : Nat} {acc : List Nat} {rv : List Value} {nn : Nat} {nf : List (Addr × Obj)} {M : (Str → Option Value) → Prop} {Z : Shared → Prop}
    (X : JS s star ps I L D q k acc rv nn nf M s') (c : ∀ (h' : Heap) (tk : Nat) (m : Str → Option Value) (t5 t6 : Nat), Fr s.heap L h' m → News s.heap L h' (nf ++ [(q, appObj D), (D, listO rv nn)]) → k ≤ ps.length → Txts rv acc → rv.length ≤ 2 * k →
      m "inp" = some (.ref I) → m "STAR" = some star → m "res" = some (.ref D) → m "add" = some (.ref q) → m "i" = some (.int k t5) → m "n" = some (.int ps.length t6) → M m → Z { s with heap := h', toks := tk }) : Z s' := by
  obtain ⟨h', tk, m, rfl, F, N, ⟨hk, T, hr, e1, e2, e3, e4, ⟨u5, e5⟩, ⟨u6, e6⟩⟩, hM⟩ := X
  exact c h' tk m u5 u6 F N hk T hr e1 e2 e3 e4 e5 e6 hM

/-- _join_translated_parts -/
theorem sp_join {ps : List (Option Nat)} {vs : List Value} {I : Addr} {star : Value} (G : Gd w mg mb s.heap) (hh : A.handled = none) (hd : A.depth < recursionLimit) (hl : s.heap.IsList I vs.toArray) (P : Paired (partV star) ps vs) (hp : Sep ps) (hlen : ps.length ≤ 5000) (hstar : star = .none ∨ ∃ a, star = .ref a) :
    wpAny (model prog w) A (call (.ref 124) [.ref I, star]) (After s fun v os => os = [] ∧ ∃ u, v = .str (S ([40, 63, 115, 58] ++ body ps ++ [41, 92, 90])) u) No s := by
  refine enterK (binds := [(Str.ofString "inp", .ref I), (Str.ofString "STAR", star)]) G (by k_is) (by k_is) hd (BindsTo.of_eq rfl) (locs rfl) (fun K hK L h₁ F => ?_) (by decide) rfl rfl rfl
  have hvl : vs.length = ps.length := P.length.symm
  (refine wpAny_execs_cons ?_; with_reducible refine wpAny_Assign_Name ?_ ?as2x10; (case as2x10 => with_unfolding_all exact rfl))
  refine List_ (args_nil ?_)
  refine newList_N F News.nil (fun h₂ F N => ?_)
  refine stN F N (fun h₃ F N => ?_)
  dsimp only at F N ⊢
  (refine wpAny_execs_cons ?_; with_reducible refine wpAny_Assign_Name ?_ ?as2x11; (case as2x11 => with_unfolding_all exact rfl))
  refine Attribute_Name_ (ld F rfl ?_)
  refine app_attr (N.get (.head _)) ?_
  have F₄ := F.push (appObj h₁.objs.size)
  have N₄ := N.push F (appObj h₁.objs.size)
  refine stN F₄ N₄ (fun h₅ F N => ?_)
  dsimp only at F N ⊢
  generalize h₁.objs.size = D at F N ⊢
  generalize h₃.objs.size = q at F N ⊢
  refine wpAny_execs_cons ?_
  with_reducible refine' Assign_Tuple_swapped ?t1 ?t2 ?t3
  case t2 => with_unfolding_all exact rfl
  case t3 => with_unfolding_all exact rfl
  refine Tuple_ (args_cons (wpAny_Constant_int (args_cons (Call_ (nmB G F.keep (at_len w) rfl (by decide) (callWith_builtin1 (args_cons (ld F rfl (args_nil (len_list (F.lst hl) (by simp; (first | lia | omega)) (args_nil ?_)))))))))))
  dsimp only
  refine newTuple_N F N (fun h₆ F N => ?_)
  refine unpackItemsN_ F N (N.isTup (.head _)) hh rfl (fun h₇ F N => ?_)
  dsimp only at F N ⊢
  refine assignInOrder_cons (bindName_ (stN F N (fun h₈ F N => ?_)))
  refine assignInOrder_cons (bindName_ (stN F N (fun h₉ F N => ?_)))
  refine assignInOrder_nil ?_
  dsimp only at F N ⊢
  have hqD : q ≠ D := fun e => by
    have h1 := N.get (.tail _ (.head _))
    have h2 := N.get (.tail _ (.tail _ (.head _)))
    rw [e, h2] at h1
    have h3 := congrArg Obj.cls (Option.some.inj h1)
    injection h3 with h3
    exact absurd h3 (by decide)
  have hU : ∀ (rv : List Value) (nn : Nat), UpdF D (listO rv nn) [(q, appObj D), (D, listO rv nn)] (fun o' => [(q, appObj D), (D, o')]) := fun rv nn => .tail hqD (.head (fun _ h => nomatch h))
  have hN₀ : News s.heap L h₉ [(q, appObj D), (D, listO [] 0)] := fun p hp => N p (.tail _ hp)
  have hbl := body_len ps
  have wts : ∀ {acc tl : List Nat}, acc ++ tl = body ps → acc.length ≤ 36000 := fun e => by rw [← e, List.length_append] at hbl; (first | lia | omega)
  refine wpAny_execs_cons ?_
  refine whileJK (fun s' => ∃ rv nn k acc, (k = ps.length ∨ ps[k]? = some none) ∧ acc ++ body (ps.drop k) = body ps ∧ JS s star ps I L D q k acc rv nn [] (fun _ => True) s')
    (fun n s' => ∃ rv nn k acc, n = ps.length - k ∧ acc ++ body (ps.drop k) = body ps ∧ JS s star ps I L D q k acc rv nn [] (fun _ => True) s') ?_ ps.length
    ⟨[], 0, 0, [], rfl, rfl, .mk F hN₀ (Nat.zero_le _) Txts.nil (Nat.le_refl 0) rfl rfl rfl rfl (t5 := _) rfl (by rw [← hvl]; rfl) trivial⟩ ?_
  · clear F N hN₀
    rintro B X _ s' ⟨rv, nn, k, acc, rfl, hacc, hS⟩ hB1 hB0 hX - -
    refine hS.out (fun h' tk m u5 u6 F N hk T hrl e1 e2 e3 e4 e5 e6 _ => ?_)
    have hw := wts hacc
    refine isTrue_and (wpAny_isTrue_Compare1 (ld F e5 (ld F e6 (lt_int (wpAny_truthy_bool ?_)))))
    by_cases hlt : k < ps.length
    · rw [if_pos (by simpa using hlt)]
      obtain ⟨p, hpk⟩ : ∃ p, ps[k]? = some p := ⟨_, List.getElem?_eq_getElem hlt⟩
      obtain ⟨v, hvk, hv⟩ := paired_at P hpk
      refine isTrue_and (wpAny_isTrue_Compare1 (Subscript_ (ld F e1 (ld F e5 ?_))))
      refine item_listL (F.lst hl) (by (first | lia | omega)) (by (first | lia | omega)) (by simpa using hvk) ?_
      refine ld F e2 ?_
      have hdrop : ps.drop k = p :: ps.drop (k + 1) := by
        rw [List.drop_eq_getElem_cons hlt]; rw [List.getElem?_eq_getElem hlt] at hpk; injection hpk with hpk; rw [hpk]
      cases p with
      | none =>
        have hv : v = star := hv
        rw [hv]
        refine star_self hstar (wpAny_truthy_bool ?_)
        rw [if_neg Bool.false_ne_true]
        exact hB0 _ ⟨rv, nn, k, acc, .inr hpk, hacc, .mk F N hk T hrl e1 e2 e3 e4 e5 e6 trivial⟩
      | some c =>
        obtain ⟨tt, hv⟩ := hv
        rw [hv] at hvk ⊢
        refine star_other hstar (wpAny_truthy_bool ?_)
        rw [if_pos rfl]
        refine isTrue_and_nil (hB1 _ ?_)
        (refine wpAny_execs_cons ?_; with_reducible refine' wpAny_Expr_any ?_ ?i1x12 ?i2x12; (case i1x12 => with_unfolding_all exact rfl); (case i2x12 => with_unfolding_all exact rfl))
        refine Call_ (ld F e4 (add_ (D := D) (h₀ := s.heap) (L := L) (args_cons (Subscript_ (ld F e1 (ld F e5 ?_))))))
        refine item_listL (F.lst hl) (by (first | lia | omega)) (by (first | lia | omega)) (by simpa using hvk) ?_
        refine args_nil ⟨_, _, _, _, _, _, rfl, F, N, .head _, hU _ _, by rw [sizeLine_eq]; (first | lia | omega), fun h' n' F' N' => ?_⟩
        dsimp only at F' N' ⊢
        (refine wpAny_execs_cons ?_; with_reducible refine wpAny_AugAssign_Name ?_)
        refine wpAny_loadName_local rfl rfl F'.ns e5 (wpAny_Constant_int (iadd_int ?_))
        refine stN F' N' (fun h'' F'' N'' => ?_)
        refine wpAny_execs_nil ?_
        dsimp only at F'' N'' ⊢
        refine hX (ps.length - (k + 1)) _ (by (first | lia | omega)) ⟨_, _, k + 1, acc ++ [c], rfl, ?_, .mk F'' N'' hlt (T.snoc ⟨#[c]⟩ tt) (by simp; (first | lia | omega)) e1 e2 e3 e4 (by rw [show ((k : Int) + 1) = ((k + 1 : Nat) : Int) from rfl]; rfl) e6 trivial⟩
        rw [← hacc, hdrop, body_some]; simp
    · rw [if_neg (by simpa using hlt)]
      exact hB0 _ ⟨rv, nn, k, acc, .inl (by (first | lia | omega)), hacc, .mk F N hk T hrl e1 e2 e3 e4 e5 e6 trivial⟩
  clear F N hN₀
  rintro s' ⟨rv, nn, k, acc, hend, hacc, hS⟩
  refine wpAny_execs_cons ?_
  refine whileJK (fun s' => ∃ rv nn, JS s star ps I L D q ps.length (body ps) rv nn [] (fun _ => True) s')
    (fun n s' => ∃ rv nn k acc, n = ps.length - k ∧ ((k = ps.length ∧ acc = body ps) ∨ (ps[k]? = some none ∧ acc ++ mid (segs (ps.drop (k + 1))) = body ps)) ∧ JS s star ps I L D q k acc rv nn [] (fun _ => True) s') ?_ (ps.length - k)
    ⟨rv, nn, k, acc, rfl, ?_, hS⟩ ?_
  · clear hS hend hacc
    rintro B X _ s' ⟨rv, nn, k, acc, rfl, hcase, hS⟩ hB1 hB0 hX - hXb
    refine hS.out (fun h' tk m u5 u6 F N hk T hrl e1 e2 e3 e4 e5 e6 _ => ?_)
    refine wpAny_isTrue_Compare1 (ld F e5 (ld F e6 (lt_int (wpAny_truthy_bool ?_))))
    rcases hcase with ⟨hkl, hacc⟩ | ⟨hpk, hacc⟩
    · rw [decide_eq_false (by simp; (first | lia | omega))]
      exact hB0 _ ⟨rv, nn, .mk F N (Nat.le_refl _) (hacc ▸ T) (by (first | lia | omega)) e1 e2 e3 e4 (hkl ▸ e5) e6 trivial⟩
    · have hlt : k < ps.length := (List.getElem?_eq_some_iff.mp hpk).1
      rw [decide_eq_true (by simpa using hlt)]
      refine hB1 _ ?_
      obtain ⟨v, hvk, hv⟩ := paired_at P hpk
      have hv : v = star := hv
      refine wpAny_execs_cons (wpAny_Assert_holds (wpAny_isTrue_Compare1 (Subscript_ (ld F e1 (ld F e5 ?_)))))
      refine item_listL (F.lst hl) (by (first | lia | omega)) (by (first | lia | omega)) (by simpa using hvk) ?_
      refine ld F e2 ?_
      rw [hv]
      refine star_is hstar (wpAny_truthy_bool ⟨rfl, ?_⟩)
      (refine wpAny_execs_cons ?_; with_reducible refine wpAny_AugAssign_Name ?_)
      refine wpAny_loadName_local rfl rfl F.ns e5 (wpAny_Constant_int (iadd_int ?_))
      refine stN F N (fun h₁₀ F₁ N₁ => ?_)
      dsimp only at F₁ N₁ ⊢
      obtain ⟨m₁, Fb, e1, e2, e3, e4, ⟨u7, e5⟩, e6⟩ : ∃ m₂, Fr s.heap L h₁₀ m₂ ∧ m₂ "inp" = some (.ref I) ∧ m₂ "STAR" = some star ∧ m₂ "res" = some (.ref D) ∧ m₂ "add" = some (.ref q) ∧ (∃ t, m₂ "i" = some (.int ((k + 1 : Nat) : Int) t)) ∧ m₂ "n" = some (.int ps.length u6) :=
        ⟨_, F₁, e1, e2, e3, e4, ⟨_, by rw [show ((k : Int) + 1) = ((k + 1 : Nat) : Int) by (first | lia | omega)]; rfl⟩, e6⟩
      clear F₁ F N
      (refine wpAny_execs_cons ?_; with_reducible refine wpAny_If ?_)
      refine wpAny_isTrue_Compare1 (ld Fb e5 (ld Fb e6 (eq_int (wpAny_truthy_bool ?_))))
      by_cases hend : k + 1 = ps.length
      · rw [if_pos (by simp; (first | lia | omega))]
        (refine wpAny_execs_cons ?_; with_reducible refine' wpAny_Expr_any ?_ ?i1x16 ?i2x16; (case i1x16 => with_unfolding_all exact rfl); (case i2x16 => with_unfolding_all exact rfl))
        refine Call_ (ld Fb e4 (add_ (D := D) (h₀ := s.heap) (L := L) (args_cons (Constant_str (args_nil ⟨_, _, _, _, _, _, rfl, Fb, N₁, .head _, hU _ _, by rw [sizeLine_eq]; (first | lia | omega), fun h' n' F' N' => ?_⟩)))))
        dsimp only at F' N' ⊢
        refine wpAny_execs_cons (wpAny_Break ?_)
        rw [dotstar_eq] at N'
        have T' := T.snoc (S [46, 42])
        rw [List.drop_eq_nil_of_le (by (first | lia | omega))] at hacc
        have ee : acc ++ (S [46, 42]).cps.toList = body ps := by rw [← hacc]; rfl
        rw [ee] at T'
        exact hXb _ ⟨_, n', .mk F' N' (Nat.le_refl _) (T' _) (by simp; (first | lia | omega)) e1 e2 e3 e4 (hend ▸ e5) e6 trivial⟩
      · rw [if_neg (by simp; (first | lia | omega))]
        refine wpAny_execs_nil ?_
        have hlt1 : k + 1 < ps.length := by (first | lia | omega)
        obtain ⟨p1, hp1⟩ : ∃ p, ps[k + 1]? = some p := ⟨_, List.getElem?_eq_getElem hlt1⟩
        obtain ⟨v1, hv1, hw1⟩ := paired_at P hp1
        refine wpAny_execs_cons (wpAny_Assert_holds (wpAny_isTrue_Compare1 (Subscript_ (ld Fb e1 (ld Fb e5 ?_)))))
        refine item_listL (Fb.lst hl) (by (first | lia | omega)) (by (first | lia | omega)) (by simpa using hv1) ?_
        refine ld Fb e2 ?_
        cases p1 with
        | none => exact absurd hp1 (hp k hpk)
        | some c1 =>
        obtain ⟨t1, hw1⟩ := hw1
        rw [hw1]
        refine star_other hstar (wpAny_truthy_bool ⟨rfl, ?_⟩)
        (refine wpAny_execs_cons ?_; with_reducible refine wpAny_Assign_Name ?_ ?as2x17; (case as2x17 => with_unfolding_all exact rfl))
        refine List_ (args_nil ?_)
        have hfq : h₁₀.objs.size ≠ q := Nat.ne_of_gt (Heap.lt_size (N₁.get (.head _)))
        have hfD : h₁₀.objs.size ≠ D := Nat.ne_of_gt (Heap.lt_size (N₁.get (.tail _ (.head _))))
        refine newList_N Fb N₁ (fun h₁₁ F₁ N₁ => ?_)
        refine stN F₁ N₁ (fun h₁₂ F₁ N₁ => ?_)
        dsimp only at F₁ N₁ ⊢
        generalize h₁₀.objs.size = fx at F₁ N₁ hfq hfD ⊢
        have hM : acc ++ mid (preF [] (segs (ps.drop (k + 1)))) = body ps := by rw [preF_nil]; exact hacc
        refine wpAny_execs_cons ?_
        refine whileJK (fun s' => ∃ nn' k' f fv, k + 1 ≤ k' ∧ Txts fv f ∧ fv.length ≤ k' ∧ (k' = ps.length ∨ ps[k']? = some none) ∧ acc ++ mid (preF f (segs (ps.drop k'))) = body ps ∧ JS s star ps I L D q k' acc rv nn [(fx, listO fv nn')] (fun m => m "fixed" = some (.ref fx)) s')
          (fun n s' => ∃ nn' k' f fv, n = ps.length - k' ∧ k + 1 ≤ k' ∧ Txts fv f ∧ fv.length ≤ k' ∧ acc ++ mid (preF f (segs (ps.drop k'))) = body ps ∧ JS s star ps I L D q k' acc rv nn [(fx, listO fv nn')] (fun m => m "fixed" = some (.ref fx)) s') ?_ (ps.length - (k + 1))
          ⟨0, k + 1, [], [], rfl, Nat.le_refl _, Txts.nil, Nat.zero_le _, hM, .mk F₁ N₁ (Nat.le_of_lt hlt1) T (by (first | lia | omega)) e1 e2 e3 e4 e5 e6 rfl⟩ ?_
        · clear F₁ N₁ Fb hM e1 e2 e3 e4 e5 e6 hX hXb hB1 hB0
          rintro B X _ s' ⟨nn', k', f, fv, rfl, hkk, Tf, hfl, hacc, hS⟩ hB1 hB0 hX - -
          refine hS.out (fun h' tk m u5 u6 F N hk T hrl e1 e2 e3 e4 e5 e6 e7 => ?_)
          rw [List.singleton_append] at N
          refine isTrue_and (wpAny_isTrue_Compare1 (ld F e5 (ld F e6 (lt_int (wpAny_truthy_bool ?_)))))
          by_cases hlt : k' < ps.length
          · rw [if_pos (by simpa using hlt)]
            obtain ⟨p, hpk⟩ : ∃ p, ps[k']? = some p := ⟨_, List.getElem?_eq_getElem hlt⟩
            obtain ⟨v, hvk, hv⟩ := paired_at P hpk
            refine isTrue_and (wpAny_isTrue_Compare1 (Subscript_ (ld F e1 (ld F e5 ?_))))
            refine item_listL (F.lst hl) (by (first | lia | omega)) (by (first | lia | omega)) (by simpa using hvk) ?_
            refine ld F e2 ?_
            have hdrop : ps.drop k' = p :: ps.drop (k' + 1) := by
              rw [List.drop_eq_getElem_cons hlt]; rw [List.getElem?_eq_getElem hlt] at hpk; injection hpk with hpk; rw [hpk]
            cases p with
            | none =>
              have hv : v = star := hv
              rw [hv]
              refine star_self hstar (wpAny_truthy_bool ?_)
              rw [if_neg Bool.false_ne_true]
              exact hB0 _ ⟨nn', k', f, fv, hkk, Tf, hfl, .inr hpk, hacc, .mk F N hk T hrl e1 e2 e3 e4 e5 e6 e7⟩
            | some c =>
              obtain ⟨tt, hv⟩ := hv
              rw [hv] at hvk ⊢
              refine star_other hstar (wpAny_truthy_bool ?_)
              rw [if_pos rfl]
              refine isTrue_and_nil (hB1 _ ?_)
              (refine wpAny_execs_cons ?_; with_reducible refine' wpAny_Expr_any ?_ ?i1x18 ?i2x18; (case i1x18 => with_unfolding_all exact rfl); (case i2x18 => with_unfolding_all exact rfl))
              refine MethodCall_ (ld F e7 ?_)
              refine getMethod_list_append (N.get (.head _)) rfl rfl ?_
              refine callWith_method1 (args_cons (Subscript_ (ld F e1 (ld F e5 ?_))))
              refine item_listL (F.lst hl) (by (first | lia | omega)) (by (first | lia | omega)) (by simpa using hvk) (args_nil ?_)
              refine wpAny_list_append_plain (l := fx) (items := fv.toArray) ⟨_, N.get (.head _)⟩ (fun h'' Pl hs => ?_) (by rw [sizeLine_eq]; simp; (first | lia | omega))
              obtain ⟨n', hP⟩ := Pl
              obtain ⟨F', N'⟩ := news_set (o' := listO (fv ++ [.str ⟨#[c]⟩ tt]) n') F N (.head (fun p hp => by rcases List.mem_cons.mp hp with rfl | hp; exact hfq.symm; rw [List.mem_singleton.mp hp]; exact hfD.symm)) hs (by rw [hP]; simp)
              dsimp only at F' N' ⊢
              (refine wpAny_execs_cons ?_; with_reducible refine wpAny_AugAssign_Name ?_)
              refine wpAny_loadName_local rfl rfl F'.ns e5 (wpAny_Constant_int (iadd_int ?_))
              refine stN F' N' (fun h'' F'' N'' => ?_)
              refine wpAny_execs_nil ?_
              dsimp only at F'' N'' ⊢
              refine hX (ps.length - (k' + 1)) _ (by (first | lia | omega)) ⟨_, k' + 1, f ++ [c], _, rfl, by (first | lia | omega), Tf.snoc ⟨#[c]⟩ tt, by simp; (first | lia | omega), ?_, .mk (nf := [(fx, _)]) F'' N'' hlt T (by (first | lia | omega)) e1 e2 e3 e4 (by rw [show ((k' : Int) + 1) = ((k' + 1 : Nat) : Int) from rfl]; rfl) e6 e7⟩
              rw [← hacc, hdrop, preF_some]
          · rw [if_neg (by simpa using hlt)]
            exact hB0 _ ⟨nn', k', f, fv, hkk, Tf, hfl, .inl (by (first | lia | omega)), hacc, .mk F N hk T hrl e1 e2 e3 e4 e5 e6 e7⟩
        clear F₁ N₁ Fb hM e1 e2 e3 e4 e5 e6
        rintro s' ⟨nn', k', f, fv, hkk, Tf, hfl, hend', hacc, hS⟩
        refine hS.out (Z := fun s' => wpAny _ _ _ _ _ s') (fun h' tk m u5 u6 F N hk T hrl e1 e2 e3 e4 e5 e6 e7 => ?_)
        rw [List.singleton_append] at N
        have hM : (mid (preF f (segs (ps.drop k')))).length ≤ 36000 := by rw [← hacc, List.length_append] at hbl; (first | lia | omega)
        have hfw : f.length ≤ 36000 := by
          rcases hend' with e | e
          · rw [List.drop_eq_nil_of_le (by (first | lia | omega)), mid_end] at hM; simp at hM; (first | lia | omega)
          · have hlt := (List.getElem?_eq_some_iff.mp e).1
            rw [List.drop_eq_getElem_cons hlt] at hM
            rw [List.getElem?_eq_getElem hlt] at e
            injection e with e
            rw [e, mid_more] at hM; simp [grp] at hM; (first | lia | omega)
        (refine wpAny_execs_cons ?_; with_reducible refine wpAny_Assign_Name ?_ ?as2x20; (case as2x20 => with_unfolding_all exact rfl))
        refine MethodCall_ (Constant_str (GM.join ?_))
        refine callWith_method1 (args_cons (ld F e7 (args_nil ?_)))
        refine join_txts (N.isList (.head _)) Tf (by (first | lia | omega)) (fun t' k'' => ?_)
        refine stN F N (fun h₁₃ F N => ?_)
        dsimp only at F N ⊢
        have N : News s.heap L h₁₃ [(q, appObj D), (D, listO rv nn)] := fun p hp => N p (.tail _ hp)
        have hrs : rv.length ≤ sizeLine := by rw [sizeLine_eq]; (first | lia | omega)
        (refine wpAny_execs_cons ?_; with_reducible refine wpAny_If ?_)
        refine wpAny_isTrue_Compare1 (ld F e5 (ld F e6 (eq_int (wpAny_truthy_bool ?_))))
        rcases hend' with hkl | hpk'
        · rw [if_pos (by simp; (first | lia | omega))]
          rw [List.drop_eq_nil_of_le (by (first | lia | omega)), mid_end] at hacc
          (refine wpAny_execs_cons ?_; with_reducible refine' wpAny_Expr_any ?_ ?i1x22 ?i2x22; (case i1x22 => with_unfolding_all exact rfl); (case i2x22 => with_unfolding_all exact rfl))
          refine Call_ (ld F e4 (add_ (D := D) (h₀ := s.heap) (L := L) (args_cons (Constant_str (args_nil ⟨_, _, _, _, _, _, rfl, F, N, .head _, hU _ _, hrs, fun h' n' F' N' => ?_⟩)))))
          dsimp only at F' N' ⊢
          (refine wpAny_execs_cons ?_; with_reducible refine' wpAny_Expr_any ?_ ?i1x23 ?i2x23; (case i1x23 => with_unfolding_all exact rfl); (case i2x23 => with_unfolding_all exact rfl))
          refine Call_ (ld F' e4 (add_ (D := D) (h₀ := s.heap) (L := L) (args_cons (ld F' rfl (args_nil ⟨_, _, _, _, _, _, rfl, F', N', .head _, hU _ _, by rw [sizeLine_eq]; simp; (first | lia | omega), fun h'' n'' F'' N'' => ?_⟩)))))
          dsimp only at F'' N'' ⊢
          refine wpAny_execs_nil (wpAny_execs_nil ?_)
          rw [dotstar_eq] at N''
          have T' := fun a b => (T.snoc (S [46, 42]) a).snoc (S f) b
          have ee : acc ++ (S [46, 42]).cps.toList ++ (S f).cps.toList = body ps := by rw [← hacc]; simp
          rw [ee] at T'
          exact hX (ps.length - k') _ (by (first | lia | omega)) ⟨_, n'', k', body ps, rfl, .inl ⟨hkl, rfl⟩, .mk F'' N'' hk (T' _ _) (by simp; (first | lia | omega)) e1 e2 e3 e4 e5 e6 trivial⟩
        · have hlt := (List.getElem?_eq_some_iff.mp hpk').1
          rw [if_neg (by simp; (first | lia | omega))]
          have hdrop : ps.drop k' = none :: ps.drop (k' + 1) := by
            rw [List.drop_eq_getElem_cons hlt]; rw [List.getElem?_eq_getElem hlt] at hpk'; injection hpk' with hpk'; rw [hpk']
          rw [hdrop, mid_more] at hacc
          (refine wpAny_execs_cons ?_; with_reducible refine' wpAny_Expr_any ?_ ?i1x24 ?i2x24; (case i1x24 => with_unfolding_all exact rfl); (case i2x24 => with_unfolding_all exact rfl))
          refine Call_ (ld F e4 (add_ (D := D) (h₀ := s.heap) (L := L) (args_cons (fmt3 F rfl (by (first | lia | omega)) (by decide) (by decide) (fun t' k'' => args_nil ⟨_, _, _, _, _, _, rfl, F, N, .head _, hU _ _, hrs, fun h' n' F' N' => ?_⟩)))))
          dsimp only at F' N' ⊢
          refine wpAny_execs_nil (wpAny_execs_nil ?_)
          have e : Str.ofString "(?>.*?" ++ S f ++ Str.ofString ")" = S (grp f) := by
            rw [show Str.ofString "(?>.*?" = S [40, 63, 62, 46, 42, 63] by decide +kernel, show Str.ofString ")" = S [41] by decide +kernel]
            show (⟨_ ++ _ ++ _⟩ : Str) = _
            simp [grp]
          rw [e] at N'
          have T' := fun a => T.snoc (S (grp f)) a
          have e3' : (S (grp f)).cps.toList = grp f := by simp
          rw [e3'] at T'
          exact hX (ps.length - k') _ (by (first | lia | omega)) ⟨_, n', k', _, rfl, .inr ⟨hpk', by rw [← hacc]; simp⟩, .mk F' N' hk (T' _) (by simp; (first | lia | omega)) e1 e2 e3 e4 e5 e6 trivial⟩
  · rcases hend with rfl | hend
    · exact .inl ⟨rfl, by rw [List.drop_length, body_nil, List.append_nil] at hacc; exact hacc⟩
    · refine .inr ⟨hend, ?_⟩
      have hlt : k < ps.length := (List.getElem?_eq_some_iff.mp hend).1
      rw [List.drop_eq_getElem_cons hlt] at hacc
      rw [List.getElem?_eq_getElem hlt] at hend
      injection hend with hend
      rw [hend, body_none] at hacc
      exact hacc
  clear hS hend hacc
  rintro s' ⟨rv, nn, hS⟩
  refine hS.out (Z := fun s' => wpAny _ _ _ _ _ s') (fun h' tk m u5 u6 F N hk T hrl e1 e2 e3 e4 e5 e6 _ => ?_)
  refine wpAny_execs_cons (wpAny_Assert_holds (wpAny_isTrue_Compare1 (ld F e5 (ld F e6 (eq_int (wpAny_truthy_bool ⟨by simp, ?_⟩))))))
  (refine wpAny_execs_cons ?_; with_reducible refine wpAny_Assign_Name ?_ ?as2x25; (case as2x25 => with_unfolding_all exact rfl))
  refine MethodCall_ (Constant_str (GM.join ?_))
  refine callWith_method1 (args_cons (ld F e3 (args_nil ?_)))
  refine join_txts (N.isList (.tail _ (.head _))) T (by (first | lia | omega)) (fun t' k' => ?_)
  refine stN F N (fun h₁₀ F N => ?_)
  dsimp only at F N ⊢
  (refine wpAny_execs_cons ?_; with_reducible refine wpAny_Return_some ?_)
  refine fmt3 F rfl (by (first | lia | omega)) (by decide) (by decide) (fun t' k' => ?_)
  have e : Str.ofString "(?s:" ++ S (body ps) ++ Str.ofString ")\\Z" = S ([40, 63, 115, 58] ++ body ps ++ [41, 92, 90]) := by
    rw [show Str.ofString "(?s:" = S [40, 63, 115, 58] by decide +kernel, show Str.ofString ")\\Z" = S [41, 92, 90] by decide +kernel]
    show (⟨_ ++ _ ++ _⟩ : Str) = _
    simp
  rw [e]
  exact hK _ _ (afterF F N [] (fun _ h => nomatch h) ⟨rfl, _, rfl⟩)
end
end Mine
end
section
open PySem PySem.W PySem.Calls PyProof.Rows
set_option maxRecDepth 100000
set_option maxHeartbeats 4000000
namespace Mine
theorem at_object (w : World) : nsIn (hdK w.params) mainGlobals "object" = some none := by k_is
theorem at_join (w : World) : nsIn (hdK w.params) mainGlobals "_join_translated_parts" = some (some (.ref 124)) := by k_is
theorem keep_join (w : World) : keepIn (hdK w.params) (.ref 124) = true := by k_is
theorem keep_translate (w : World) : keepIn (hdK w.params) (.ref 117) = true := by k_is
section
variable {prog : Program} {w : World} {mg mb : Str → Option Value} {A : Around} {s : Shared}

def told (ps : List (Option Nat)) : List Nat := [40, 63, 115, 58] ++ body ps ++ [41, 92, 90]

/-- translate -/
theorem sp_translate {l : List Nat} {t : Tok} (G : Gd w mg mb s.heap) (hh : A.handled = none) (hd : A.depth + 2 < recursionLimit) (hl : ∀ c ∈ l, PSign c) (hlen : l.length ≤ 5000) :
    wpAny (model prog w) A (call (.ref 98) [.str (S l) t]) (After s fun v os => os = [] ∧ ∃ u, v = .str (S (told (parts l))) u) No s := by
  refine enterK (binds := [(Str.ofString "pat", .str (S l) t)]) G (by k_is) (by k_is) (by (first | lia | omega)) (BindsTo.of_eq rfl) (locs rfl) (fun Kf hKf L h₁ F => ?_) (by decide) rfl rfl rfl
  (refine wpAny_execs_cons ?_; with_reducible refine wpAny_Assign_Name ?_ ?as2x27; (case as2x27 => with_unfolding_all exact rfl))
  refine Call_ (nmB G F.keep (at_object w) rfl (by decide) ?_)
  refine PySem.callWith_type (args := []) rfl (PyProof.Rows.evalArgs_none ?_)
  refine call_object ?_
  have N := (News.nil (h₀ := s.heap) (L := L)).push F bareObj
  have F := F.push bareObj
  refine stN F N (fun h₂ F N => ?_)
  dsimp only at F N ⊢
  generalize h₁.objs.size = sa at F N ⊢
  (refine wpAny_execs_cons ?_; with_reducible refine wpAny_Assign_Name ?_ ?as2x28; (case as2x28 => with_unfolding_all exact rfl))
  refine Call_ (nmG G F.keep (at_translate w) (callWith_fn (G.ext F.keep).k (keep_translate w) (args_cons (ld F rfl (args_cons (ld F rfl (args_cons (Constant_str (args_nil ⟨Ext.refl _, ?_⟩)))))))))
  refine useN F N (sp_parse (G.ext F.keep) hh (by show A.depth + 1 + 1 < _; (first | lia | omega)) hl hlen (.inr ⟨sa, rfl⟩)) ?_
  rintro v os h₃ tk₃ x F N ⟨D, n, vs, rfl, rfl, P⟩
  refine stN F N (fun h₄ F N => ?_)
  dsimp only at F N ⊢
  (refine wpAny_execs_cons ?_; with_reducible refine wpAny_Return_some ?_)
  refine Call_ (nmG G F.keep (at_join w) (callWith_fn (G.ext F.keep).k (keep_join w) (args_cons (ld F rfl (args_cons (ld F rfl (args_nil ⟨Ext.refl _, ?_⟩)))))))
  refine useN F N (sp_join (G.ext F.keep) hh (by show A.depth + 1 < _; (first | lia | omega)) (N.isList (.head _)) P (sep_parts l) (Nat.le_trans (parts_len l) hlen) (.inr ⟨sa, rfl⟩)) ?_
  rintro v os h₅ tk₅ x F N ⟨rfl, u, rfl⟩
  exact hKf _ _ (afterF F News.nil [] (fun _ h => nomatch h) ⟨rfl, _, rfl⟩)
end
end Mine
end
section
open PySem PySem.W PySem.Calls PyProof.Rows
set_option maxRecDepth 100000
set_option maxHeartbeats 4000000
namespace Mine
theorem at_holds (w : World) : nsIn (hdK w.params) mainGlobals "_law_holds" = some (some (.ref 200)) := by k_is
theorem keep_holds (w : World) : keepIn (hdK w.params) (.ref 200) = true := by k_is
section
variable {prog : Program} {w : World} {mg mb : Str → Option Value}

theorem empty_eq : Str.ofString "" = S [] := by decide +kernel
theorem s_beq (a b : List Nat) : (S a == S b) = (a == b) := by
  rw [Bool.eq_iff_iff, beq_iff_eq, beq_iff_eq]
  constructor
  · intro h; injection h with h; simpa using h
  · rintro rfl; rfl
theorem s_bne (a b : List Nat) : (S a != S b) = (a != b) := by show (!(S a == S b)) = !(a == b); rw [s_beq]
theorem slice_drop (l : List Nat) (k : Nat) (h : k ≤ l.length) : Txt.slice (S l) (some (k : Int)) none = S (l.drop k) := by
  have hl : (S l).length = l.length := by show l.toArray.size = _; simp
  rw [slice_from_eq (b := (l.length : Int)) (by (first | lia | omega)) (by rw [hl]; (first | lia | omega)) (by rw [hl])]
  simp
  exact List.take_of_length_le (by simp)

/-- x[1:] -/
theorem tail_ {A : Around} {s : Shared} {cn : Str} {cs : Scope} {a L : Addr} {ccd : Value} {x : Str} {k : Nat} {p1 p2 p3 p4 : Pos} {h₀ : Heap} {m : Str → Option Value} {c : Nat} {l : List Nat} {t : Tok} {news : List (Addr × Obj)} {E Q : Value → Shared → Prop}
    (F : Fr h₀ L s.heap m) (N : News h₀ L s.heap news) (hm : m x = some (.str (S (c :: l)) t)) (hl : l.length ≤ 100000)
    (h : ∀ h' t' k, Fr h₀ L h' m → News h₀ L h' news → Q (.str (S l) t') { s with heap := h', toks := k })
    (hk : cs.kind = .function := by rfl) (hx : (envOf cn cs L a ccd).kindOf x = some .local := by rfl) (hd : (x == ("__debug__" : Str)) = false := by decide) :
    wpAny (model prog w) A (eval (.Subscript (.Name x p1) (.Slice (some (.Constant (.int 1) k p2)) none none p3) p4) (envOf cn cs L a ccd)) Q E s := by
  refine Subscript_ (ld F hm ?_ hk hx hd)
  refine wpAny_Slice ?_
  refine evalPart_some_step (wpAny_Constant_int ?_)
  refine evalPart_none_step (evalPart_none_step ?_)
  refine slice_strN_sn F N (fun h' t' k F' N' => ?_) ?_ ?_ ?_
  · have e := slice_drop (c :: l) 1 (by simp)
    rw [show ((1 : Nat) : Int) = 1 from rfl] at e
    rw [e]
    exact h h' t' k F' N'
  · with_unfolding_all rfl
  · intro _; with_unfolding_all rfl
  · show (c :: l).toArray.size ≤ sizeLine
    rw [sizeLine_eq]; simp; (first | lia | omega)

theorem s_empty (a : List Nat) : (S a == Str.ofString "") = (a == []) := by rw [empty_eq, s_beq]
theorem s_nempty (a : List Nat) : (S a != Str.ofString "") = (a != []) := by rw [empty_eq, s_bne]
theorem one_star (c : Nat) : ((⟨#[c]⟩ : Str) == Str.ofString "*") = (c == 42) := by rw [star_eq, one_eq]

/-- _law_holds -/
theorem sp_holds : ∀ (n : Nat) (o i : List Nat) (A : Around) (s : Shared) (t u : Tok), o.length + i.length < n → n ≤ 500 → Gd w mg mb s.heap → A.depth + n ≤ recursionLimit →
    wpAny (model prog w) A (call (.ref 200) [.str (S o) t, .str (S i) u]) (After s fun v os => os = [] ∧ v = .bool (hold o i)) No s := by
  intro n
  induction n with
  | zero => exact fun o i A s t u h => absurd h (Nat.not_lt_zero _)
  | succ n ih =>
  intro o i A s t u hn hn5 G hd
  refine enterK (binds := [(Str.ofString "outer", .str (S o) t), (Str.ofString "inner", .str (S i) u)]) G (by k_is) (by k_is) (by (first | lia | omega)) (BindsTo.of_eq rfl) (locs rfl) (fun Kf hKf L h₁ F => ?_) (by decide) rfl rfl rfl
  have dd : ∀ env, (A.deeper env).depth + n ≤ recursionLimit := fun env => by show A.depth + 1 + n ≤ _; (first | lia | omega)
  (refine wpAny_execs_cons ?_; with_reducible refine wpAny_If ?_)
  refine wpAny_isTrue_Compare1 (ld F rfl (Constant_str (eq_str (wpAny_truthy_bool ?_))))
  rw [s_empty]
  cases o with
  | nil =>
    rw [if_pos (by rfl)]
    (refine wpAny_execs_cons ?_; with_reducible refine wpAny_Return_some ?_)
    refine wpAny_Compare1 (ld F rfl (Constant_str (eq_str ?_)))
    rw [s_empty]
    refine hKf _ _ (afterF F News.nil [] (fun _ h => nomatch h) ⟨rfl, ?_⟩)
    rw [hold_nil]; cases i <;> rfl
  | cons c o =>
    rw [if_neg (by simp)]
    refine wpAny_execs_nil ?_
    (refine wpAny_execs_cons ?_; with_reducible refine wpAny_If ?_)
    refine wpAny_isTrue_Compare1 (Subscript_ (ld F rfl (wpAny_Constant_int ?_)))
    refine item_str (by decide) (by show -((c :: o).length : Int) ≤ _; (first | lia | omega)) (by show _ < ((c :: o).length : Int); simp) (fun _ => ?_)
    have e0 := item_at (l := c :: o) (k := 0) (c := c) rfl
    rw [show ((0 : Nat) : Int) = 0 from rfl] at e0
    rw [e0]
    refine Constant_str (eq_str (wpAny_truthy_bool ?_))
    rw [one_star]
    have hlen : o.length ≤ 100000 ∧ i.length ≤ 100001 := by simp at hn; (first | lia | omega)
    by_cases h42 : c = 42
    · rw [if_pos (by rw [h42]; rfl)]
      (refine wpAny_execs_cons ?_; with_reducible refine wpAny_Return_some ?_)
      refine BoolOp_or ?_
      refine Call_ (nmG G F.keep (at_holds w) (callWith_K (G.ext F.keep).k (keep_holds w) (args_cons ?_)))
      refine tail_ F News.nil rfl hlen.1 (fun h₂ t₂ k₂ F₂ _ => ?_)
      refine args_cons (ld F₂ rfl (args_nil ⟨(G.ext F₂.keep).k, ?_⟩))
      refine useN F₂ News.nil (ih o i _ _ _ _ (by simp at hn; (first | lia | omega)) (by (first | lia | omega)) (G.ext F₂.keep) (dd _)) ?_
      rintro v os h₃ tk₃ x F₃ N₃ ⟨rfl, rfl⟩
      refine wpAny_truthy_bool ?_
      by_cases hb : hold o i = true
      · rw [if_pos hb]
        refine hKf _ _ (afterF F₃ News.nil [] (fun _ h => nomatch h) ⟨rfl, ?_⟩)
        rw [hb]
        cases i with
        | nil => rw [hold_cn, hb, h42]; rfl
        | cons d i => rw [hold_cc, if_pos h42, hb]; rfl
      · rw [if_neg hb]
        have hb : hold o i = false := by simpa using hb
        refine BoolOp_one (BoolOp_and (wpAny_Compare1 (ld F₃ rfl (Constant_str (ne_str ?_)))))
        rw [s_nempty]
        refine wpAny_truthy_bool ?_
        cases i with
        | nil =>
          rw [if_neg (by decide)]
          refine hKf _ _ (afterF F₃ News.nil [] (fun _ h => nomatch h) ⟨rfl, ?_⟩)
          rw [hold_cn, hb, Bool.and_false]; rfl
        | cons d i =>
          rw [if_pos (by rfl)]
          refine BoolOp_one (Call_ (nmG G F₃.keep (at_holds w) (callWith_K (G.ext F₃.keep).k (keep_holds w) (args_cons (ld F₃ rfl (args_cons ?_))))))
          refine tail_ F₃ News.nil rfl (by simp at hlen; (first | lia | omega)) (fun h₄ t₄ k₄ F₄ _ => ?_)
          refine args_nil ⟨(G.ext F₄.keep).k, ?_⟩
          refine useN F₄ News.nil (ih (c :: o) i _ _ _ _ (by simp at hn ⊢; (first | lia | omega)) (by (first | lia | omega)) (G.ext F₄.keep) (dd _)) ?_
          rintro v os h₅ tk₅ x F₅ N₅ ⟨rfl, rfl⟩
          refine hKf _ _ (afterF F₅ News.nil [] (fun _ h => nomatch h) ⟨rfl, ?_⟩)
          rw [hold_cc, if_pos h42, hb, Bool.false_or]
    · rw [if_neg (by simpa using h42)]
      refine wpAny_execs_nil ?_
      (refine wpAny_execs_cons ?_; with_reducible refine wpAny_Return_some ?_)
      refine BoolOp_and (wpAny_Compare1 (ld F rfl (Constant_str (ne_str ?_))))
      rw [s_nempty]
      refine wpAny_truthy_bool ?_
      cases i with
      | nil =>
        rw [if_neg (by decide)]
        refine hKf _ _ (afterF F News.nil [] (fun _ h => nomatch h) ⟨rfl, ?_⟩)
        rw [hold_cn, beq_eq_false_iff_ne.mpr h42]; rfl
      | cons d i =>
        rw [if_pos (by rfl)]
        refine BoolOp_and (wpAny_Compare1 (Subscript_ (ld F rfl (wpAny_Constant_int ?_))))
        refine item_str (by decide) (by show -((c :: o).length : Int) ≤ _; (first | lia | omega)) (by show _ < ((c :: o).length : Int); simp) (fun _ => ?_)
        rw [e0]
        refine Subscript_ (ld F rfl (wpAny_Constant_int ?_))
        refine item_str (by decide) (by show -((d :: i).length : Int) ≤ _; (first | lia | omega)) (by show _ < ((d :: i).length : Int); simp) (fun _ => ?_)
        have e1 := item_at (l := d :: i) (k := 0) (c := d) rfl
        rw [show ((0 : Nat) : Int) = 0 from rfl] at e1
        rw [e1]
        refine eq_str ?_
        rw [one_eq]
        refine wpAny_truthy_bool ?_
        by_cases hcd : c = d
        · rw [if_pos (by rw [hcd]; exact beq_self_eq_true _)]
          refine BoolOp_one (Call_ (nmG G F.keep (at_holds w) (callWith_K (G.ext F.keep).k (keep_holds w) (args_cons ?_))))
          refine tail_ F News.nil rfl hlen.1 (fun h₂ t₂ k₂ F₂ _ => ?_)
          refine args_cons ?_
          refine tail_ F₂ News.nil rfl (by simp at hlen; (first | lia | omega)) (fun h₄ t₄ k₄ F₄ _ => ?_)
          refine args_nil ⟨(G.ext F₄.keep).k, ?_⟩
          refine useN F₄ News.nil (ih o i _ _ _ _ (by simp at hn ⊢; (first | lia | omega)) (by (first | lia | omega)) (G.ext F₄.keep) (dd _)) ?_
          rintro v os h₅ tk₅ x F₅ N₅ ⟨rfl, rfl⟩
          refine hKf _ _ (afterF F₅ News.nil [] (fun _ h => nomatch h) ⟨rfl, ?_⟩)
          rw [hold_cc, if_neg h42, hcd, beq_self_eq_true, Bool.true_and]
        · rw [if_neg (by simpa using hcd)]
          refine hKf _ _ (afterF F News.nil [] (fun _ h => nomatch h) ⟨rfl, ?_⟩)
          rw [hold_cc, if_neg h42, beq_eq_false_iff_ne.mpr hcd]; rfl
end
end Mine
end
section
open PySem PySem.W PySem.Calls PyProof.Rows
set_option maxRecDepth 100000
set_option maxHeartbeats 4000000
namespace Mine
section
variable {prog : Program} {w : World} {mg mb : Str → Option Value} {A : Around} {s : Shared}

inductive FLI (s : Shared) (h₀ : Heap) (L l I : Addr) (n : Nat) (J : Nat → (Str → Option Value) → List (Addr × Obj) → Prop) (k : Nat) (s' : Shared) : Prop
  | mk (h' : Heap) (tk : Nat) (m' : Str → Option Value) (news' : List (Addr × Obj)) (i : Nat) (e : s' = { s with heap := h', toks := tk }) (hit : h'.IsListIter I l i) (F : Fr h₀ L h' m') (N : News h₀ L h' news') (hne : ∀ p ∈ news', p.1 ≠ I) (hJ : J i m' news') (hi : i ≤ n) (hk : k = n + 1 - i)
/-- a for loop over a list that stands still -/
theorem forList {h₀ : Heap} {L l : Addr} {items : Array Value} {m : Str → Option Value} {news : List (Addr × Obj)} {target : Expr} {body : List Stmt} {env : Env} {E : Value → Shared → Prop} {R : Result → Shared → Prop}
    (J : Nat → (Str → Option Value) → List (Addr × Obj) → Prop) (hh : A.handled = none) (F : Fr h₀ L s.heap m) (N : News h₀ L s.heap news) (hJ : J 0 m news)
    (hl : ∀ i m' news' h, J i m' news' → Fr h₀ L h m' → News h₀ L h news' → h.IsList l items)
    (step : ∀ i v m' news' h tk I oI, items[i]? = some v → J i m' news' → Fr h₀ L h m' → News h₀ L h ((I, oI) :: news') → (∀ p ∈ news', p.1 ≠ I) →
      wpAny (model prog w) A (assign target env v) (fun _ s₂ => wpAny (model prog w) A (execs body env) (fun f s₃ => f = .next ∧ ∃ h' tk' m'' news'', s₃ = { s with heap := h', toks := tk' } ∧ Fr h₀ L h' m'' ∧ News h₀ L h' ((I, oI) :: news'') ∧ (∀ p ∈ news'', p.1 ≠ I) ∧ J (i + 1) m'' news'') No s₂) No { s with heap := h, toks := tk })
    (done : ∀ h tk m' news', Fr h₀ L h m' → News h₀ L h news' → J items.size m' news' → R (.ok .next) { s with heap := h, toks := tk })
    (ht : ∀ it v, letOwnedTupleGo target it v = pure () := by intro _ _; rfl) :
    wpAny (model prog w) A (pyIter (.ref l)) (fun it s₂ => codeAny (model prog w) A (.forLoop target it body [] env) R s₂) E s := by
  have hl0 := hl 0 m news s.heap hJ F N
  refine wpAny_pyIter_list hl0 ?_
  obtain ⟨ol, hol, _⟩ := id hl0
  have hlt := Heap.lt_size hol
  have hI0 : h₀.get? s.heap.objs.size = none := by
    cases e : h₀.get? s.heap.objs.size with
    | none => rfl
    | some o => exact absurd (Heap.lt_size (F.keep _ _ e)) (Nat.lt_irrefl _)
  have hIL : s.heap.objs.size ≠ L := Nat.ne_of_gt F.ns.lt
  have W := Walks.list (prog := prog) (w := w) (A := A) hh s.heap.objs.size l (Nat.ne_of_lt hlt) items
  have hne0 : ∀ p ∈ news, p.1 ≠ s.heap.objs.size := fun p hp => Nat.ne_of_lt (Heap.lt_size (N p hp).1)
  have push_keep : ∀ {o : Obj} (b : Addr) (ob : Obj), s.heap.get? b = some ob → (s.heap.push o).get? b = some ob := fun b ob e => Heap.get?_push_of_some _ e
  obtain ⟨I, hI⟩ : ∃ I, I = s.heap.objs.size := ⟨_, rfl⟩
  rw [← hI] at hI0 hIL W hne0 ⊢
  have notI : ∀ (b : Addr) (o : Obj), h₀.get? b = some o → b ∉ [I] := fun b o e hb => by rw [List.mem_singleton.mp hb, hI0] at e; cases e
  refine codeAny_forLoop (FLI s h₀ L l I items.size J) ?_ (items.size + 1)
    ⟨_, _, m, news, 0, rfl, by rw [hI]; exact ⟨_, Heap.get?_push_size _ rfl, rfl, rfl⟩, F.keeps push_keep, N.grown push_keep, hne0, hJ, Nat.zero_le _, rfl⟩ (fun v => ht _ v)
  · rintro k s' ⟨h', tk, m', news', i, rfl, hit, F', N', hne, hJ', hi, rfl⟩
    have hli := hl i m' news' h' hJ' F' N'
    have next : ∀ h₁ : Heap, (∀ b o, b ∉ [I] → h'.get? b = some o → h₁.get? b = some o) → Fr h₀ L h₁ m' ∧ News h₀ L h₁ news' := fun h₁ hk₁ =>
      ⟨⟨F'.ns.at' fun o e => hk₁ _ o (by simpa using Ne.symm hIL) e, fun b o e => hk₁ b o (notI b o e) (F'.keep b o e), F'.above⟩, fun p hp => ⟨hk₁ _ _ (by simpa using hne p hp) (N' p hp).1, (N' p hp).2⟩⟩
    by_cases hlt : i < items.size
    · refine W.item i _ _ _ hlt ⟨hit, hli⟩ fun v h₁ tk₁ hP hst₁ hk₁ => ?_
      obtain ⟨F₁, N₁⟩ := next h₁ hk₁
      obtain ⟨oI, hoI, hrest⟩ := id hst₁.1
      have N₂ : News h₀ L h₁ ((I, oI) :: news') := fun p hp => by
        rcases List.mem_cons.mp hp with rfl | hp
        · exact ⟨hoI, hIL, hI0⟩
        · exact N₁ p hp
      refine wpAny_mono (step i v m' news' h₁ tk₁ I oI hP hJ' F₁ N₂ hne) (fun _ s₂ h₂ => wpAny_mono h₂ (fun f s₃ h₃ => ?_) fun _ _ e => e.elim) fun _ _ e => e.elim
      obtain ⟨rfl, h₃, tk₃, m₃, news₃, rfl, F₃, N₃, hne₃, hJ₃⟩ := h₃
      exact ⟨items.size + 1 - (i + 1), by (first | lia | omega), h₃, tk₃, m₃, news₃, i + 1, rfl, ⟨oI, N₃.get (.head _), hrest⟩, F₃, fun p hp => N₃ p (.tail _ hp), hne₃, hJ₃, hlt, rfl⟩
    · obtain rfl : i = items.size := by (first | lia | omega)
      refine W.done _ _ _ ⟨hit, hli⟩ fun h₁ tk₁ hk₁ => ?_
      obtain ⟨F₁, N₁⟩ := next h₁ hk₁
      exact wpAny_execs_nil (done h₁ tk₁ m' news' F₁ N₁ hJ')
/-- the same, what is wanted behind a turn a variable -/
theorem forListK {h₀ : Heap} {L l : Addr} {items : Array Value} {m : Str → Option Value} {news : List (Addr × Obj)} {target : Expr} {body : List Stmt} {env : Env} {E : Value → Shared → Prop} {R : Result → Shared → Prop}
    (J : Nat → (Str → Option Value) → List (Addr × Obj) → Prop) (hh : A.handled = none) (F : Fr h₀ L s.heap m) (N : News h₀ L s.heap news) (hJ : J 0 m news)
    (hl : ∀ i m' news' h, J i m' news' → Fr h₀ L h m' → News h₀ L h news' → h.IsList l items)
    (step : ∀ (X : Flow → Shared → Prop) i v m' news' h tk I oI, (∀ h' tk' m'' news'', Fr h₀ L h' m'' → News h₀ L h' ((I, oI) :: news'') → (∀ p ∈ news'', p.1 ≠ I) → J (i + 1) m'' news'' → X .next { s with heap := h', toks := tk' }) →
      items[i]? = some v → J i m' news' → Fr h₀ L h m' → News h₀ L h ((I, oI) :: news') → (∀ p ∈ news', p.1 ≠ I) →
      wpAny (model prog w) A (assign target env v) (fun _ s₂ => wpAny (model prog w) A (execs body env) X No s₂) No { s with heap := h, toks := tk })
    (done : ∀ h tk m' news', Fr h₀ L h m' → News h₀ L h news' → J items.size m' news' → R (.ok .next) { s with heap := h, toks := tk })
    (ht : ∀ it v, letOwnedTupleGo target it v = pure () := by intro _ _; rfl) :
    wpAny (model prog w) A (pyIter (.ref l)) (fun it s₂ => codeAny (model prog w) A (.forLoop target it body [] env) R s₂) E s :=
  forList J hh F N hJ hl (fun i v m' news' h tk I oI a b c d e => step (fun f s₃ => f = .next ∧ ∃ h' tk' m'' news'', s₃ = { s with heap := h', toks := tk' } ∧ Fr h₀ L h' m'' ∧ News h₀ L h' ((I, oI) :: news'') ∧ (∀ p ∈ news'', p.1 ≠ I) ∧ J (i + 1) m'' news'')
    i v m' news' h tk I oI (fun h' tk' m'' news'' x y z u => ⟨rfl, h', tk', m'', news'', rfl, x, y, z, u⟩) a b c d e) done ht
end
end Mine
end
section
open PySem PySem.W PySem.Calls PyProof.Rows
set_option maxRecDepth 100000
set_option maxHeartbeats 4000000
namespace Mine
theorem at_list (w : World) : nsIn (hdK w.params) mainGlobals "list" = some none := by k_is
theorem at_range (w : World) : nsIn (hdK w.params) mainGlobals "range" = some none := by k_is
section
variable {prog : Program} {w : World} {mg mb : Str → Option Value} {A : Around} {s : Shared}

def nats (l : List Nat) : List Int := l.map fun (n : Nat) => (n : Int)

theorem paired_at' {α β : Type} {F : α → β → Prop} {a : List α} {b : List β} (h : Paired F a b) {k : Nat} {y : β} (hy : b[k]? = some y) : ∃ x, a[k]? = some x ∧ F x y := by
  induction h generalizing k with
  | nil => simp at hy
  | cons e t ih =>
    cases k with
    | zero => simp at hy; subst hy; exact ⟨_, rfl, e⟩
    | succ k => exact ih (by simpa using hy)
theorem stepP_ok {l places : List Nat} {p : Option Nat} (h1 : ∀ x ∈ places, x ≤ l.length) (h2 : places.length ≤ l.length + 1) : (∀ x ∈ stepP l places p, x ≤ l.length) ∧ (stepP l places p).length ≤ l.length + 1 := by
  cases p with
  | none =>
    cases places with
    | nil => simp [stepP]
    | cons a r =>
      have := h1 a (.head _)
      refine ⟨fun x hx => ?_, by simp [stepP]⟩
      simp only [stepP, List.mem_range'_1] at hx; (first | lia | omega)
  | some c =>
    refine ⟨fun x hx => ?_, ?_⟩
    · simp only [stepP, List.mem_map, List.mem_filter, Bool.and_eq_true, decide_eq_true_eq] at hx
      obtain ⟨a, ⟨_, h, _⟩, rfl⟩ := hx; (first | lia | omega)
    · simp only [stepP, List.length_map]
      exact Nat.le_trans (List.length_filter_le _ _) h2
theorem one_dot (c : Nat) : ((⟨#[c]⟩ : Str) == Str.ofString ".") = (c == 46) := by rw [dot_eq, one_eq]
theorem ints_range (a n : Nat) : rangeInts (a : Int) 1 n = nats (List.range' a n) := by
  refine List.ext_getElem? fun j => ?_
  by_cases h : j < n
  · rw [rangeInts_get h]
    unfold nats
    rw [List.getElem?_map, List.getElem?_range' h]
    simp
  · rw [List.getElem?_eq_none (by rw [rangeInts_length]; (first | lia | omega)), List.getElem?_eq_none (by simp [nats]; (first | lia | omega))]
def keepsP (l : List Nat) (c : Nat) : Value → Bool
  | .int n _ => decide (n.toNat < l.length) && (c == 46 || some c == l[n.toNat]?)
  | _ => false
theorem ints_step {l : List Nat} {c : Nat} {pv : List Value} {places : List Nat} {zs : List (Value × List (Addr × Obj))} (hI : IntsAre pv (nats places))
    (h : Paired (fun v (z : Value × List (Addr × Obj)) => (∀ n t, v = .int n t → ∃ u, z.1 = .int (n + 1) u) ∧ z.2 = []) (pv.filter (keepsP l c)) zs) : IntsAre (zs.map (·.1)) (nats (stepP l places (some c))) ∧ zs.flatMap (·.2) = [] := by
  induction places generalizing pv zs with
  | nil => cases hI; cases h; exact ⟨.nil, rfl⟩
  | cons a r ih =>
    obtain ⟨t, pv', rfl, hI'⟩ : ∃ t pv', pv = .int (a : Int) t :: pv' ∧ IntsAre pv' (nats r) := by cases hI; exact ⟨_, _, rfl, by assumption⟩
    have e : keepsP l c (.int (a : Int) t) = (decide (a < l.length) && (c == 46 || some c == l[a]?)) := by simp [keepsP]
    by_cases hk : (decide (a < l.length) && (c == 46 || some c == l[a]?)) = true
    · rw [List.filter_cons_of_pos (by rw [e]; exact hk)] at h
      cases h with
      | cons h0 h =>
        rename_i z zs'
        obtain ⟨i1, i2⟩ := ih hI' h
        obtain ⟨u, hu⟩ := h0.1 _ _ rfl
        have es : stepP l (a :: r) (some c) = (a + 1) :: stepP l r (some c) := by simp only [stepP]; rw [List.filter_cons, if_pos hk]; rfl
        refine ⟨?_, by rw [List.flatMap_cons, h0.2, i2]; rfl⟩
        rw [es, List.map_cons, hu]
        exact .cons _ _ i1
    · rw [List.filter_cons_of_neg (by rw [e]; exact hk)] at h
      have es : stepP l (a :: r) (some c) = stepP l r (some c) := by simp only [stepP]; rw [List.filter_cons, if_neg hk]
      rw [es]
      exact ih hI' h
theorem at_nats {pv : List Value} {places : List Nat} {B : Nat} (hI : IntsAre pv (nats places)) (hB : ∀ x ∈ places, x ≤ B) {j : Nat} {v : Value} (hP : pv.toArray[j]? = some v) : ∃ n : Nat, ∃ tn, v = .int (n : Int) tn ∧ n ≤ B := by
  have hP : pv[j]? = some v := by simpa using hP
  induction places generalizing pv j with
  | nil => cases hI; simp at hP
  | cons a r ih =>
    obtain ⟨t, pv', rfl, hI'⟩ : ∃ t pv', pv = .int (a : Int) t :: pv' ∧ IntsAre pv' (nats r) := by cases hI; exact ⟨_, _, rfl, by assumption⟩
    cases j with
    | zero => simp at hP; exact ⟨a, t, hP.symm, hB a (.head _)⟩
    | succ j => exact ih hI' (fun x hx => hB x (List.mem_cons_of_mem _ hx)) (by simpa using hP) (by simpa using hP)
/-- global names, in a block with cells -/
theorem gnX {M : Model} {E : Value → Shared → Prop} {Q : Value → Shared → Prop} {h₀ : Heap} {L a : Addr} {m : Str → Option Value} {cn : Str} {cs : Scope} {ccd : Value} {cl : List (Str × Addr)} {x : Str} {pos : Pos} {v : Value} (F : Fr h₀ L s.heap m) (G : Gd w mg mb h₀) (e : nsIn (hdK w.params) mainGlobals x = some none) (hv : bootBuiltins x = some v) (hn : x ≠ "__name__") (h : Q v s)
    (hk : cs.kind = .function := by rfl) (hx : (envX cn cs L a ccd cl).kindOf x = some .globalImplicit := by rfl) (hd : (x == ("__debug__" : Str)) = false := by decide) :
    wpAny M A (eval (.Name x pos) (envX cn cs L a ccd cl)) Q E s :=
  nmB G F.keep e hv hn h rfl rfl hk hx hd

/-- where the loop of _law_takes stands -/
inductive TakesJ (l : List Nat) (I : Addr) (o2 : Obj) (L : Addr) (ps : List (Option Nat)) (i : Nat) (m : Str → Option Value) (news : List (Addr × Obj)) : Prop
  | mk (oP : Obj) (Pl : Addr) (pv : List Value) (nn : Nat) (e : news = [(Pl, listO pv nn), (L + 1 + 1, oP), (L + 1, o2)]) (hc : ∃ v, oP.data = .cell v) (e1 : m "places" = some (.ref Pl)) (e2 : m "parts" = some (.ref I)) (n1 : Pl ≠ L + 1 + 1) (n2 : Pl ≠ L + 1)
    (hI : IntsAre pv (nats ((ps.take i).foldl (stepP l) [0])) ∧ (∀ x ∈ (ps.take i).foldl (stepP l) [0], x ≤ l.length) ∧ ((ps.take i).foldl (stepP l) [0]).length ≤ l.length + 1)
/-- _law_takes -/
theorem sp_takes {ps : List (Option Nat)} {vs : List Value} {I : Addr} {l : List Nat} {t : Tok} (G : Gd w mg mb s.heap) (hh : A.handled = none) (hd : A.depth < recursionLimit) (hu : A.units + 200 < cLine)
    (hl : s.heap.IsList I vs.toArray) (P : Paired (partV .none) ps vs) (hps : ps.length ≤ 5000) (hlen : l.length ≤ 5000) :
    wpAny (model prog w) A (call (.ref 193) [.ref I, .str (S l) t]) (After s fun v os => os = [] ∧ v = .bool (takes ps l)) No s := by
  refine enterCK (binds := [(Str.ofString "parts", .ref I), (Str.ofString "name", .str (S l) t)]) G (by k_is) (by k_is) hd (BindsTo.of_eq rfl) (by rfl) (by decide) (fun K hK L h₁ tk cells F N Y => ?_) rfl rfl rfl
  obtain ⟨o1, o2, rfl, ho1, ho2⟩ := Y.two
  have ho1 : o1.data = .cell none := ho1
  have ho2 : o2.data = .cell (some (.str (S l) t)) := ho2
  have hs1 : L + 1 + 1 < h₁.objs.size := Heap.lt_size (N.get (.head _))
  (refine wpAny_execs_cons ?_; with_reducible refine wpAny_Assign_Name ?_ ?as2x35; (case as2x35 => with_unfolding_all exact rfl))
  refine List_ (args_cons (wpAny_Constant_int (args_nil ?_)))
  refine newList_N F N (fun h₂ F N => ?_)
  refine storeX_L F N (fun h₃ F N => ?_)
  dsimp only at F N ⊢
  refine wpAny_execs_cons ?_
  refine wpAny_For ?_
  refine nameX_L F rfl ?_
  refine forListK (m := _) (news := _) (items := vs.toArray) (TakesJ l I o2 L ps) hh F N ?_ ?_ ?_ ?_ (fun _ _ => rfl)
  · exact ⟨o1, _, _, _, rfl, ⟨_, ho1⟩, rfl, rfl, Nat.ne_of_gt hs1, Nat.ne_of_gt (Nat.lt_trans (Nat.lt_succ_self _) hs1), .cons _ _ .nil, by simp, by simp⟩
  · rintro i m' news' h - F N
    exact F.lst hl
  · clear F N
    rintro X i v m news' h tk J oI hX hv ⟨oP, Pl, pv, nn, rfl, ⟨cv, hcv⟩, e1, e2, hne2, hne1, hI, hB1, hB2⟩ F N hne
    have hJ2 : J ≠ L + 1 + 1 := (hne _ (.tail _ (.head _))).symm
    have hv : vs[i]? = some v := by simpa using hv
    obtain ⟨p, hp, hpv⟩ := paired_at' P hv
    refine assign_Name (storeX_C F N rfl (.tail hJ2 (.tail hne2 (.head (fun p hp => by rw [List.mem_singleton.mp hp]; exact Nat.ne_of_lt (Nat.lt_succ_self _))))) hcv ?_)
    intro h₄ oP' F N hoP
    dsimp only at N ⊢
    have htake : ps.take (i + 1) = ps.take i ++ [p] := by rw [List.take_add_one, hp]; rfl
    have hfold : (ps.take (i + 1)).foldl (stepP l) [0] = stepP l ((ps.take i).foldl (stepP l) [0]) p := by rw [htake, List.foldl_append]; rfl
    generalize (ps.take i).foldl (stepP l) [0] = places at hI hfold hB1 hB2
    have hB := stepP_ok (p := p) hB1 hB2
    (refine wpAny_execs_cons ?_; with_reducible refine wpAny_If ?_)
    have hlen63 : ¬ ((S l).length : Int) ≥ 2 ^ 63 := by show ¬ (l.toArray.size : Int) ≥ _; simp; (first | lia | omega)
    cases p with
    | none =>
      have hpv : v = .none := hpv
      refine wpAny_isTrue_Compare1 (nameX_C N rfl (.tail _ (.tail _ (.head _))) hoP (wpAny_Constant_none ?_))
      rw [hpv]
      refine wpAny_is_self rfl (wpAny_truthy_bool ?_)
      rw [if_pos rfl]
      (refine wpAny_execs_cons ?_; with_reducible refine wpAny_Assign_Name ?_ ?as2x37; (case as2x37 => with_unfolding_all exact rfl))
      refine IfExp_ ?_
      refine wpAny_isTrue_Compare1 (nameX_L F e1 (List_ (args_nil ?_)))
      refine newList_N F N (fun h₅ F N => ?_)
      have hD5 := N.get (.head _)
      refine ne_intsK (N.isList (.tail _ (.tail _ (.head _)))) hI ⟨_, hD5, rfl, _, rfl⟩ .nil (by rw [units_deeper]; (first | lia | omega)) ?_
      refine wpAny_truthy_bool ?_
      have s1 : L + 1 + 1 < h₅.objs.size := Heap.lt_size (N.get (.tail _ (.tail _ (.tail _ (.head _)))))
      have s2 : J < h₅.objs.size := Heap.lt_size (N.get (.tail _ (.head _)))
      have sL : L < h₅.objs.size := F.ns.lt
      cases places with
      | nil =>
        rw [if_neg (by decide)]
        refine List_ (args_nil ?_)
        refine newList_N F N (fun h₆ F N => ?_)
        refine storeX_L F N (fun h₇ F N => ?_)
        dsimp only at F N s1 s2 ⊢
        refine wpAny_execs_nil (wpAny_execs_nil (hX h₇ _ _ [(_, listO [] 0), (L + 1 + 1, oP'), (L + 1, o2)] F (newsC (N _ (.tail _ (.tail _ (.head _)))) (newsC (N _ (.head _)) fun p hp => N p (.tail _ (.tail _ (.tail _ (.tail _ hp))))))
          (allC (Nat.ne_of_gt s2) (allC hJ2.symm (allC (hne (L + 1, o2) (.tail _ (.tail _ (.head _)))) allN))) ⟨oP', _, _, _, rfl, ⟨_, hoP⟩, rfl, e2, Nat.ne_of_gt s1, Nat.ne_of_gt (Nat.lt_trans (Nat.lt_succ_self _) s1), ?_⟩))
        · rw [hfold]; exact ⟨.nil, hB⟩
      | cons p0 r0 =>
        rw [if_pos (by simp [nats])]
        obtain ⟨tp, pv', rfl, hI'⟩ : ∃ tp pv', pv = .int (p0 : Int) tp :: pv' ∧ IntsAre pv' (nats r0) := by cases hI; exact ⟨_, _, rfl, by assumption⟩
        have hp0 : p0 ≤ l.length := hB1 p0 (.head _)
        refine Call_ (gnX F G (at_list w) rfl (by decide) (PyProof.Rows.callWith_type1 (args_cons ?_)))
        refine Call_ (gnX F G (at_range w) rfl (by decide) (PyProof.Rows.callWith_type1 (args_cons ?_)))
        refine Subscript_ (nameX_L F e1 (wpAny_Constant_int (item_listL (N.isList (.tail _ (.tail _ (.head _)))) (by decide) (by decide) rfl ?_)))
        refine args_cons (wpAny_BinOp (Call_ (gnX F G (at_len w) rfl (by decide) (callWith_builtin1 (args_cons (nameX_C N rfl (.tail _ (.tail _ (.tail _ (.tail _ (.head _))))) ho2 (args_nil ?_)))))))
        refine len_str hlen63 (wpAny_Constant_int (add_int (args_nil ?_)))
        dsimp only
        refine call_range_2 (args_nil ?_)
        refine list_rangeD hh (F.push _) (N.push F _) (IsRange.new ..) (small_one (by (first | lia | omega)) (by (first | lia | omega)) (by (first | lia | omega)) (by show ((S l).length : Int) + 1 < _; show (l.toArray.size : Int) + 1 < _; simp; (first | lia | omega))) (rangeSize_nat _ _) (by show (((S l).length : Int) + 1 - p0).toNat ≤ _; show ((l.toArray.size : Int) + 1 - p0).toNat ≤ _; simp; (first | lia | omega)) (fun h₆ tk₆ ys F N x hnone hlist hplain hc => ?_)
        obtain ⟨⟨c', hD⟩, -⟩ := hplain
        have hIy : IntsAre ys (nats (List.range' p0 (l.length + 1 - p0))) := by
          have e0 := CarriedAll.intsOf (f := fun n => n) hc
          rw [← ints_range]
          have e1 : (((S l).length : Int) + 1 - (p0 : Int)).toNat = l.length + 1 - p0 := by show ((l.toArray.size : Int) + 1 - p0).toNat = _; simp
          rw [e1] at e0
          simpa using e0
        dsimp only at hnone hD F N ⊢
        have hb1 : ∀ x, x < h₅.objs.size → (Heap.push h₅ { cls := .type "range", data := .fields #[.int (p0 : Int) tp, .int (((S l).length : Int) + 1) (0 : Tok), .int 1 (0 : Tok)] }).objs.size ≠ x := fun x hx => by
          rw [Heap.size_push]; exact Nat.ne_of_gt (Nat.lt_succ_of_lt hx)
        simp only [Heap.size_push] at hb1 hnone hD F N ⊢
        have N' : News s.heap L h₆ ((h₅.objs.size + 1, listO ys c') :: (J, oI) :: (L + 1 + 1, oP') :: [(L + 1, o2)]) := newsC ⟨hD, hb1 _ sL, hnone⟩ (newsC (N _ (.tail _ (.tail _ (.head _)))) (newsC (N _ (.tail _ (.tail _ (.tail _ (.tail _ (.head _)))))) fun p hp => N p (.tail _ (.tail _ (.tail _ (.tail _ (.tail _ hp)))))))
        refine storeX_L F N' (fun h₇ F N => ?_)
        dsimp only at F N ⊢
        refine wpAny_execs_nil (wpAny_execs_nil (hX h₇ _ _ [(_, listO ys c'), (L + 1 + 1, oP'), (L + 1, o2)] F (newsC (N _ (.tail _ (.head _))) (newsC (N _ (.head _)) fun p hp => N p (.tail _ (.tail _ hp))))
          (allC (hb1 _ s2) (allC hJ2.symm (allC (hne (L + 1, o2) (.tail _ (.tail _ (.head _)))) allN))) ⟨oP', _, _, _, rfl, ⟨_, hoP⟩, rfl, e2, hb1 _ s1, hb1 _ (Nat.lt_trans (Nat.lt_succ_self _) s1), ?_⟩))
        · rw [hfold]; exact ⟨hIy, hB⟩
    | some c =>
      obtain ⟨tv, hpv⟩ := hpv
      rw [hpv] at hoP
      refine wpAny_isTrue_Compare1 (nameX_C N rfl (.tail _ (.tail _ (.head _))) hoP (wpAny_Constant_none ?_))
      refine wpAny_is_other rfl (by intro e; cases e) (wpAny_truthy_bool ?_)
      rw [if_neg Bool.false_ne_true]
      refine wpAny_execs_cons ?_
      refine compTo (h₀ := s.heap) (m := m) (cl := [(Str.ofString "part", L + 1 + 1), (Str.ofString "name", L + 1)]) rfl rfl (by decide) rfl (by decide) rfl rfl rfl ?_
      refine nameX_L F e1 ⟨F, ?_⟩
      have Gh := G.ext F.keep
      refine ⟨_, _, keepsP l c, (fun v y os => (∀ n t, v = .int n t → ∃ u, y = .int (n + 1) u) ∧ os = []), iters_list hh (N.isList (.tail _ (.head _))), ?_, ?_, ?_, ?_⟩
      · have := hI.length; rw [sizeLine_eq]; simp [nats] at this ⊢; (first | lia | omega)
      · intro C j v s₂ m₂ hP hn hm hx hC
        obtain ⟨n, tn, rfl, hnl⟩ := at_nats hI hB1 hP
        have hP' := hx _ _ (N.get (.tail _ (.tail _ (.head _))))
        have hN' := hx _ _ (N.get (.tail _ (.tail _ (.tail _ (.head _)))))
        refine tests1 (isTrue_and (wpAny_isTrue_Compare1 (nmL hn hm (Call_ (nmB Gh hx (at_len w) rfl (by decide) (callWith_builtin1 (args_cons (nmF (c := L + 1) rfl hN' ho2 (args_nil ?_)))))))))
        refine len_str hlen63 (lt_int (wpAny_truthy_bool ?_))
        have eL : ((S l).length : Int) = (l.length : Int) := by show (l.toArray.size : Int) = _; simp
        rw [eL]
        by_cases hlt : n < l.length
        · rw [if_pos (by simpa using hlt)]
          refine isTrue_and (isTrue_or (wpAny_isTrue_Compare1 (nmF (c := L + 1 + 1) rfl hP' hoP (Constant_str (eq_str (wpAny_truthy_bool ?_))))))
          obtain ⟨d, hd⟩ : ∃ d, l[n]? = some d := ⟨_, List.getElem?_eq_getElem hlt⟩
          rw [one_dot]
          have ek : keepsP l c (.int (n : Int) tn) = (c == 46 || c == d) := by simp only [keepsP, Int.toNat_natCast, hlt, hd, decide_true, Bool.true_and]; rw [show (some c == some d) = (c == d) from rfl]
          by_cases h46 : c = 46
          · rw [if_pos (by rw [h46]; rfl), if_pos rfl]
            refine isTrue_and_nil ⟨?_, keepsI (Ext.refl _)⟩
            rw [ek, h46]; rfl
          · rw [if_neg (by simpa using h46)]
            refine isTrue_or (wpAny_isTrue_Compare1 (nmF (c := L + 1 + 1) rfl hP' hoP (Subscript_ (nmF (c := L + 1) rfl hN' ho2 (nmL hn hm ?_)))))
            refine item_str (by unfold fitsSsize; simp; (first | lia | omega)) (by rw [eL]; (first | lia | omega)) (by rw [eL]; (first | lia | omega)) (fun _ => ?_)
            rw [item_at hd]
            refine eq_str (wpAny_truthy_bool ?_)
            rw [one_eq]
            by_cases hcd : c = d
            · rw [if_pos (by rw [hcd]; exact beq_self_eq_true _), if_pos rfl]
              refine isTrue_and_nil ⟨?_, keepsI (Ext.refl _)⟩
              rw [ek, hcd]; simp
            · rw [if_neg (by simpa using hcd)]
              refine isTrue_or_nil ?_
              rw [if_neg Bool.false_ne_true]
              refine ⟨?_, keepsI (Ext.refl _)⟩
              rw [ek]; simp [h46, hcd]
        · rw [if_neg (by simpa using hlt)]
          refine ⟨?_, keepsI (Ext.refl _)⟩
          simp [keepsP, hlt]
      · intro C j v s₂ m₂ hP hp hn hm hx hC
        obtain ⟨n, tn, rfl, -⟩ := at_nats hI hB1 hP
        refine wpAny_BinOp (nmL hn hm (wpAny_Constant_int (add_int (afterI [] (Ext.refl _) made0 ⟨fun n' t' e => by cases e; exact ⟨_, rfl⟩, rfl⟩))))
      · intro D h₅ tk₅ vs' zs k' hlen' hP hF made hx h₆ tk₆ F₆ hk₆
        have epv := items_eq hlen' hP
        rw [epv] at hF
        obtain ⟨hI', he⟩ := ints_step hI hF
        rw [he] at made
        have hD := made _ (.head _)
        have hDL : D ≠ L := fun e => by
          obtain ⟨oL, _, _, hoL, _⟩ := F.ns
          rw [e] at hD; have := hD.1; rw [hoL] at this; cases this
        have fresh : ∀ r, r ∈ (J, oI) :: (Pl, listO pv nn) :: (L + 1 + 1, oP') :: [(L + 1, o2)] → D ≠ r.1 := fun r hr e => by
          have := hD.1; rw [e, (N r hr).1] at this; cases this
        have hD0 : s.heap.get? D = none := by
          cases e : s.heap.get? D with
          | none => rfl
          | some ob => exact nomatch hD.1.symm.trans (F.keep _ _ e)
        have old : ∀ r, r ∈ (J, oI) :: (Pl, listO pv nn) :: (L + 1 + 1, oP') :: [(L + 1, o2)] → h₆.get? r.1 = some r.2 ∧ r.1 ≠ L ∧ s.heap.get? r.1 = none := fun r hr => ⟨hk₆ _ _ (N r hr).2.1 (hx _ _ (N r hr).1), (N r hr).2⟩
        have N₆ : News s.heap L h₆ ((J, oI) :: (D, listO (zs.map (·.1)) k') :: (L + 1 + 1, oP') :: [(L + 1, o2)]) := newsC (old _ (.head _)) (newsC ⟨hk₆ _ _ hDL hD.2, hDL, hD0⟩ fun p hp => old p (.tail _ (.tail _ hp)))
        refine wpAny_execs_nil (wpAny_execs_nil (hX h₆ _ _ [(D, listO (zs.map (·.1)) k'), (L + 1 + 1, oP'), (L + 1, o2)] F₆ N₆ (allC (fresh _ (.head _)) (allC hJ2.symm (allC (hne (L + 1, o2) (.tail _ (.tail _ (.head _)))) allN))) ⟨oP', _, _, _, rfl, ⟨_, hoP⟩, rfl, e2, ?_, ?_, ?_⟩))
        · exact fresh _ (.tail _ (.tail _ (.head _)))
        · exact fresh _ (.tail _ (.tail _ (.tail _ (.head _))))
        · rw [hfold]; exact ⟨hI', hB⟩
  · clear F N
    rintro h tk m news' F N ⟨oP, Pl, pv, nn, rfl, -, e1, e2, hne2, hne1, hI, -, -⟩
    (refine wpAny_execs_cons ?_; with_reducible refine wpAny_Return_some ?_)
    refine wpAny_Compare1 (Call_ (gnX F G (at_len w) rfl (by decide) (callWith_builtin1 (args_cons (nameX_C N rfl (.tail _ (.tail _ (.head _))) ho2 (args_nil ?_))))))
    refine len_str (by show ¬ (l.toArray.size : Int) ≥ _; simp; (first | lia | omega)) ?_
    refine nameX_L F e1 ?_
    refine in_list_ints (N.isList (.head _)) hI ?_
    refine hK _ _ (afterF F N [] (fun _ h => nomatch h) ⟨rfl, ?_⟩)
    have hvl : vs.length = ps.length := P.length.symm
    rw [List.size_toArray, hvl, List.take_length]
    unfold takes nats
    have eL : ((S l).length : Int) = (l.length : Int) := by show (l.toArray.size : Int) = _; simp
    rw [eL, List.any_map]
    show Value.bool _ = Value.bool _
    refine congrArg Value.bool ?_
    rw [Bool.eq_iff_iff, List.any_eq_true, List.contains_iff_mem]
    constructor
    · rintro ⟨x, hx, e⟩
      have e : x = l.length := by simp at e; (first | lia | omega)
      exact e ▸ hx
    · intro hx
      exact ⟨_, hx, by simp⟩
end
end Mine
end
section
open PySem PySem.W PySem.Calls PyProof.Rows
set_option maxRecDepth 100000
set_option maxHeartbeats 4000000
namespace Mine
theorem at_written (w : World) : nsIn (hdK w.params) mainGlobals "_law_written" = some (some (.ref 173)) := by k_is
theorem keep_written (w : World) : keepIn (hdK w.params) (.ref 173) = true := by k_is
theorem swapsCall {f : Expr} {as : List Expr} {kw : List (Option Str × Expr)} {p : Pos} {t : Option Expr} {l : Nat} {env : Env} : True := trivial
section
variable {prog : Program} {w : World} {mg mb : Str → Option Value} {A : Around} {s : Shared}

def rp (row : List Nat) (n : Nat) : Bool := row[n]? == some 42 && !((row.take n).getLast? == some 42)
def runsN (row : List Nat) : Nat := ((List.range row.length).filter (rp row)).length
def stars (row : List Nat) : Nat := (row.filter (· == 42)).length

theorem slice_take (l : List Nat) (k : Nat) (h : k ≤ l.length) : Txt.slice (S l) none (some (k : Int)) = S (l.take k) := by
  have e := slice_closes_to (x := S l) (j := (k : Int)) ⟨by (first | lia | omega), by simp; (first | lia | omega)⟩
  rw [beq_iff_eq] at e
  rw [e]; simp
theorem ssi_e {k n : Nat} (hk : 0 < k) (hn : k ≤ n) : (if (-(k : Int)) < 0 then -(k : Int) + (n : Int) else -(k : Int)) = (if ((n - k : Nat) : Int) < 0 then ((n - k : Nat) : Int) + (n : Int) else ((n - k : Nat) : Int)) := by
  rw [if_pos (by (first | lia | omega)), if_neg (by (first | lia | omega))]; (first | lia | omega)
theorem ssi_lo {k n : Nat} (hk : 0 < k) (hn : k ≤ n) (hi : Option Int) : Builtin.Str.strSliceIndices (some (-(k : Int))) hi 1 n = Builtin.Str.strSliceIndices (some ((n - k : Nat) : Int)) hi 1 n := by
  unfold Builtin.Str.strSliceIndices
  dsimp only
  rw [ssi_e hk hn]
theorem ssi_hi {k n : Nat} (hk : 0 < k) (hn : k ≤ n) (lo : Option Int) : Builtin.Str.strSliceIndices lo (some (-(k : Int))) 1 n = Builtin.Str.strSliceIndices lo (some ((n - k : Nat) : Int)) 1 n := by
  unfold Builtin.Str.strSliceIndices
  dsimp only
  rw [ssi_e hk hn]
theorem slice_last (l : List Nat) : Txt.slice (S l) (some (-1)) none = S (l.drop (l.length - 1)) := by
  by_cases h : l = []
  · subst h; rfl
  · have hp : 0 < l.length := List.length_pos_iff.mpr h
    have e := slice_drop l (l.length - 1) (by (first | lia | omega))
    rw [← e]
    unfold Txt.slice
    have hl : (S l).length = l.length := by show l.toArray.size = _; simp
    have e2 : Builtin.Str.strSliceIndices (some (-1)) none 1 (S l).length = Builtin.Str.strSliceIndices (some ((l.length - 1 : Nat) : Int)) none 1 (S l).length := by
      rw [hl]
      exact ssi_lo (k := 1) (by decide) hp none
    rw [e2]
theorem last_star (l : List Nat) : (S (l.drop (l.length - 1)) != Str.ofString "*") = !(l.getLast? == some 42) := by
  rw [star_eq, s_bne]
  rcases List.eq_nil_or_concat l with rfl | ⟨r, c, rfl⟩
  · rfl
  · have e : (r.concat c).drop ((r.concat c).length - 1) = [c] := by simp
    rw [e]
    simp
    rw [Bool.eq_iff_iff]; simp
theorem count_star (l : List Nat) : Txt.count (S l) (Str.ofString "*") = (stars l : Int) := by
  rw [star_eq, count_is, countIn_signs_sum]
  show ((l.toArray.toList).map _).sum = _
  rw [List.toList_toArray]
  induction l with
  | nil => rfl
  | cons c l ih =>
    rw [List.map_cons, List.sum_cons, ih]
    unfold stars
    by_cases h : c = 42
    · rw [List.filter_cons_of_pos (by simpa using h)]; simp [h]; (first | lia | omega)
    · rw [List.filter_cons_of_neg (by simpa using h)]; simp [h]
theorem filter_range {vs : List Value} {p : Value → Bool} {q : Nat → Bool} (a : Nat) (h : ∀ (j : Nat) (v : Value), vs[j]? = some v → p v = q (a + j)) : (vs.filter p).length = ((List.range' a vs.length).filter q).length := by
  induction vs generalizing a with
  | nil => rfl
  | cons v vs ih =>
    have h0 := h 0 v rfl
    have ih := ih (a + 1) fun j v hj => by rw [h (j + 1) v (by simpa using hj)]; congr 1; (first | lia | omega)
    rw [List.length_cons, List.range'_succ, List.filter_cons, List.filter_cons, h0]
    simp only [Nat.add_zero]
    split
    · rw [List.length_cons, List.length_cons, ih]
    · exact ih

/-- x[:n] and x[-1:] where only what stood is known -/
theorem sub_ns {g : Heap} {x : Str} {t uj : Tok} {j : Int} {value slice : Expr} {E Q : Value → Shared → Prop} (k : Ext g s.heap) (h : ∀ h' t' k, Ext g h' → Q (.str (Txt.slice x none (some j)) t') { s with heap := h', toks := k })
    (hs : subscripted slice false (.str x t) (.ref s.heap.objs.size) = operate [.ref s.heap.objs.size, .str x t] (getItem (.str x t) (.ref s.heap.objs.size)) := by with_unfolding_all rfl)
    (ht : ∀ r, letTemporaryGo value (.str x t) r = pure () := by intro _; with_unfolding_all rfl) (hsz : x.length ≤ sizeLine) :
    wpAny (model prog w) A (subscriptTail value slice (.str x t) (.ref s.heap.objs.size)) Q E { s with heap := s.heap.push { cls := .type "slice", data := .fields #[.none, .int j uj, .none] } } :=
  tail_of_ItemOn (SBH.sliceItem_ns (P := Ext g) (fun h ob e b o hb => Heap.get?_push_of_some _ (e b o hb)) k h hsz) hs ht
theorem sub_sn {g : Heap} {x : Str} {t ui : Tok} {i : Int} {value slice : Expr} {E Q : Value → Shared → Prop} (k : Ext g s.heap) (h : ∀ h' t' k, Ext g h' → Q (.str (Txt.slice x (some i) none) t') { s with heap := h', toks := k })
    (hs : subscripted slice false (.str x t) (.ref s.heap.objs.size) = operate [.ref s.heap.objs.size, .str x t] (getItem (.str x t) (.ref s.heap.objs.size)) := by with_unfolding_all rfl)
    (ht : ∀ r, letTemporaryGo value (.str x t) r = pure () := by intro _; with_unfolding_all rfl) (hsz : x.length ≤ sizeLine) :
    wpAny (model prog w) A (subscriptTail value slice (.str x t) (.ref s.heap.objs.size)) Q E { s with heap := s.heap.push { cls := .type "slice", data := .fields #[.int i ui, .none, .none] } } :=
  tail_of_ItemOn (SBH.sliceItem_sn (P := Ext g) (fun h ob e b o hb => Heap.get?_push_of_some _ (e b o hb)) k h hsz) hs ht

theorem _root_.PyProof.Rows.News.of_head {h₀ h : Heap} {L : Addr} {p : Addr × Obj} {news : List (Addr × Obj)} (N : News h₀ L h (p :: news)) : News h₀ L h [p] := fun r hr => by
  rw [List.mem_singleton.mp hr]; exact N _ (.head _)
theorem Iters.bound {xv : Value} {n : Nat} {P : Nat → Value → Prop} (h : Iters prog w A xv s n P) : Iters prog w A xv s n (fun i v => i < n ∧ P i v) := fun Q E hq =>
  h Q E fun h₂ tk I x nI ⟨fp, St, W, st, hfp, hob⟩ => hq h₂ tk I x nI ⟨fp, St, { W with item := fun i s Q E hi st hQ => W.item i s Q E hi st fun v h' tk hP => hQ v h' tk ⟨hi, hP⟩ }, st, hfp, hob⟩

def openP (row : List Nat) : Value → Bool
  | .int n _ => rp row n.toNat
  | _ => false

/-- _law_open -/
theorem sp_open {r : List Nat} {t : Tok} (G : Gd w mg mb s.heap) (hh : A.handled = none) (hd : A.depth + 1 < recursionLimit) (hr : ∀ c ∈ r, Sg c) (hl : r.length ≤ 1000) :
    wpAny (model prog w) A (call (.ref 183) [.str (S r) t]) (After s fun v os => ∃ b t u, v = .ref b ∧ os = [(b, tupO [.int ((stars r : Int) - (wr r).length - 8) t, .int (runsN r) u])]) No s := by
  refine enterCK (binds := [(Str.ofString "row", .str (S r) t)]) G (by k_is) (by k_is) (by (first | lia | omega)) (BindsTo.of_eq rfl) (by rfl) (by decide) (fun Kf hKf L h₁ tk cells F N Y => ?_) rfl rfl rfl
  obtain ⟨o, rfl, ho⟩ := Y.one
  have ho : o.data = .cell (some (.str (S r) t)) := ho
  have Gh := G.ext F.keep
  have eL : ((S r).length : Int) = (r.length : Int) := by show (r.toArray.size : Int) = _; simp
  have hfit : ¬ ((S r).length : Int) ≥ 2 ^ 63 := by rw [eL]; (first | lia | omega)
  have hsz : (S r).length ≤ sizeLine := by show r.toArray.size ≤ _; rw [sizeLine_eq]; simp; (first | lia | omega)
  (refine wpAny_execs_cons ?_; with_reducible refine wpAny_Assign_Name ?_ ?as2x39; (case as2x39 => with_unfolding_all exact rfl))
  refine Call_ (gnX F G (at_len w) rfl (by decide) (callWith_builtin1 (args_cons ?_)))
  refine comp (cl := [(Str.ofString "row", L + 1)]) rfl (by decide) rfl (by decide) rfl ?_
  refine Call_ (gnX F G (at_range w) rfl (by decide) (PyProof.Rows.callWith_type1 (args_cons ?_)))
  refine Call_ (gnX F G (at_len w) rfl (by decide) (callWith_builtin1 (args_cons (nameX_C N rfl (.head _) ho (args_nil ?_)))))
  refine len_str hfit (args_nil ?_)
  dsimp only
  rw [eL]
  refine call_range_1 ?_
  refine ⟨r.length, _, openP r, (fun v y os => y = v ∧ os = []), Iters.bound (iters_range (A := A.deeper _) (a := 0) (b := (r.length : Int)) (c := 1) (n := r.length) hh (IsRange.new ..) (small_one (by (first | lia | omega)) (by (first | lia | omega)) (by (first | lia | omega)) (by (first | lia | omega))) (by rw [rangeSize_nat]; try simp)), ?_, ?_, ?_, ?_⟩
  · rw [sizeLine_eq]; (first | lia | omega)
  · intro C i v s₂ m₂ hP hn hm hx hC
    obtain ⟨hi, u, rfl⟩ := hP
    have hi0 : (0 : Int) + (i : Int) * 1 = (i : Int) := by (first | lia | omega)
    rw [hi0] at hm ⊢
    have hcell := hx _ _ (Heap.get?_push_of_some _ (N.get (.head _)))
    obtain ⟨d, hd⟩ : ∃ d, r[i]? = some d := ⟨_, List.getElem?_eq_getElem hi⟩
    have ek : openP r (.int (i : Int) u) = (d == 42 && !((r.take i).getLast? == some 42)) := by
      show rp r i = _
      unfold rp
      rw [hd]; rfl
    refine tests1 (isTrue_and (wpAny_isTrue_Compare1 (Subscript_ (nmF (c := L + 1) rfl hcell ho (nmL hn hm ?_)))))
    refine item_str (by unfold fitsSsize; simp; (first | lia | omega)) (by rw [eL]; (first | lia | omega)) (by rw [eL]; (first | lia | omega)) (fun _ => ?_)
    rw [item_at hd]
    refine Constant_str (eq_str (wpAny_truthy_bool ?_))
    rw [one_star]
    by_cases h42 : d = 42
    · rw [if_pos (by rw [h42]; rfl)]
      refine isTrue_and (wpAny_isTrue_Compare1 (Subscript_ (Subscript_ (nmF (c := L + 1) rfl hcell ho ?_))))
      refine wpAny_Slice (evalPart_none_step (evalPart_some_step (nmL hn hm (evalPart_none_step ?_))))
      refine sub_ns (g := s₂.heap) (Ext.refl _) (fun h₃ t₃ k₃ x₃ => ?_) ?_ ?_ hsz
      · rw [slice_take r i (by (first | lia | omega))]
        refine wpAny_Slice (evalPart_some_step (UnaryOp_ (wpAny_Constant_int (PyProof.Rows.neg_int (evalPart_none_step (evalPart_none_step ?_))))))
        refine sub_sn (g := s₂.heap) x₃ (fun h₄ t₄ k₄ x₄ => ?_) ?_ ?_ ?_
        · rw [slice_last]
          refine Constant_str (ne_str (wpAny_truthy_bool ?_))
          rw [last_star]
          by_cases hq : (!((r.take i).getLast? == some 42)) = true
          · rw [if_pos hq]
            refine isTrue_and_nil ⟨?_, keepsI x₄⟩
            rw [ek, h42, hq]; rfl
          · rw [if_neg hq]
            refine ⟨?_, keepsI x₄⟩
            have hq : (!((r.take i).getLast? == some 42)) = false := by simpa using hq
            rw [ek, hq, Bool.and_false]
        · with_unfolding_all rfl
        · intro _; with_unfolding_all rfl
        · show (r.take i).toArray.size ≤ _; rw [sizeLine_eq]; simp; (first | lia | omega)
      · with_unfolding_all rfl
      · intro _; with_unfolding_all rfl
    · rw [if_neg (by simpa using h42)]
      refine ⟨?_, keepsI (Ext.refl _)⟩
      rw [ek, beq_eq_false_iff_ne.mpr h42]; rfl
  · intro C i v s₂ m₂ hP hp hn hm hx hC
    exact nmL hn hm (after0 ⟨rfl, rfl⟩)
  · intro D h' tk' vs' zs k hlen' hP hF made hx
    obtain ⟨e1, e2⟩ := paired_eq hF
    rw [e1, e2] at made
    have hD := made _ (.head _)
    have hcnt : (vs'.filter (openP r)).length = runsN r := by
      have := filter_range (p := openP r) (q := rp r) 0 (fun j v hj => by
        obtain ⟨_, u, rfl⟩ := hP j v hj
        rw [show (0 : Int) + (j : Int) * 1 = (j : Int) by (first | lia | omega), Nat.zero_add]
        rfl)
      rw [this, hlen', ← List.range_eq_range']; rfl
    have hx0 : Ext h₁ h' := fun b o e => hx b o (Heap.get?_push_of_some _ e)
    have F := F.keeps hx0
    have N := N.grown hx0
    refine args_nil ?_
    dsimp only
    refine len_list (items := (vs'.filter (openP r)).toArray) ⟨_, hD.2, rfl, _, rfl⟩ (by simp; rw [hcnt]; have := List.length_filter_le (rp r) (List.range r.length); simp at this; unfold runsN; (first | lia | omega)) ?_
    rw [List.size_toArray, hcnt]
    refine storeX_L F N (fun h₂ F N => ?_)
    dsimp only at F N ⊢
    (refine wpAny_execs_cons ?_; with_reducible refine wpAny_Return_some ?_)
    refine Tuple_ (args_cons (wpAny_BinOp (wpAny_BinOp (MethodCall_ (nameX_C N rfl (.head _) ho (GM.count ?_))))))
    refine callWith_method1 (args_cons (Constant_str (args_nil (SC.count ?_))))
    rw [count_star]
    refine Call_ (gnX F G (at_len w) rfl (by decide) (callWith_builtin1 (args_cons ?_)))
    refine Call_ (nmG G F.keep (at_written w) (callWith_K (G.ext F.keep).k (keep_written w) (args_cons (nameX_C N rfl (.head _) ho (args_nil ⟨(G.ext F.keep).k, ?_⟩)))))
    refine useN F N (sp_written (G.ext F.keep) hh (by exact hd) hr hl) ?_
    rintro v os h₃ tk₃ x F N ⟨rfl, tt, rfl⟩
    have hw := wr_len r
    have eW : ((S (wr r)).length : Int) = ((wr r).length : Int) := by show ((wr r).toArray.size : Int) = _; simp
    refine args_nil (len_str (by rw [eW]; (first | lia | omega)) (sub_int (wpAny_Constant_int (sub_int (args_cons (nameX_L F rfl (args_nil ?_)))))))
    rw [eW]
    refine newTuple_N F N (fun h₄ F N => ?_)
    have N1 := News.of_head N
    exact hKf _ _ (afterF F N1 _ (fun p hp => hp) ⟨_, _, _, rfl, rfl⟩)
end
end Mine
end
section
open PySem PySem.W PySem.Calls PyProof.Rows
set_option maxRecDepth 100000
set_option maxHeartbeats 4000000
namespace Mine
section
variable {prog : Program} {w : World} {mg mb : Str → Option Value} {A : Around} {s : Shared}

theorem add_eq {x y : Str} {t u : Tok} {a b : List Nat} {E Q : Value → Shared → Prop} (hx : x = S a) (hy : y = S b) (hl : a.length + b.length ≤ 100000) (h : ∀ t' k, Q (.str (S (a ++ b)) t') { s with toks := k }) :
    wpAny (model prog w) A (binaryOp .Add (.str x t) (.str y u)) Q E s := by
  subst hx hy
  refine PyProof.Rows.add_str (fun t' k => ?_) (by show a.toArray.size + b.toArray.size ≤ _; rw [sizeLine_eq]; simp; (first | lia | omega))
  have e : S a ++ S b = S (a ++ b) := by show (⟨_⟩ : Str) = _; simp
  rw [e]; exact h t' k

theorem join_lists (ps : List (List Nat)) : Str.join ⟨#[42]⟩ (ps.map S) = S (joinL ps) := by
  induction ps with
  | nil => rfl
  | cons p ps ih =>
    cases ps with
    | nil => rfl
    | cons q r =>
      rw [List.map_cons, List.map_cons, Str.join]
      · rw [List.map_cons] at ih
        rw [ih]
        show (⟨p.toArray ++ #[42] ++ _⟩ : Str) = _
        simp [joinL]
      · simp
theorem split_star (l : List Nat) : Txt.split (S l) (Str.ofString "*") = (cutS l).map S := by
  rw [star_eq]
  have h1 := StrLaws.join_split (S l) ⟨#[42]⟩
  have h2 := StrLaws.split_free (S l) 42
  have h3 : Txt.split (S l) ⟨#[42]⟩ ≠ [] := by
    unfold Txt.split
    split
    · simp
    · split
      · simp
      · intro e
        have := length_partsBetween (S l) (Builtin.Str.occurrences (S l) ⟨#[42]⟩ 0 (S l).length ((S l).length + 1)) (⟨#[42]⟩ : Str).length
        rw [e] at this; simp at this
  generalize Txt.split (S l) ⟨#[42]⟩ = ps at h1 h2 h3
  obtain ⟨qs, rfl⟩ : ∃ qs : List (List Nat), ps = qs.map S := ⟨ps.map fun p => p.cps.toList, by
    rw [List.map_map]
    exact (map_eq_self fun p _ => by obtain ⟨⟨l⟩⟩ := p; rfl).symm⟩
  rw [join_lists] at h1
  have h1 : joinL qs = l := by injection h1 with h1; simpa using h1
  have hf : ∀ p ∈ qs, 42 ∉ p := fun p hp => by simpa using h2 (S p) (List.mem_map_of_mem hp)
  have hq : qs ≠ [] := fun e => h3 (by rw [e]; rfl)
  rw [← h1, cutS_join qs hq hf]
theorem pick_mid (l : List Value) (h : 2 ≤ l.length) : slicePick l.toArray (some 1) (some (-1)) none = ((l.drop 1).dropLast).toArray := by
  have e := slicePick_run l.toArray 1 (l.length - 1) (by simp) (by (first | lia | omega))
  have e2 : slicePick l.toArray (some 1) (some (-1)) none = slicePick l.toArray (some ((1 : Nat) : Int)) (some ((l.length - 1 : Nat) : Int)) none := by
    unfold slicePick sliceBounds
    dsimp only
    rw [show ((-1 : Int)) = -((1 : Nat) : Int) from rfl, ssi_e (k := 1) (n := l.toArray.size) (by decide) (by simpa using Nat.le_of_succ_le h), List.size_toArray]
    rfl
  rw [e2, e, List.dropLast_eq_take]
  simp

def fullP : Value → Bool
  | .str x _ => x != Str.ofString ""
  | _ => false
theorem strs_mids {ms : List (List Nat)} {vs : List Value} {zs : List (Value × List (Addr × Obj))} (hI : StrsAre vs (ms.map S))
    (h : Paired (fun v (z : Value × List (Addr × Obj)) => (∀ x t, v = .str (S x) t → ∃ u, z.1 = .str (S (grp x)) u) ∧ z.2 = []) (vs.filter fullP) zs) : Txts (zs.map (·.1)) ((ms.filter (· != [])).flatMap grp) ∧ zs.flatMap (·.2) = [] ∧ zs.length ≤ ms.length := by
  suffices hh : ∃ ys, StrsAre (zs.map (·.1)) ys ∧ ys.flatMap (fun (y : Str) => y.cps.toList) = (ms.filter (· != [])).flatMap grp ∧ zs.flatMap (·.2) = [] ∧ zs.length ≤ ms.length from
    let ⟨ys, a, b, c⟩ := hh; ⟨⟨ys, a, b⟩, c⟩
  induction ms generalizing vs zs with
  | nil => cases hI; cases h; exact ⟨[], .nil, rfl, rfl, Nat.le_refl _⟩
  | cons m ms ih =>
    obtain ⟨t, vs', rfl, hI'⟩ : ∃ t vs', vs = .str (S m) t :: vs' ∧ StrsAre vs' (ms.map S) := by cases hI; exact ⟨_, _, rfl, by assumption⟩
    have e : fullP (.str (S m) t) = (m != []) := s_nempty m
    by_cases hm : (m != []) = true
    · rw [List.filter_cons_of_pos (by rw [e]; exact hm)] at h
      cases h with
      | cons h0 h =>
        obtain ⟨ys, i1, i2, i3, i4⟩ := ih hI' h
        obtain ⟨u, hu⟩ := h0.1 m t rfl
        refine ⟨S (grp m) :: ys, ?_, ?_, by rw [List.flatMap_cons, h0.2, i3]; rfl, by simp; (first | lia | omega)⟩
        · rw [List.map_cons, hu]; exact .cons _ _ i1
        · rw [List.flatMap_cons, i2, List.filter_cons, if_pos hm, List.flatMap_cons]
    · rw [List.filter_cons_of_neg (by rw [e]; exact hm)] at h
      obtain ⟨ys, i1, i2, i3, i4⟩ := ih hI' h
      exact ⟨ys, i1, by rw [i2, List.filter_cons, if_neg hm], i3, by simp; (first | lia | omega)⟩

/-- _law_expression -/
theorem sp_expression {r : List Nat} {t : Tok} (G : Gd w mg mb s.heap) (hh : A.handled = none) (hd : A.depth + 1 < recursionLimit) (hr : ∀ c ∈ r, Sg c) (hl : r.length ≤ 1000) :
    wpAny (model prog w) A (call (.ref 178) [.str (S r) t]) (After s fun v os => os = [] ∧ ∃ u, v = .str (S (exprT (wr r))) u) No s := by
  refine enterK (binds := [(Str.ofString "row", .str (S r) t)]) G (by k_is) (by k_is) (by (first | lia | omega)) (BindsTo.of_eq rfl) (locs rfl) (fun Kf hKf L h₁ F => ?_) (by decide) rfl rfl rfl
  have hw := wr_len r
  (refine wpAny_execs_cons ?_; with_reducible refine wpAny_Assign_Name ?_ ?as2x41; (case as2x41 => with_unfolding_all exact rfl))
  refine MethodCall_ (Call_ (nmG G F.keep (at_written w) (callWith_K (G.ext F.keep).k (keep_written w) (args_cons (ld F rfl (args_nil ⟨(G.ext F.keep).k, ?_⟩))))))
  refine useN F News.nil (sp_written (G.ext F.keep) hh (by exact hd) hr hl) ?_
  rintro v os h₂ tk₂ x F N ⟨rfl, tt, rfl⟩
  refine GM.split ?_
  refine callWith_method1 (args_cons (Constant_str (args_nil ?_)))
  refine splitN1 F N (by decide) (fun l h₃ k e F N => ?_) (by show (wr r).toArray.size + 2 ≤ _; rw [sizeLine_eq]; simp; (first | lia | omega))
  rw [split_star] at e
  have hne := cutS_ne (wr r)
  have hI := strsAre_of_values l
  rw [e] at hI
  generalize strValues l = vals at hI N
  clear e
  have hvl : vals.length = (cutS (wr r)).length := by have := hI.len_eq; simpa using this
  have hwide : wide (cutS (wr r)) ≤ 21007 := by have := cutS_wide (wr r); (first | lia | omega)
  have hcl : (cutS (wr r)).length ≤ 3001 := by have := wide_count (cutS (wr r)); (first | lia | omega)
  have hpl : ∀ p ∈ cutS (wr r), p.length ≤ 21000 := fun p hp => by have := wide_mem hp; (first | lia | omega)
  refine stN F N (fun h₄ F N => ?_)
  dsimp only at F N ⊢
  (refine wpAny_execs_cons ?_; with_reducible refine wpAny_If ?_)
  refine wpAny_isTrue_Compare1 (Call_ (nmB G F.keep (at_len w) rfl (by decide) (callWith_builtin1 (args_cons (ld F rfl (args_nil ?_))))))
  refine len_list (N.isList (.head _)) (by simp; (first | lia | omega)) (wpAny_Constant_int (eq_int (wpAny_truthy_bool ?_)))
  rw [List.size_toArray, hvl]
  have cpre1 : Str.ofString "(?s:" = S [40, 63, 115, 58] := by decide +kernel
  have cpre2 : Str.ofString "=.x.q." = S [61, 46, 120, 46, 113, 46] := by decide +kernel
  have cpost : Str.ofString ".=)\\Z" = S postX := by decide +kernel
  have cgrp : Str.ofString "(?>.*?" = S [40, 63, 62, 46, 42, 63] := by decide +kernel
  have cpar : Str.ofString ")" = S [41] := by decide +kernel
  rcases hcs : cutS (wr r) with _ | ⟨p, _ | ⟨q, rest⟩⟩
  · exact absurd hcs hne
  · rw [hcs] at hI hpl
    have hp := hpl p (.head _)
    rw [if_pos (by simp)]
    obtain ⟨t0, hv0⟩ := hI.at (j := 0) (y := S p) rfl
    (refine wpAny_execs_cons ?_; with_reducible refine wpAny_Return_some ?_)
    refine wpAny_BinOp (wpAny_BinOp (wpAny_BinOp (Constant_str (Constant_str (add_eq cpre1 cpre2 (by simp) (fun t' k => ?_))))))
    refine Subscript_ (ld F rfl (wpAny_Constant_int (item_listL (N.isList (.head _)) (by decide) (by decide) hv0 ?_)))
    refine add_eq rfl rfl (by simp; (first | lia | omega)) (fun t' k => ?_)
    refine Constant_str (add_eq rfl cpost (by simp [postX]; (first | lia | omega)) (fun t' k => ?_))
    refine hKf _ _ (afterF F News.nil [] (fun _ h => nomatch h) ⟨rfl, t', ?_⟩)
    show Value.str _ _ = _
    unfold exprT
    rw [hcs]
    rfl
  · rw [hcs] at hI hpl
    have hp := hpl p (.head _)
    rw [if_neg (by simp; (first | lia | omega))]
    refine wpAny_execs_nil ?_
    (refine wpAny_execs_cons ?_; with_reducible refine wpAny_Assign_Name ?_ ?as2x44; (case as2x44 => with_unfolding_all exact rfl))
    refine MethodCall_ (Constant_str (GM.join ?_))
    refine callWith_method1 (args_cons ?_)
    refine comp (cl := []) rfl (by decide) rfl (by decide) rfl ?_
    refine Subscript_ (ld F rfl ?_)
    refine wpAny_Slice (evalPart_some_step (wpAny_Constant_int (evalPart_some_step (UnaryOp_ (wpAny_Constant_int (PyProof.Rows.neg_int (evalPart_none_step ?_)))))))
    have hvl2 : 2 ≤ vals.length := by rw [hvl, hcs]; simp
    refine slice_list F N (N.isList (.head _)) (.int 1 _) (.int (-1) _) (fun h₅ F N => ?_) ?_ ?_ (by rw [sizeLine_eq]; simp; (first | lia | omega))
    · rw [pick_mid vals hvl2] at N
      have hIm : StrsAre ((vals.drop 1).dropLast) ((q :: rest).dropLast.map S) := by
        have h1 := StrsAre.drop' hI 1
        have h2 := StrsAre.take' h1 ((q :: rest).length - 1)
        rw [List.dropLast_eq_take, List.map_dropLast, List.dropLast_eq_take]
        have e1 : (vals.drop 1).length - 1 = (q :: rest).length - 1 := by rw [List.length_drop, hvl, hcs]; simp
        rw [e1]
        simpa using h2
      generalize (vals.drop 1).dropLast = mv at hIm N
      generalize hms : (q :: rest).dropLast = ms at hIm
      have hmsub : ms.Sublist (cutS (wr r)) := by rw [hcs, ← hms]; exact (List.dropLast_sublist _).trans (List.sublist_cons_self _ _)
      have hmw := wide_sub hmsub
      have hmc := wide_count ms
      refine ⟨_, _, fullP, (fun v y os => (∀ x t, v = .str (S x) t → ∃ u, y = .str (S (grp x)) u) ∧ os = []), iters_list hh (N.isList (.head _)), ?_, ?_, ?_, ?_⟩
      · have := hIm.len_eq; rw [sizeLine_eq]; simp at this ⊢; (first | lia | omega)
      · intro C j v s₂ m₂ hP hn hm hx hC
        obtain ⟨y, ty, rfl, -⟩ := hIm.item j v (by simpa using hP)
        refine tests1 (wpAny_isTrue_Compare1 (nmL hn hm (Constant_str (ne_str (wpAny_truthy_bool ⟨rfl, keepsI (Ext.refl _)⟩)))))
      · intro C j v s₂ m₂ hP hp' hn hm hx hC
        obtain ⟨y, ty, rfl, hy⟩ := hIm.item j v (by simpa using hP)
        obtain ⟨x0, hx0, rfl⟩ : ∃ x0, x0 ∈ ms ∧ y = S x0 := by
          have := List.mem_of_getElem? hy
          obtain ⟨x0, h1, h2⟩ := List.mem_map.mp this
          exact ⟨x0, h1, h2.symm⟩
        have hx1 := wide_mem hx0
        refine wpAny_BinOp (wpAny_BinOp (Constant_str (nmL hn hm (add_eq cgrp rfl (by simp; (first | lia | omega)) (fun t' k => ?_)))))
        refine Constant_str (add_eq rfl cpar (by simp; (first | lia | omega)) (fun t' k => ?_))
        refine afterI [] (Ext.refl _) made0 ⟨fun x t e => ?_, rfl⟩
        injection e with e1 e2
        injection e1 with e1
        have e1 : x0 = x := by simpa using e1
        exact ⟨t', by rw [← e1]; rfl⟩
      · intro D h₆ tk₆ vs' zs k' hlen' hP hF made hx
        have epv := items_eq hlen' hP
        rw [epv] at hF
        obtain ⟨T, he, hzl⟩ := strs_mids hIm hF
        rw [he] at made
        have hD := (made _ (.head _)).2
        have F := F.keeps hx
        have N := N.grown hx
        have hfl : ((ms.filter (· != [])).flatMap grp).length ≤ 21007 := by
          rw [flat_grp]; exact Nat.le_trans (wide_sub List.filter_sublist) (Nat.le_trans hmw hwide)
        have hzl2 : ((ms.filter (· != [])).flatMap grp).length + (zs.map (·.1)).length ≤ 1048576 := by
          have e : (zs.map (·.1)).length = zs.length := by simp
          rw [e]; (first | lia | omega)
        generalize hMX : (ms.filter (· != [])).flatMap grp = MX at hzl2 hfl T
        refine args_nil (join_txts ⟨_, hD, rfl, _, rfl⟩ T hzl2 (fun t' k => ?_))
        refine stN F N (fun h₇ F N => ?_)
        dsimp only at F N ⊢
        obtain ⟨t0, hv0⟩ := hI.at (j := 0) (y := S p) rfl
        have hqne : q :: rest ≠ [] := by simp
        have hql := hpl ((q :: rest).getLast hqne) (.tail _ (List.getLast_mem _))
        obtain ⟨vi, tl, hvl'⟩ : ∃ vi tl, vals = vi ++ [.str (S ((q :: rest).getLast hqne)) tl] := by
          have hpos : vals ≠ [] := by intro e; rw [e] at hvl2; simp at hvl2
          obtain ⟨tl, h⟩ := hI.at (j := vals.length - 1) (y := S ((q :: rest).getLast hqne)) (by
            have e1 : vals.length - 1 = ((p :: q :: rest).map S).length - 1 := by rw [hvl, hcs]; simp
            rw [e1, ← List.getLast?_eq_getElem?, List.getLast?_map, List.getLast?_eq_some_getLast (by simp), List.getLast_cons (by simp)]
            rfl)
          refine ⟨vals.dropLast, tl, ?_⟩
          rw [← List.getLast?_eq_getElem?, List.getLast?_eq_some_getLast hpos] at h
          rw [← Option.some.inj h]
          exact (List.dropLast_concat_getLast hpos).symm
        generalize hlst : (q :: rest).getLast hqne = lst at hql hvl'
        (refine wpAny_execs_cons ?_; with_reducible refine wpAny_Return_some ?_)
        refine wpAny_BinOp (wpAny_BinOp (wpAny_BinOp (wpAny_BinOp (wpAny_BinOp (wpAny_BinOp (Constant_str (Constant_str (add_eq cpre1 cpre2 (by simp) (fun t' k => ?_)))))))))
        refine Subscript_ (ld F rfl (wpAny_Constant_int (item_listL (N.isList (.tail _ (.head _))) (by decide) (by decide) hv0 ?_)))
        refine add_eq rfl rfl (by simp; (first | lia | omega)) (fun t' k => ?_)
        refine ld F rfl (add_eq rfl rfl (by simp only [List.length_append, List.length_cons, List.length_nil]; (first | lia | omega)) (fun t' k => ?_))
        refine Constant_str (add_eq rfl dotstar_eq (by simp only [List.length_append, List.length_cons, List.length_nil]; (first | lia | omega)) (fun t' k => ?_))
        refine Subscript_ (ld F rfl (UnaryOp_ (wpAny_Constant_int (PyProof.Rows.neg_int ?_))))
        have hNl := N.isList (.tail _ (.head _))
        rw [hvl'] at hNl
        refine item_last hNl (by have := congrArg List.length hvl'; simp at this; (first | lia | omega)) ?_
        refine add_eq rfl rfl (by simp only [List.length_append, List.length_cons, List.length_nil]; (first | lia | omega)) (fun t' k => ?_)
        refine Constant_str (add_eq rfl cpost (by simp only [List.length_append, List.length_cons, List.length_nil, postX]; (first | lia | omega)) (fun t' k => ?_))
        refine hKf _ _ (afterF F News.nil [] (fun _ h => nomatch h) ⟨rfl, t', ?_⟩)
        show Value.str _ _ = _
        unfold exprT
        rw [hcs]
        show _ = Value.str (S (preX ++ p ++ midsX (q :: rest) ++ [46, 42] ++ (q :: rest).getLast hqne ++ postX)) _
        rw [hlst]
        unfold midsX
        rw [hms, hMX]
        rfl
    · with_unfolding_all rfl
    · intro _; with_unfolding_all rfl
end
end Mine
end
section
open PySem PySem.W PySem.Calls PyProof.Rows
set_option maxRecDepth 100000
set_option maxHeartbeats 4000000
namespace Mine
section
variable {prog : Program} {w : World} {mg mb : Str → Option Value} {A : Around} {s : Shared}

theorem sub_list {value slice : Expr} {l : Addr} {items : Array Value} {vl vu vk : Value} {lo hi st : Option Int} {ops : List Value} {E Q : Value → Shared → Prop}
    (hl : s.heap.IsList l items) (pl : IsPart vl lo) (pu : IsPart vu hi) (pk : IsPart vk st) (h0 : st ≠ some 0)
    (h : Q (.ref (s.heap.objs.size + 1)) { s with heap := (s.heap.push { cls := .type "slice", data := .fields #[vl, vu, vk] }).push { cls := .type "list", data := .seq (slicePick items lo hi st) } })
    (hsz : items.size ≤ sizeLine)
    (hs : subscripted slice false (.ref l) (.ref s.heap.objs.size) = operate ops (getItem (.ref l) (.ref s.heap.objs.size)) := by with_unfolding_all rfl) :
    wpAny (model prog w) A (subscriptTail value slice (.ref l) (.ref s.heap.objs.size)) Q E { s with heap := s.heap.push { cls := .type "slice", data := .fields #[vl, vu, vk] } } := by
  refine tail_any (Heap.IsList.typeIs (s := { s with heap := s.heap.push { cls := .type "slice", data := .fields #[vl, vu, vk] } }) (hl.push _)) list_getitem_lookup
    (wpAny_getItem_list_slice (hl.push _) (Heap.IsSliceOf.new ..) pl pu pk h0 ?_ hsz) hs
  show Q (.ref (s.heap.push _).objs.size) _
  rw [Heap.size_push]
  exact h

def rowOk (l : List Nat) : Prop := (∀ c ∈ l, Sg c) ∧ l.length ≤ 12
def signsL : List Nat := [103, 42, 107, 32, 42, 233, 63, 91, 95]
theorem signs_is : Str.ofString "g*k *é?[_" = S signsL := by decide +kernel
theorem signs_sg : ∀ c ∈ signsL, Sg c := by
  unfold Sg
  decide
theorem strs_rows {vs : List Value} {zs : List (Value × List (Addr × Obj))} (h : Paired (fun _ (z : Value × List (Addr × Obj)) => (∃ c u, Sg c ∧ z.1 = .str ⟨#[c]⟩ u) ∧ z.2 = []) vs zs) :
    ∃ l, Txts (zs.map (·.1)) l ∧ (∀ c ∈ l, Sg c) ∧ l.length = vs.length ∧ zs.flatMap (·.2) = [] := by
  suffices hh : ∃ l ys, StrsAre (zs.map (·.1)) ys ∧ ys.flatMap (fun (y : Str) => y.cps.toList) = l ∧ (∀ c ∈ l, Sg c) ∧ l.length = vs.length ∧ zs.flatMap (·.2) = [] from
    let ⟨l, ys, a, b, c, d, e⟩ := hh; ⟨l, ⟨ys, a, b⟩, c, d, e⟩
  induction h with
  | nil => exact ⟨[], [], .nil, rfl, (fun _ h => nomatch h), rfl, rfl⟩
  | cons e _ ih =>
    obtain ⟨⟨c, u, hc, hz⟩, he⟩ := e
    obtain ⟨l, ys, i1, i2, i3, i4, i5⟩ := ih
    refine ⟨c :: l, ⟨#[c]⟩ :: ys, ?_, by rw [List.flatMap_cons, i2]; rfl, fun x hx => ?_, by simp [i4], by rw [List.flatMap_cons, he, i5]; rfl⟩
    · rw [List.map_cons, hz]; exact .cons _ _ i1
    · rcases List.mem_cons.mp hx with rfl | hx
      · exact hc
      · exact i3 x hx
theorem strs_three {P : List Nat → Prop} {vs : List Value} {zs : List (Value × List (Addr × Obj))} (h : Paired (fun _ (z : Value × List (Addr × Obj)) => (∃ l u, P l ∧ z.1 = .str (S l) u) ∧ z.2 = []) vs zs) :
    ∃ rows : List (List Nat), StrsAre (zs.map (·.1)) (rows.map S) ∧ (∀ r ∈ rows, P r) ∧ rows.length = vs.length ∧ zs.flatMap (·.2) = [] := by
  induction h with
  | nil => exact ⟨[], .nil, (fun _ h => nomatch h), rfl, rfl⟩
  | cons e _ ih =>
    obtain ⟨⟨l, u, hl, hz⟩, he⟩ := e
    obtain ⟨rows, i1, i2, i3, i4⟩ := ih
    refine ⟨l :: rows, ?_, fun x hx => ?_, by simp [i3], by rw [List.flatMap_cons, he, i4]; rfl⟩
    · rw [List.map_cons, List.map_cons, hz]; exact .cons _ _ i1
    · rcases List.mem_cons.mp hx with rfl | hx
      · exact hl
      · exact i2 x hx

theorem lits : ([42] ≠ [] ∧ rowOk [42]) ∧ ([103, 42] ≠ [] ∧ rowOk [103, 42]) ∧ ([42, 103] ≠ [] ∧ rowOk [42, 103]) := by unfold rowOk Sg; decide
/-- _law_rows -/
theorem sp_rows {I : Addr} {vals : List Value} {ns : List Int} (G : Gd w mg mb s.heap) (hh : A.handled = none) (hd : A.depth < recursionLimit) (hl : s.heap.IsList I vals.toArray) (hI : IntsAre vals ns) (hn : ns.length ≤ 1000) :
    wpAny (model prog w) A (call (.ref 163) [.ref I]) (After s fun v os => ∃ (D : Addr) (k : Nat) (vs : List Value) (rows : List (List Nat)), v = .ref D ∧ os = [(D, listO vs k)] ∧ StrsAre vs (rows.map S) ∧ rows.length = 3 ∧ ∀ r ∈ rows, r ≠ [] ∧ rowOk r) No s := by
  refine enterCK (binds := [(Str.ofString "script", .ref I)]) G (by k_is) (by k_is) hd (BindsTo.of_eq rfl) (by rfl) (by decide) (fun K hK L h₁ tk cells F N Y => ?_) rfl rfl rfl
  obtain ⟨o1, o2, o3, rfl, ho1, ho2, ho3⟩ : ∃ o1 o2 o3, cells = [(L + 1 + 1 + 1, o1), (L + 1 + 1, o2), (L + 1, o3)] ∧ o1.data = .cell none ∧ o2.data = .cell none ∧ o3.data = .cell (some (.ref I)) := by
    cases Y with
    | cons h1 Y =>
      obtain ⟨o2, o3, rfl, h2, h3⟩ := Y.two
      exact ⟨_, o2, o3, rfl, h1, h2, h3⟩
  have hvl : vals.length = ns.length := hI.length
  (refine wpAny_execs_cons ?_; with_reducible refine wpAny_Assign_Name ?_ ?as2x46; (case as2x46 => with_unfolding_all exact rfl))
  refine Constant_str (storeX_C F N rfl (.tail (Nat.ne_of_gt (Nat.lt_succ_self _)) (.head (fun p hp => by rw [List.mem_singleton.mp hp]; exact Nat.ne_of_lt (Nat.lt_succ_self _)))) ho2 ?_)
  intro h₂ o2' F N ho2'
  dsimp only at N ⊢
  rw [signs_is] at ho2'
  (refine wpAny_execs_cons ?_; with_reducible refine wpAny_Assign_Name ?_ ?as2x47; (case as2x47 => with_unfolding_all exact rfl))
  refine comp (cl := [(Str.ofString "signs", L + 1 + 1), (Str.ofString "script", L + 1)]) rfl (by decide) rfl (by decide) rfl ?_
  refine Call_ (gnX F G (at_range w) rfl (by decide) (PyProof.Rows.callWith_type1 (args_cons (wpAny_Constant_int (args_nil (call_range_1 ?_))))))
  refine ⟨3, _, (fun _ => true), (fun v y os => (∃ l u, rowOk l ∧ y = .str (S l) u) ∧ os = []), Iters.bound (iters_range (A := A.deeper _) (a := 0) (b := 3) (c := 1) (n := 3) hh (IsRange.new ..) (by decide) (by decide)), ?_, ?_, ?_, ?_⟩
  · rw [sizeLine_eq]; (first | lia | omega)
  · intro C i v s₂ m₂ hP hn hm hx hC
    exact tests0
  · intro C i v s₂ m₂ hP hp hn hm hx hC
    obtain ⟨hi, u, rfl⟩ := hP
    have hx2 : Ext h₂ s₂.heap := fun b o e => hx b o (Heap.get?_push_of_some _ e)
    have hsig := hx2 _ _ (N.get (.tail _ (.head _)))
    have hscr := hx2 _ _ (N.get (.tail _ (.tail _ (.head _))))
    have hl2 : s₂.heap.IsList I vals.toArray := lstKept hl (fun b o e => hx2 b o (F.keep b o e))
    refine MethodCall_ (Constant_str (GM.join ?_))
    refine callWith_method1 (args_cons ?_)
    refine comp (cl := [(Str.ofString "signs", L + 1 + 1)]) rfl (by decide) rfl (by decide) rfl ?_
    refine Subscript_ (Subscript_ (nmF (c := L + 1) rfl hscr ho3 ?_))
    refine wpAny_Slice (evalPart_none_step (evalPart_some_step (wpAny_Constant_int (evalPart_none_step ?_))))
    refine sub_list hl2 .none (.int 12 _) .none (by simp) ?_ (by rw [sizeLine_eq]; simp; (first | lia | omega)) (by with_unfolding_all rfl)
    · rw [show ((12 : Int)) = ((12 : Nat) : Int) from rfl, slicePick_upto']
      generalize hg1 : ((vals.toArray.toList).take 12) = v12
      have h12 : v12.length ≤ 12 := by rw [← hg1]; simp; (first | lia | omega)
      have hI12 : IntsAre v12 (ns.take 12) := by rw [← hg1]; exact IntsAre.take hI 12
      have x3 : ∀ (o1 o2 : Obj), Ext s₂.heap ((s₂.heap.push o1).push o2) := fun o1 o2 b o e => Heap.get?_push_of_some _ (Heap.get?_push_of_some _ e)
      refine wpAny_Slice (evalPart_some_step (nmL (hn.keeps (x3 _ _)) hm (evalPart_none_step (evalPart_some_step (wpAny_Constant_int ?_)))))
      refine sub_list (items := v12.toArray) ⟨_, Heap.get?_push_at (Heap.size_push ..).symm rfl, rfl, _, rfl⟩ (.int _ _) .none (.int 3 _) (by simp) ?_ (by rw [sizeLine_eq]; simp; (first | lia | omega)) (by with_unfolding_all rfl)
      · have hpick := IntsAre.pick hI12 (some (0 + (i : Int) * 1)) none (some 3)
        have hpl := slicePick_size_le v12.toArray (some (0 + (i : Int) * 1)) none (some 3)
        generalize slicePick v12.toArray (some (0 + (i : Int) * 1)) none (some 3) = pk at hpick hpl
        have hps : pk.size ≤ 12 := by simp at hpl; (first | lia | omega)
        refine ⟨_, _, (fun _ => true), (fun v y os => (∃ c u, Sg c ∧ y = .str ⟨#[c]⟩ u) ∧ os = []), iters_list hh (items := pk) ⟨_, Heap.get?_push_at (Heap.size_push ..).symm rfl, rfl, _, rfl⟩, ?_, ?_, ?_, ?_⟩
        · rw [sizeLine_eq]; (first | lia | omega)
        · intro C' j v s₃ m₃ hP' hn' hm' hx' hC'
          exact tests0
        · intro C' j v s₃ m₃ hP' hp' hn' hm' hx' hC'
          obtain ⟨n, t9, rfl⟩ := hpick.all _ (List.mem_of_getElem? (by simpa using hP'))
          have hx9 : Ext s₂.heap s₃.heap := fun b o e => hx' _ _ (Heap.get?_push_of_some _ (Heap.get?_push_of_some _ (Heap.get?_push_of_some _ (Heap.get?_push_of_some _ e))))
          refine Subscript_ (nmF (c := L + 1 + 1) rfl (hx9 _ _ hsig) ho2' (wpAny_BinOp (nmL hn' hm' (wpAny_Constant_int (mod_int (by decide) ?_)))))
          have b1 : 0 ≤ n.fmod 9 := Int.fmod_nonneg_of_pos _ (by decide)
          have b2 : n.fmod 9 < 9 := Int.fmod_lt_of_pos _ (by decide)
          obtain ⟨c, hc⟩ : ∃ c, signsL[(n.fmod 9).toNat]? = some c := ⟨_, List.getElem?_eq_getElem (by show _ < 9; (first | lia | omega))⟩
          have hit := item_at hc
          rw [show (((n.fmod 9).toNat : Nat) : Int) = n.fmod 9 by (first | lia | omega)] at hit
          refine item_str (by unfold fitsSsize; simp; (first | lia | omega)) (by show -(9 : Int) ≤ _; (first | lia | omega)) (by show _ < (9 : Int); (first | lia | omega)) (fun _ => ?_)
          rw [hit]
          exact afterI [] (Ext.refl _) made0 ⟨⟨c, _, signs_sg c (List.mem_of_getElem? hc), rfl⟩, rfl⟩
        · intro D' h₄ tk₄ vs₄ zs₄ k₄ hlen₄ hP₄ hF₄ made₄ hx₄
          have hall : vs₄.filter (fun _ => true) = vs₄ := List.filter_eq_self.mpr fun _ _ => rfl
          rw [hall] at hF₄
          obtain ⟨lr, T, hsg, hll, he⟩ := strs_rows hF₄
          rw [he] at made₄
          have hD := (made₄ _ (.head _)).2
          have hzl : (zs₄.map (·.1)).length = vs₄.length := by rw [List.length_map]; exact hF₄.length.symm
          refine args_nil (join_txts ⟨_, hD, rfl, _, rfl⟩ T (by rw [hzl]; (first | lia | omega)) (fun t' k => ?_))
          exact afterI [] (fun b o e => hx₄ _ _ (Heap.get?_push_of_some _ (Heap.get?_push_of_some _ (Heap.get?_push_of_some _ (Heap.get?_push_of_some _ e))))) made0 ⟨⟨lr, _, ⟨hsg, by (first | lia | omega)⟩, rfl⟩, rfl⟩
  · intro D h' tk' vs' zs k hlen' hP hF made hx
    have hall : vs'.filter (fun _ => true) = vs' := List.filter_eq_self.mpr fun _ _ => rfl
    rw [hall] at hF
    obtain ⟨rows, hS, hrows, hrl, he⟩ := strs_three hF
    rw [he] at made
    have hDm := made _ (.head _)
    have hx2 : Ext h₂ h' := fun b o e => hx b o (Heap.get?_push_of_some _ e)
    have fresh : ∀ b o, h₂.get? b = some o → D ≠ b := fun b o e q => by
      have := hDm.1; rw [q, show Heap.get? _ b = some o from Heap.get?_push_of_some _ e] at this; cases this
    have hDL : D ≠ L := by
      obtain ⟨oL, _, _, hoL, _⟩ := F.ns
      exact fresh _ _ hoL
    have hD0 : s.heap.get? D = none := by
      cases e : s.heap.get? D with
      | none => rfl
      | some o => exact absurd rfl (fresh _ _ (F.keep _ _ e))
    have hD3 := fresh _ _ (N.get (.head _))
    have N₃ : News s.heap L h' ((D, listO (zs.map (·.1)) k) :: [(L + 1 + 1 + 1, o1), (L + 1 + 1, o2'), (L + 1, o3)]) := fun p hp => by
      rcases List.mem_cons.mp hp with rfl | hp
      · exact ⟨hDm.2, hDL, hD0⟩
      · exact N.grown hx2 p hp
    have F := F.keeps hx2
    refine storeX_C F N₃ rfl (.tail hD3 (.head (allC (Nat.ne_of_lt (Nat.lt_succ_self _)) (allC (Nat.ne_of_lt (Nat.lt_trans (Nat.lt_succ_self _) (Nat.lt_succ_self _))) allN)))) ho1 ?_
    intro h₃ o1' F N ho1'
    dsimp only at N ⊢
    (refine wpAny_execs_cons ?_; with_reducible refine wpAny_Return_some ?_)
    refine comp (cl := [(Str.ofString "drawn", L + 1 + 1 + 1)]) rfl (by decide) rfl (by decide) rfl ?_
    refine Call_ (gnX F G (at_range w) rfl (by decide) (PyProof.Rows.callWith_type1 (args_cons (wpAny_Constant_int (args_nil (call_range_1 ?_))))))
    refine ⟨3, _, (fun _ => true), (fun v y os => (∃ l u, (l ≠ [] ∧ rowOk l) ∧ y = .str (S l) u) ∧ os = []), Iters.bound (iters_range (A := A.deeper _) (a := 0) (b := 3) (c := 1) (n := 3) hh (IsRange.new ..) (by decide) (by decide)), ?_, ?_, ?_, ?_⟩
    · rw [sizeLine_eq]; (first | lia | omega)
    · intro C i v s₂ m₂ hP hn hm hx hC
      exact tests0
    · intro C i v s₂ m₂ hP hp hn hm hx hC
      obtain ⟨hi, u, rfl⟩ := hP
      have hx2 : Ext h₃ s₂.heap := fun b o e => hx b o (Heap.get?_push_of_some _ e)
      have hdr := hx2 _ _ (N.get (.tail _ (.head _)))
      have hDl : s₂.heap.IsList D (zs.map (·.1)).toArray := ⟨_, hx2 _ _ (N.get (.head _)), rfl, _, rfl⟩
      have hi0 : (0 : Int) + (i : Int) * 1 = (i : Int) := by (first | lia | omega)
      rw [hi0] at hm
      obtain ⟨r0, hr0⟩ : ∃ r0, rows[i]? = some r0 := ⟨_, List.getElem?_eq_getElem (by (first | lia | omega))⟩
      obtain ⟨t0, hv0⟩ := hS.at (j := i) (y := S r0) (by simp [hr0])
      have hrow := hrows r0 (List.mem_of_getElem? hr0)
      refine IfExp_ ?_
      refine wpAny_isTrue_Compare1 (Subscript_ (nmF (c := L + 1 + 1 + 1) rfl hdr ho1' (nmL hn hm (item_listL hDl (by (first | lia | omega)) (by (first | lia | omega)) (by simpa using hv0) ?_))))
      refine Constant_str (ne_str (wpAny_truthy_bool ?_))
      rw [s_nempty]
      by_cases he0 : (r0 != []) = true
      · rw [if_pos he0]
        refine Subscript_ (nmF (c := L + 1 + 1 + 1) rfl hdr ho1' (nmL hn hm (item_listL hDl (by (first | lia | omega)) (by (first | lia | omega)) (by simpa using hv0) ?_)))
        exact afterI [] (Ext.refl _) made0 ⟨⟨r0, t0, ⟨by simpa using he0, hrow⟩, rfl⟩, rfl⟩
      · rw [if_neg he0]
        refine Subscript_ (List_ (args_cons (Constant_str (args_cons (Constant_str (args_cons (Constant_str (args_nil ?_))))))))
        refine wpAny_newObj_type (nmL (hn.keeps fun b o e => Heap.get?_push_of_some _ e) hm ?_)
        refine item_strsT (l := [(Str.ofString "*", _), (Str.ofString "g*", _), (Str.ofString "*g", _)]) ⟨_, Heap.get?_push_size _ rfl, rfl, _, rfl⟩ (by (first | lia | omega)) (by simp; (first | lia | omega)) (by (first | lia | omega)) (fun y t' e => ?_)
        refine afterI [] (fun b o e => Heap.get?_push_of_some _ e) made0 ⟨?_, rfl⟩
        have key : ∀ l : List Nat, y = S l → (l ≠ [] ∧ rowOk l) → ∃ l u, (l ≠ [] ∧ rowOk l) ∧ Value.str y t' = .str (S l) u := fun l hy hl => ⟨l, t', hl, by rw [hy]⟩
        have lit : i = 0 ∨ i = 1 ∨ i = 2 := by (first | lia | omega)
        rcases lit with rfl | rfl | rfl
        · exact key [42] ((show Str.ofString "*" = y from Option.some.inj e).symm.trans (by decide +kernel : Str.ofString "*" = S [42])) lits.1
        · exact key [103, 42] ((show Str.ofString "g*" = y from Option.some.inj e).symm.trans (by decide +kernel : Str.ofString "g*" = S [103, 42])) lits.2.1
        · exact key [42, 103] ((show Str.ofString "*g" = y from Option.some.inj e).symm.trans (by decide +kernel : Str.ofString "*g" = S [42, 103])) lits.2.2
    · intro D₂ h₅ tk₅ vs₅ zs₅ k₅ hlen₅ hP₅ hF₅ made₅ hx₅
      have hall : vs₅.filter (fun _ => true) = vs₅ := List.filter_eq_self.mpr fun _ _ => rfl
      rw [hall] at hF₅
      obtain ⟨rows₂, hS₂, hrows₂, hrl₂, he₂⟩ := strs_three (P := fun l => l ≠ [] ∧ rowOk l) hF₅
      rw [he₂] at made₅
      have hDm := made₅ _ (.head _)
      have hx6 : Ext h₃ h₅ := fun b o e => hx₅ b o (Heap.get?_push_of_some _ e)
      have fresh : ∀ b o, h₃.get? b = some o → D₂ ≠ b := fun b o e q => by
        have := hDm.1; rw [q, show Heap.get? _ b = some o from Heap.get?_push_of_some _ e] at this; cases this
      have hDL : D₂ ≠ L := by
        obtain ⟨oL, _, _, hoL, _⟩ := F.ns
        exact fresh _ _ hoL
      have hD0 : s.heap.get? D₂ = none := by
        cases e : s.heap.get? D₂ with
        | none => rfl
        | some o => exact absurd rfl (fresh _ _ (F.keep _ _ e))
      have N₅ : News s.heap L h₅ [(D₂, listO (zs₅.map (·.1)) k₅)] := fun p hp => by
        rw [List.mem_singleton.mp hp]; exact ⟨hDm.2, hDL, hD0⟩
      exact hK _ _ (afterF (F.keeps hx6) N₅ _ (fun p hp => hp) ⟨D₂, k₅, _, rows₂, rfl, rfl, hS₂, by rw [hrl₂, hlen₅], hrows₂⟩)
end
end Mine
end
section
namespace Mine
open PySem PySem.Sre PySem.Sre.M

theorem step_done {m : M} (h : m.outcome.isSome = true) : m.step = m := by unfold M.step; rw [if_pos h]
theorem runFor_done {m : M} (h : m.outcome.isSome = true) : ∀ n, m.runFor n = m
  | 0 => rfl
  | n + 1 => by rw [runFor, if_pos h]
theorem runFor_succ (m : M) (n : Nat) : m.runFor (n + 1) = m.step.runFor n := by
  rw [runFor]
  split
  · rename_i h; rw [step_done h, runFor_done h]
  · rfl
theorem runFor_add : ∀ (a b : Nat) (m : M), m.runFor (a + b) = (m.runFor a).runFor b
  | 0, b, m => by rw [Nat.zero_add]; rfl
  | a + 1, b, m => by rw [show a + 1 + b = (a + b) + 1 by (first | lia | omega), runFor_succ, runFor_succ, runFor_add a b]
theorem runFor_more {m : M} {k n : Nat} (h : (m.runFor k).outcome.isSome = true) (hk : k ≤ n) : m.runFor n = m.runFor k := by
  obtain ⟨d, rfl⟩ := Nat.exists_eq_add_of_le hk
  rw [runFor_add, runFor_done h]

def qcode : Array Nat := #[14, 8, 1, 3, 3, 1, 1, 61, 0, 16, 61, 24, 16, 2, 2, 13, 11, 9, 0, 67043328, 126, 126, 0, 0, 0, 0, 0, 1, 1]

/-- the machine as it begins an attempt at s -/
def at_ (text : Array Nat) (s : Nat) (seen : Seen) (first : Bool) (must : Bool) : M :=
  { code := qcode, text, lim := text.size, start := s, lastStart := text.size, mustAdvance := must, pc := 9, pos := s, handed := s, outermost := first, marks := #[],
    frames := [{ wait := .nextStart, pc := 9, pos := s, outermost := first }], weight := 1, seen }

def hexd (c : Nat) : Bool := (48 ≤ c && c ≤ 57) || (65 ≤ c && c ≤ 70)

theorem in_set {c : Nat} (h : hexd c = true) (seen : Seen) : accepts qcode 15 c seen = .ok (true, seen.add 9) := by
  unfold hexd at h
  have : c < 71 := by simp at h; (first | lia | omega)
  have key : ∀ c, c < 71 → hexd c = true → ((c < 256 && (#[0, 67043328, 126, 126, 0, 0, 0, 0].getD (c / 32) 0).testBit (c % 32)) = true) := by decide
  have k2 := key c this h
  have e2 : (qcode.getD (17 + (1 + c / 32)) 0) = #[0, 67043328, 126, 126, 0, 0, 0, 0].getD (c / 32) 0 := by
    have : c / 32 = 0 ∨ c / 32 = 1 ∨ c / 32 = 2 := by (first | lia | omega)
    rcases this with h | h | h <;> rw [h] <;> rfl
  show (if c < 256 && (qcode.getD (17 + (1 + c / 32)) 0).testBit (c % 32) then Except.ok (true, seen.add 9) else _) = _
  rw [e2, if_pos k2]

theorem fail_step {text : Array Nat} {s : Nat} {seen : Seen} {first must : Bool} (hs : s < text.size) (hc : text.getD s 0 ≠ 61) (hm : must = false) : ∃ seen', (at_ text s seen first must).runFor 2 = at_ text (s + 1) seen' false false := by
  subst hm
  refine ⟨(seen.add 16), ?_⟩
  have e1 : (at_ text s seen first false).step = { at_ text s seen first false with seen := seen.add 16, answer := some false } := by
    show (at_ text s seen first false).exec = _
    unfold PySem.Sre.M.exec
    have : ops[(at_ text s seen first false).word 0]? = some Op.LITERAL := rfl
    rw [this]
    have hlt : ¬ s ≥ text.size := by (first | lia | omega)
    show (if s ≥ text.size then _ else _) = _
    rw [if_neg hlt]
    have ha : accepts qcode 9 (text.getD s 0) (seen.add 16) = .ok (false, seen.add 16) := by
      show Except.ok (text.getD s 0 == 61, seen.add 16) = _
      rw [beq_eq_false_iff_ne.mpr hc]
    show (match accepts qcode 9 (text.getD s 0) (seen.add 16) with | .error why => _ | .ok (false, seen) => _ | .ok (true, seen) => _) = _
    rw [ha]
    rfl
  rw [runFor_succ, e1, runFor_succ]
  show ({ at_ text s seen first false with seen := seen.add 16, answer := some false } : M).step = _
  show (if s < text.size then _ else _ : M) = _
  rw [if_pos hs]
  rfl

/-- at the end of the text the last attempt fails -/
theorem end_step {text : Array Nat} {seen : Seen} {first : Bool} : ((at_ text text.size seen first false).runFor 3).outcome = some .failed := by
  have e1 : (at_ text text.size seen first false).step = { at_ text text.size seen first false with seen := seen.add 16, answer := some false } := by
    show (at_ text text.size seen first false).exec = _
    unfold PySem.Sre.M.exec
    have : ops[(at_ text text.size seen first false).word 0]? = some Op.LITERAL := rfl
    rw [this]
    show (if text.size ≥ text.size then _ else _) = _
    rw [if_pos (Nat.le_refl _)]
    rfl
  rw [runFor_succ, e1, runFor_succ]
  have e2 : ({ at_ text text.size seen first false with seen := seen.add 16, answer := some false } : M).step = { at_ text text.size seen first false with seen := seen.add 16, answer := some false, frames := [], weight := 0 } := by
    show (if text.size < text.size then _ else _ : M) = _
    rw [if_neg (Nat.lt_irrefl _)]
    rfl
  rw [e2]
  rfl

/-- a match, from an attempt at its start -/
theorem hit_step {text : Array Nat} {s : Nat} {seen : Seen} {first : Bool} (h3 : s + 3 ≤ text.size) (hc : text.getD s 0 = 61) (ha : hexd (text.getD (s + 1) 0) = true) (hb : hexd (text.getD (s + 2) 0) = true) :
    let m := (at_ text s seen first false).runFor 6
    m.outcome = some .matched ∧ m.start = s ∧ m.handed = s + 3 ∧ m.lastmark = -1 ∧ m.lastindex = -1 ∧ m.marks = #[] := by
  have hs : ¬ s ≥ text.size := by (first | lia | omega)
  have e1 : (at_ text s seen first false).step = { at_ text s seen first false with seen := seen.add 16, pc := 11, pos := s + 1 } := by
    show (at_ text s seen first false).exec = _
    unfold PySem.Sre.M.exec
    have : ops[(at_ text s seen first false).word 0]? = some Op.LITERAL := rfl
    rw [this]
    show (if s ≥ text.size then _ else _) = _
    rw [if_neg hs]
    have hq : accepts qcode 9 (text.getD s 0) (seen.add 16) = .ok (true, seen.add 16) := by
      show Except.ok (text.getD s 0 == 61, seen.add 16) = _
      rw [hc]; rfl
    show (match accepts qcode 9 (text.getD s 0) (seen.add 16) with | .error why => _ | .ok (false, seen) => _ | .ok (true, seen) => _) = _
    rw [hq]
    rfl
  rw [runFor_succ, e1]
  have hrun : ∀ sn : Seen, run qcode text 15 2 (s + 1) 0 sn = .ok (2, (sn.add 9).add 9) := by
    intro sn
    show (do let (yes, seen) ← accepts qcode 15 (text.getD (s + 1) 0) sn; if yes then run qcode text 15 1 (s + 1 + 1) (0 + 1) seen else pure (0, seen)) = _
    rw [in_set ha]
    show (do let (yes, seen) ← accepts qcode 15 (text.getD (s + 1 + 1) 0) (sn.add 9); if yes then run qcode text 15 0 (s + 1 + 1 + 1) (0 + 1 + 1) seen else pure (0 + 1, seen)) = _
    rw [in_set hb]
    rfl
  obtain ⟨sn2, e2⟩ : ∃ sn2, ({ at_ text s seen first false with seen := seen.add 16, pc := 11, pos := s + 1 } : M).step =
      { at_ text s seen first false with seen := sn2, pc := 28, pos := s + 3, handed := s + 3, frames := { wait := .giveBack, pc := 11, pos := s + 3, outermost := first, count := 2 } :: (at_ text s seen first false).frames, weight := 2 } := by
    refine ⟨((((seen.add 16).add 24).add 13).add 9).add 9, ?_⟩
    show ({ at_ text s seen first false with seen := seen.add 16, pc := 11, pos := s + 1 } : M).exec = _
    unfold PySem.Sre.M.exec
    have : ops[({ at_ text s seen first false with seen := seen.add 16, pc := 11, pos := s + 1 } : M).word 0]? = some Op.REPEAT_ONE := rfl
    rw [this]
    have hr : ¬ ((2 : Nat) : Int) > (text.size : Int) - ((s + 1 : Nat) : Int) := by (first | lia | omega)
    show (if ((2 : Nat) : Int) > (text.size : Int) - ((s + 1 : Nat) : Int) then _ else _) = _
    rw [if_neg hr]
    have hm : min 2 ((text.size : Int) - ((s + 1 : Nat) : Int)).toNat = 2 := by (first | lia | omega)
    show (match run qcode text 15 (min 2 ((text.size : Int) - ((s + 1 : Nat) : Int)).toNat) (s + 1) 0 (((seen.add 16).add 24).add 13) with | .error why => _ | .ok (n, seen) => _) = _
    rw [hm, hrun]
    rfl
  rw [runFor_succ, e2]
  cases first <;> (refine ⟨?_, ?_, ?_, ?_, ?_, ?_⟩ <;> rfl)

def Hit (m : M) (s : Nat) : Prop := m.outcome = some .matched ∧ m.start = s ∧ m.handed = s + 3 ∧ m.lastmark = -1 ∧ m.lastindex = -1 ∧ m.marks = #[]
theorem search_hit {text : Array Nat} : ∀ (d s : Nat) (seen : Seen) (first : Bool), (∀ j, s ≤ j → j < s + d → text.getD j 0 ≠ 61) → s + d + 3 ≤ text.size → text.getD (s + d) 0 = 61 → hexd (text.getD (s + d + 1) 0) = true → hexd (text.getD (s + d + 2) 0) = true →
    Hit ((at_ text s seen first false).runFor (2 * d + 6)) (s + d)
  | 0, s, seen, first, _, h3, hc, ha, hb => hit_step h3 hc ha hb
  | d + 1, s, seen, first, hno, h3, hc, ha, hb => by
    obtain ⟨seen', e⟩ := fail_step (text := text) (s := s) (seen := seen) (first := first) (must := false) (by (first | lia | omega)) (hno s (Nat.le_refl _) (by (first | lia | omega))) rfl
    rw [show 2 * (d + 1) + 6 = 2 + (2 * d + 6) by (first | lia | omega), runFor_add, e]
    have := search_hit d (s + 1) seen' false (fun j h1 h2 => hno j (by (first | lia | omega)) (by (first | lia | omega))) (by (first | lia | omega)) (by rw [show s + 1 + d = s + (d + 1) by (first | lia | omega)]; exact hc) (by rw [show s + 1 + d = s + (d + 1) by (first | lia | omega)]; exact ha) (by rw [show s + 1 + d = s + (d + 1) by (first | lia | omega)]; exact hb)
    rw [show s + 1 + d = s + (d + 1) by (first | lia | omega)] at this
    exact this
theorem search_none {text : Array Nat} : ∀ (d s : Nat) (seen : Seen) (first : Bool), s + d = text.size → (∀ j, s ≤ j → j < text.size → text.getD j 0 ≠ 61) → ((at_ text s seen first false).runFor (2 * d + 3)).outcome = some .failed
  | 0, s, seen, first, hs, _ => by
    obtain rfl : s = text.size := by (first | lia | omega)
    exact end_step
  | d + 1, s, seen, first, hs, hno => by
    obtain ⟨seen', e⟩ := fail_step (text := text) (s := s) (seen := seen) (first := first) (must := false) (by (first | lia | omega)) (hno s (Nat.le_refl _) (by (first | lia | omega))) rfl
    rw [show 2 * (d + 1) + 3 = 2 + (2 * d + 3) by (first | lia | omega), runFor_add, e]
    exact search_none d (s + 1) seen' false (by (first | lia | omega)) (fun j h1 h2 => hno j (by (first | lia | omega)) h2)

/-- the machine as a search begins -/
theorem search_from {text : Array Nat} {p : Nat} (hp : p + 3 ≤ text.size) : ∃ seen, forSearch qcode text 0 p text.size false = at_ text p seen true false := by
  refine ⟨({} : Seen).add 14, ?_⟩
  unfold forSearch
  have h1 : (p > text.size || text.size - p < (header qcode).1) = false := by
    show (decide (p > text.size) || decide (text.size - p < 3)) = false
    simp; (first | lia | omega)
  simp only [h1]
  rfl
theorem search_short {text : Array Nat} {p : Nat} (hp : text.size < p + 3) : ((forSearch qcode text 0 p text.size false).runFor 1).outcome = some .failed := by
  unfold forSearch
  have h1 : (decide (p > text.size) || decide (text.size - p < (header qcode).1)) = true := by
    show (decide (p > text.size) || decide (text.size - p < 3)) = true
    simp; (first | lia | omega)
  have h2 : (p > text.size ∨ text.size - p < (header qcode).1) := by simpa using h1
  simp only [h1, if_true]
  rfl
end Mine
end
section
open PySem PySem.W PySem.Calls PyProof.Rows
set_option maxRecDepth 100000
set_option maxHeartbeats 4000000
namespace Mine
section
variable {prog : Program} {w : World} {mg mb : Str → Option Value} {A : Around} {s : Shared} {M : Model}
open PySem.Builtin.Re in
theorem reDrive_ok {Q : Sre.M → Shared → Prop} {E : Value → Shared → Prop} : ∀ (K : Nat) (m : Sre.M), (m.runFor (4 * (K + 1))).outcome.isSome = true → ∀ N, Q (m.runFor (4 * (K + 1))) s → wpAny M A (reDrive (N + K + 1) m) Q E s
  | 0, m, hm, N, h => by
    show wpAny M A (if (m.runFor 4).outcome.isSome = true then pure (m.runFor 4) else _) Q E s
    have hm : (m.runFor 4).outcome.isSome = true := hm
    rw [if_pos hm]
    exact wpAny_pure h
  | K + 1, m, hm, N, h => by
    show wpAny M A (if (m.runFor 4).outcome.isSome = true then pure (m.runFor 4) else do rule "sre.turn"; reDrive (N + K + 1) (m.runFor 4)) Q E s
    by_cases h4 : (m.runFor 4).outcome.isSome = true
    · rw [if_pos h4]
      rw [runFor_more h4 (show 4 ≤ 4 * (K + 1 + 1) by (first | lia | omega))] at h
      exact wpAny_pure h
    · rw [if_neg h4]
      have e : m.runFor (4 * (K + 1 + 1)) = (m.runFor 4).runFor (4 * (K + 1)) := by rw [show 4 * (K + 1 + 1) = 4 + 4 * (K + 1) by (first | lia | omega), runFor_add]
      rw [e] at hm h
      exact wpAny_bind (wpAny_rule (reDrive_ok K _ hm N h))
theorem rules_ok {α : Type} {E : Value → Shared → Prop} {Q : PUnit → Shared → Prop} (f : α → PUnit → Sem (ForInStep PUnit)) (hf : ∀ a u (Q : ForInStep PUnit → Shared → Prop), Q (.yield ⟨⟩) s → wpAny M A (f a u) Q E s) (h : Q ⟨⟩ s) : ∀ l : List α, wpAny M A (forIn l PUnit.unit f) Q E s
  | [] => by rw [List.forIn_nil]; exact wpAny_pure h
  | a :: l => by
    rw [List.forIn_cons]
    exact wpAny_bind (hf a ⟨⟩ _ (rules_ok f hf h l))
open PySem.Builtin.Re in
theorem reRun_hit {E : Value → Shared → Prop} {Q : Option Sre.M → Shared → Prop} {m : Sre.M} {k : Nat} (hk : k ≤ 100000) (hm : (m.runFor k).outcome = some .matched) (h : Q (some (m.runFor k)) s) : wpAny M A (reRunToEnd m) Q E s := by
  have hs : (m.runFor k).outcome.isSome = true := by rw [hm]; rfl
  have e : m.runFor (4 * (k + 1)) = m.runFor k := runFor_more hs (by (first | lia | omega))
  obtain ⟨N, hN⟩ : ∃ N, 2 ^ 64 = N + k + 1 := ⟨2 ^ 64 - k - 1, by (first | lia | omega)⟩
  unfold reRunToEnd
  rw [hN]
  refine wpAny_bind (reDrive_ok k m (by rw [e]; exact hs) N ?_)
  rw [e]
  refine wpAny_bind (rules_ok _ (fun a u Q hq => ?_) ?_ _)
  · skip
    split
    · exact wpAny_bind (wpAny_rule (wpAny_pure hq))
    · exact wpAny_pure hq
  rw [hm]
  exact wpAny_pure h
open PySem.Builtin.Re in
theorem reRun_miss {E : Value → Shared → Prop} {Q : Option Sre.M → Shared → Prop} {m : Sre.M} {k : Nat} (hk : k ≤ 100000) (hm : (m.runFor k).outcome = some .failed) (h : Q none s) : wpAny M A (reRunToEnd m) Q E s := by
  have hs : (m.runFor k).outcome.isSome = true := by rw [hm]; rfl
  have e : m.runFor (4 * (k + 1)) = m.runFor k := runFor_more hs (by (first | lia | omega))
  obtain ⟨N, hN⟩ : ∃ N, 2 ^ 64 = N + k + 1 := ⟨2 ^ 64 - k - 1, by (first | lia | omega)⟩
  unfold reRunToEnd
  rw [hN]
  refine wpAny_bind (reDrive_ok k m (by rw [e]; exact hs) N ?_)
  rw [e]
  refine wpAny_bind (rules_ok _ (fun a u Q hq => ?_) ?_ _)
  · skip
    split
    · exact wpAny_bind (wpAny_rule (wpAny_pure hq))
    · exact wpAny_pure hq
  rw [hm]
  exact wpAny_pure h
end
end Mine
end
section
open PySem PySem.W PySem.Calls PyProof.Rows
set_option maxRecDepth 100000
set_option maxHeartbeats 4000000
namespace Mine
noncomputable def patHas (P : Params) : Bool := match (hdK P).lookup 36 with
  | some o => o.cls == .type "re.Pattern" && (match o.data with | .fields vs => vs.getD 5 .none == .ref 35 && Builtin.Re.reRawNat (vs.getD 2 .none) == 0 && Builtin.Re.reRawNat (vs.getD 6 .none) == 0 | _ => false)
  | none => false
noncomputable def codeHas (P : Params) : Bool := match (hdK P).lookup 35 with
  | some o => o.cls == .type "tuple" && (match o.data with | .seq xs _ => (xs.map Builtin.Re.reRawOf).map (·.toNat) == qcode | _ => false)
  | none => false
theorem pat_has (P : Params) : patHas P = true := by kernel_rfl
theorem code_has (P : Params) : codeHas P = true := by kernel_rfl
theorem pat_at {P : Params} {h : Heap} (K : (hdK P).In h) : ∃ o vs, h.get? 36 = some o ∧ o.cls = .type "re.Pattern" ∧ o.data = .fields vs ∧ vs.getD 5 .none = .ref 35 ∧ Builtin.Re.reRawNat (vs.getD 2 .none) = 0 ∧ Builtin.Re.reRawNat (vs.getD 6 .none) = 0 := by
  have e := pat_has P
  unfold patHas at e
  split at e
  · rename_i o ho
    rw [Bool.and_eq_true] at e
    obtain ⟨e1, e2⟩ := e
    split at e2
    · rename_i vs hd
      simp only [Bool.and_eq_true, beq_iff_eq] at e1 e2
      exact ⟨o, vs, K _ _ ho, e1, hd, e2.1.1, e2.1.2, e2.2⟩
    · cases e2
  · cases e
theorem code_at {P : Params} {h : Heap} (K : (hdK P).In h) : ∃ o xs n, h.get? 35 = some o ∧ o.cls = .type "tuple" ∧ o.data = .seq xs n ∧ (xs.map Builtin.Re.reRawOf).map (·.toNat) = qcode := by
  have e := code_has P
  unfold codeHas at e
  split at e
  · rename_i o ho
    rw [Bool.and_eq_true] at e
    obtain ⟨e1, e2⟩ := e
    split at e2
    · rename_i xs n hd
      simp only [beq_iff_eq] at e1 e2
      exact ⟨o, xs, n, K _ _ ho, e1, hd, e2⟩
    · cases e2
  · cases e
section
variable {prog : Program} {w : World} {mg mb : Str → Option Value} {A : Around} {s : Shared} {M : Model}
theorem fields_ok {a : Addr} {o : Obj} {vs : Array Value} {E : Value → Shared → Prop} {Q : Array Value → Shared → Prop} (ho : s.heap.get? a = some o) (hd : o.data = .fields vs) (h : Q vs s) : wpAny M A (fieldsOf (.ref a)) Q E s := by
  unfold fieldsOf
  refine wpAny_bind (wpAny_load ho ?_)
  rw [hd]
  exact wpAny_pure h
theorem items_ok {a : Addr} {o : Obj} {xs : Array Value} {n : Nat} {E : Value → Shared → Prop} {Q : Array Int → Shared → Prop} (ho : s.heap.get? a = some o) (hd : o.data = .seq xs n) (h : Q (xs.map Builtin.Re.reRawOf) s) : wpAny M A (Builtin.Re.reRawItems (.ref a)) Q E s := by
  unfold Builtin.Re.reRawItems seqItems?
  refine wpAny_bind (wpAny_bind (wpAny_load ho ?_))
  rw [hd]
  exact wpAny_pure (wpAny_pure h)
open PySem.Builtin.Re in
theorem whole_ok {l : List Nat} {t : Tok} {E : Value → Shared → Prop} {Q : ReTarget → Shared → Prop} (K : (hdK w.params).In s.heap)
    (h : Q { pattern := .ref 36, string := .str (S l) t, code := qcode, text := l.toArray, kind := 0, groups := 0, pos := 0, lim := l.toArray.size } s) : wpAny (model prog w) A (reWholeTarget (.ref 36) (.str (S l) t)) Q E s := by
  obtain ⟨o, vs, ho, hc, hd, h5, h2, h6⟩ := pat_at K
  obtain ⟨oc, xs, n, hoc, hcc, hdc, hx⟩ := code_at K
  unfold reWholeTarget
  refine wpAny_bind (fields_ok ho hd ?_)
  refine wpAny_bind (wpAny_of_eq (t := reTextOf (.str (S l) t)) (a := (l.toArray, 0)) rfl ?_)
  dsimp only
  rw [h6, if_neg (by decide), if_neg (by decide)]
  refine wpAny_bind (wpAny_of_eq (t := reNoCollectionInside (.str (S l) t) 0) (a := ()) rfl ?_)
  rw [h5, h2]
  refine wpAny_bind (items_ok hoc hdc ?_)
  rw [hx]
  exact wpAny_pure h
end
end Mine
end
section
open PySem PySem.W PySem.Calls PyProof.Rows
set_option maxRecDepth 100000
set_option maxHeartbeats 4000000
namespace Mine
theorem at_chr (w : World) : nsIn (hdK w.params) mainGlobals "chr" = some none := by k_is
theorem at_int (w : World) : nsIn (hdK w.params) mainGlobals "int" = some none := by k_is
theorem typeCall_int_2 (a b : Value) : checkTypeCall "int" ⟨[a, b], []⟩ = pure () := by kernel_rfl
theorem newCall_int_2 (a b : Value) : checkBuiltinCall "int.__new__" ⟨[.type "int", a, b], []⟩ = pure () := by kernel_rfl
theorem int_e9 (t u : Tok) : Builtin.«int.__new__» ⟨[.type "int", .str (S [69, 57]) t, .int 16 u], []⟩ = (do let v ← mkInt 233; ret v) := by kernel_rfl
theorem int_3f (t u : Tok) : Builtin.«int.__new__» ⟨[.type "int", .str (S [51, 70]) t, .int 16 u], []⟩ = (do let v ← mkInt 63; ret v) := by kernel_rfl
theorem int_5b (t u : Tok) : Builtin.«int.__new__» ⟨[.type "int", .str (S [53, 66]) t, .int 16 u], []⟩ = (do let v ← mkInt 91; ret v) := by kernel_rfl
theorem int_5f (t u : Tok) : Builtin.«int.__new__» ⟨[.type "int", .str (S [53, 70]) t, .int 16 u], []⟩ = (do let v ← mkInt 95; ret v) := by kernel_rfl
section
variable {prog : Program} {w : World} {mg mb : Str → Option Value} {A : Around} {s : Shared}
theorem call_int_16 {x : Str} {t u : Tok} {n : Int} {E Q : Value → Shared → Prop} (e : Builtin.«int.__new__» ⟨[.type "int", .str x t, .int 16 u], []⟩ = (do let v ← mkInt n; ret v)) (h : Q (.int n s.toks) { s with toks := s.toks + 1 }) :
    wpAny (model prog w) A (call (.type "int") [.str x t, .int 16 u]) Q E s :=
  callType_new PySem.F.called_int PySem.F.newNe_int (typeCall_int_2 _ _) (newCall_int_2 _ _) (fun obj => by unfold argsOk; kernel_rfl) PySem.F.entry_int_new (Gives.meets (m := .int n) (.of_wp fun M A E s Q h => by rw [e]; exact wpAny_bind (wpAny_mkInt (wpAny_pure ⟨_, rfl, h⟩)))) (show (Made.int n).post _ s from ⟨rfl, h⟩)

/-- the two signs behind a = -/
def twoOf (c : Nat) : List Nat := if c = 233 then [69, 57] else if c = 63 then [51, 70] else if c = 91 then [53, 66] else [53, 70]
def Esc (c : Nat) : Prop := c = 233 ∨ c = 63 ∨ c = 91 ∨ c = 95
theorem int_two {c : Nat} (hc : Esc c) (t u : Tok) : Builtin.«int.__new__» ⟨[.type "int", .str (S (twoOf c)) t, .int 16 u], []⟩ = (do let v ← mkInt (c : Int); ret v) := by
  rcases hc with rfl | rfl | rfl | rfl
  · exact int_e9 t u
  · exact int_3f t u
  · exact int_5b t u
  · exact int_5f t u

/-- unquote -/
theorem sp_unquote {c : Nat} {t : Tok} (G : Gd w mg mb s.heap) (hd : A.depth < recursionLimit) (hc : Esc c) :
    wpAny (model prog w) A (call (.ref 59) [.str (S (61 :: twoOf c)) t]) (After s fun v os => os = [] ∧ ∃ u, v = .str ⟨#[c]⟩ u) No s := by
  refine enterK (binds := [(Str.ofString "s", .str (S (61 :: twoOf c)) t)]) G (by k_is) (by k_is) hd (BindsTo.of_eq rfl) (locs rfl) (fun Kf hKf L h₁ F => ?_) (by decide) rfl rfl rfl
  (refine wpAny_execs_cons ?_; with_reducible refine wpAny_Return_some ?_)
  refine Call_ (nmB G F.keep (at_chr w) rfl (by decide) (callWith_builtin1 (args_cons ?_)))
  refine Call_ (nmB G F.keep (at_int w) rfl (by decide) (PyProof.Rows.callWith_type1 (args_cons ?_)))
  refine Subscript_ (ld F rfl (wpAny_Slice (evalPart_some_step (wpAny_Constant_int (evalPart_some_step (wpAny_Constant_int (evalPart_none_step ?_)))))))
  have h2 : (twoOf c).length = 2 := by rcases hc with rfl | rfl | rfl | rfl <;> rfl
  have e : Txt.slice (S (61 :: twoOf c)) (some 1) (some 3) = S (twoOf c) := by rcases hc with rfl | rfl | rfl | rfl <;> decide +kernel
  refine slice_strN_ss F News.nil (fun h₂ t₂ k₂ F _ => ?_) (by with_unfolding_all rfl) (by intro _; with_unfolding_all rfl) (by show (61 :: twoOf c).toArray.size ≤ _; rw [sizeLine_eq]; simp; (first | lia | omega))
  rw [e]
  refine args_cons (wpAny_Constant_int (args_nil ?_))
  refine call_int_16 (int_two hc _ _) (args_nil ?_)
  have hlt : c < 256 := by rcases hc with rfl | rfl | rfl | rfl <;> decide
  refine P.chr_of_int (by rw [decide_eq_false (by (first | lia | omega)), decide_eq_false (by (first | lia | omega))]; rfl) ?_
  rw [Int.toNat_natCast]
  exact hKf _ _ (afterF F News.nil [] (fun _ h => nomatch h) ⟨rfl, _, rfl⟩)
end
end Mine
end
section
open PySem PySem.W PySem.Calls PyProof.Rows
set_option maxRecDepth 100000
set_option maxHeartbeats 4000000
namespace Mine
theorem at_unquote (w : World) : nsIn (hdK w.params) mainGlobals "unquote" = some (some (.ref 59)) := by k_is
theorem keep_unquote (w : World) : keepIn (hdK w.params) (.ref 59) = true := by k_is
theorem mg_slot : Slot "re.Match" "group" "re.Match.group" :=
  .of (owner := "re.Match") (n := "group") (by rw [typeLookup_type, builtinLookup_eq_fast]; kernel_rfl) (by decide +kernel) (by decide +kernel) (by decide +kernel)
    (by first | exact .inl (by decide +kernel) | exact .inr (by decide +kernel)) (by rw [isSubtype_type]; kernel_rfl)
theorem mg_type : typeOf (.builtin "re.Match.group") = pure (.type "method_descriptor") := by show builtinType _ = _; rw [builtinType_eq_fast]; kernel_rfl
theorem mg_entry : entryFor table "re.Match.group" = some Builtin.«re.Match.group» := entryFor_of_tree (by kernel_rfl)
theorem mg_args (a b : Value) : argsOk "re.Match.group" ⟨[a, b], []⟩ := by unfold argsOk; kernel_rfl
theorem mg_plain : PlainAttrs "re.Match" :=
  ⟨⟨"object.__getattribute__", by rw [typeLookup_type, builtinLookup_eq_fast]; kernel_rfl, by decide +kernel⟩, by rw [typeLookup_type, builtinLookup_eq_fast]; kernel_rfl⟩
abbrev matchO (T : List Nat) (t : Tok) (tup : Addr) (lim : Nat) : Obj := { cls := .type "re.Match", data := .fields #[.str (S T) t, .ref 36, rawInt 0, rawInt (lim : Int), rawInt (-1), .ref tup] }
abbrev spanO (b e : Nat) : Obj := tupO [rawInt (b : Int), rawInt (e : Int)]
section
variable {prog : Program} {w : World} {mg mb : Str → Option Value} {A : Around} {s : Shared} {M : Model}
theorem gnum (fs : Array Value) (a b : Int) (u : Tok) : Builtin.Re.reGroupNumber ⟨fs, #[a, b]⟩ (.int 0 u) = pure 0 := by kernel_rfl
open PySem.Builtin.Re in
theorem gtext (T : List Nat) (t : Tok) (x1 x2 x3 x4 x5 : Value) (b e : Nat) : reGroupText ⟨#[.str (S T) t, x1, x2, x3, x4, x5], #[(b : Int), (e : Int)]⟩ 0 .none = mkStr ⟨T.toArray.extract b e⟩ := by
  have h1 : ¬ ((b : Int) < 0 ∨ (e : Int) < 0) := by (first | lia | omega)
  show (if (decide ((b : Int) < 0) || decide ((e : Int) < 0)) = true then pure Value.none else (do let (text, kind) ← reTextOf (.str (S T) t); reSlice text kind (b : Int).toNat (e : Int).toNat)) = _
  rw [if_neg (by simp)]
  rfl
open PySem.Builtin.Re in
theorem group0 {f tup : Addr} {T : List Nat} {t u : Tok} {lim b e : Nat} {E Q : Value → Shared → Prop} (hf : s.heap.get? f = some (matchO T t tup lim)) (ht : s.heap.get? tup = some (spanO b e)) (hsz : T.length ≤ 100000)
    (h : ∀ t' k, Q (.str ⟨T.toArray.extract b e⟩ t') { s with toks := k }) : wpAny (model prog w) A (call (.builtin "re.Match.group") [.ref f, .int 0 u]) Q E s := by
  refine wpAny_call_entry mg_slot ⟨_, hf, rfl⟩ mg_entry ?_ (mg_args _ _)
  unfold Builtin.«re.Match.group» reFound
  refine wpAny_bind (wpAny_of_eq (t := noKeywords "Match.group" ⟨[.ref f, .int 0 u], []⟩) (a := ()) rfl ?_)
  dsimp only
  refine wpAny_bind (wpAny_bind (fields_ok hf rfl (wpAny_bind (items_ok ht rfl (wpAny_pure ?_)))))
  have hsp : Array.map reRawOf ([rawInt (b : Int), rawInt (e : Int)].toArray) = #[(b : Int), (e : Int)] := by simp [reRawOf, rawInt]
  rw [hsp]
  refine wpAny_bind (wpAny_of_eq (a := 0) (gnum #[.str (S T) t, .ref 36, rawInt 0, rawInt (lim : Int), rawInt (-1), .ref tup] b e u) ?_)
  refine wpAny_bind ?_
  rw [gtext T t (.ref 36) (rawInt 0) (rawInt (lim : Int)) (rawInt (-1)) (.ref tup) b e]
  refine wpAny_mkStr (wpAny_pure ⟨_, rfl, h _ _⟩) ?_
  show (T.toArray.extract b e).size ≤ _
  rw [sizeLine_eq]; simp; (first | lia | omega)
end
end Mine
end
section
open PySem PySem.W PySem.Calls PyProof.Rows
set_option maxRecDepth 100000
set_option maxHeartbeats 4000000
namespace Mine
section
variable {prog : Program} {w : World} {mg mb : Str → Option Value} {A : Around} {s : Shared}
/-- _unquote_match -/
theorem sp_um {f tup : Addr} {T : List Nat} {t : Tok} {lim b e c : Nat} (G : Gd w mg mb s.heap) (hd : A.depth + 1 < recursionLimit) (hf : s.heap.get? f = some (matchO T t tup lim)) (ht : s.heap.get? tup = some (spanO b e)) (hsz : T.length ≤ 100000)
    (hc : Esc c) (hx : T.toArray.extract b e = (61 :: twoOf c).toArray) :
    wpAny (model prog w) A (call (.ref 79) [.ref f]) (After s fun v os => os = [] ∧ ∃ u, v = .str ⟨#[c]⟩ u) No s := by
  refine enterK (binds := [(Str.ofString "match", .ref f)]) G (by k_is) (by k_is) (by (first | lia | omega)) (BindsTo.of_eq rfl) (locs rfl) (fun Kf hKf L h₁ F => ?_) (by decide) rfl rfl rfl
  (refine wpAny_execs_cons ?_; with_reducible refine wpAny_Assign_Name ?_ ?as2x50; (case as2x50 => with_unfolding_all exact rfl))
  refine MethodCall_ (ld F rfl ?_)
  refine getMethod_builtin ⟨_, F.keep _ _ hf, rfl⟩ mg_plain mg_slot mg_type (fun a e => by cases e; exact ⟨_, F.keep _ _ hf, rfl⟩) ?_
  refine callWith_method1 (args_cons (wpAny_Constant_int (args_nil ?_)))
  refine group0 (F.keep _ _ hf) (F.keep _ _ ht) hsz (fun t' k => ?_)
  rw [hx]
  refine st F (fun h₂ F => ?_)
  dsimp only at F ⊢
  (refine wpAny_execs_cons ?_; with_reducible refine wpAny_Return_some ?_)
  refine Call_ (nmG G F.keep (at_unquote w) (callWith_K (G.ext F.keep).k (keep_unquote w) (args_cons (ld F rfl (args_nil ⟨(G.ext F.keep).k, ?_⟩)))))
  refine useN F News.nil (sp_unquote (G.ext F.keep) (by exact hd) hc) ?_
  rintro v os h₃ tk₃ x F N ⟨rfl, u, rfl⟩
  exact hKf _ _ (afterF F News.nil [] (fun _ h => nomatch h) ⟨rfl, _, rfl⟩)
end
end Mine
end
section
open PySem PySem.W PySem.Calls PyProof.Rows
set_option maxRecDepth 100000
set_option maxHeartbeats 4000000
namespace Mine
section
variable {prog : Program} {w : World} {mg mb : Str → Option Value} {A : Around} {s : Shared} {M : Model}

/-- one sign of a decoded word, as it stands in the text: itself, or = and two figures -/
def enc2 (c : Nat) : List Nat := if c = 233 ∨ c = 63 ∨ c = 91 ∨ c = 95 then 61 :: twoOf c else [c]
def wr2 (r : List Nat) : List Nat := r.flatMap enc2
theorem hexd_two {c : Nat} (hc : Esc c) : ∃ a b, twoOf c = [a, b] ∧ hexd a = true ∧ hexd b = true := by
  rcases hc with rfl | rfl | rfl | rfl <;> exact ⟨_, _, rfl, rfl, rfl⟩
open PySem.Builtin.Re in
theorem newMatch_ok {T : List Nat} {t : Tok} {lim p : Nat} {m : Sre.M} {E Q : Value → Shared → Prop} (hm : Hit m p) (h : ∀ h' f tup, Ext s.heap h' → s.heap.get? f = none → h'.get? f = some (matchO T t tup lim) → h'.get? tup = some (spanO p (p + 3)) → Q (.ref f) { s with heap := h' }) :
    wpAny M A (reNewMatch (.ref 36) (.str (S T) t) 0 0 lim m) Q E s := by
  obtain ⟨-, h1, h2, h3, h4, h5⟩ := hm
  unfold reNewMatch
  simp only [List.range_zero, List.flatMap_nil, List.any_nil, Bool.false_eq_true, if_false]
  rw [h1, h2, h4]
  unfold newTuple newFields
  refine wpAny_bind (wpAny_newObj_type (wpAny_newObj_type ?_))
  refine h _ _ s.heap.objs.size (fun b o e => Heap.get?_push_of_some _ (Heap.get?_push_of_some _ e)) ?_ (Heap.get?_push_size _ rfl) (Heap.get?_push_of_some _ (Heap.get?_push_size _ rfl))
  cases e : s.heap.get? _ with
  | none => rfl
  | some o => 
    have := Heap.lt_size e
    rw [show (Heap.push _ _).objs.size = _ from Heap.size_push ..] at this
    exact absurd this (Nat.not_lt.mpr (Nat.le_succ _))
end
end Mine
end
section
open PySem PySem.W PySem.Calls PyProof.Rows
set_option maxRecDepth 100000
set_option maxHeartbeats 4000000
namespace Mine
theorem lp_plain : plainId "re.Pattern.sub.loop" = true := by decide +kernel
theorem lp_entry : entryFor table "re.Pattern.sub.loop" = some Builtin.«re.Pattern.sub.loop» := entryFor_of_tree (by kernel_rfl)
section
variable {prog : Program} {w : World} {mg mb : Str → Option Value} {A : Around} {s : Shared} {M : Model}
/-- the next escape of a text -/
theorem split_esc : ∀ rs : List Nat, (∀ c ∈ rs, c ≠ 61) → (∀ c ∈ rs, ¬ Esc c) ∨ ∃ a c b, rs = a ++ c :: b ∧ (∀ c ∈ a, ¬ Esc c) ∧ Esc c
  | [], _ => .inl fun _ h => nomatch h
  | x :: rs, h => by
    by_cases hx : Esc x
    · exact .inr ⟨[], x, rs, rfl, (fun _ h => nomatch h), hx⟩
    · rcases split_esc rs (fun c hc => h c (.tail _ hc)) with h1 | ⟨a, c, b, rfl, h1, h2⟩
      · exact .inl fun c hc => by
          rcases List.mem_cons.mp hc with rfl | hc
          · exact hx
          · exact h1 c hc
      · refine .inr ⟨x :: a, c, b, rfl, fun d hd => ?_, h2⟩
        rcases List.mem_cons.mp hd with rfl | hd
        · exact hx
        · exact h1 d hd
theorem wr2_plain {l : List Nat} (h : ∀ c ∈ l, ¬ Esc c) : wr2 l = l := by
  induction l with
  | nil => rfl
  | cons c l ih =>
    have hc : ¬ (c = 233 ∨ c = 63 ∨ c = 91 ∨ c = 95) := h c (.head _)
    have e : enc2 c = [c] := by unfold enc2; rw [if_neg hc]
    unfold wr2 at ih ⊢
    rw [List.flatMap_cons, e, ih fun d hd => h d (.tail _ hd)]; rfl
theorem wr2_app (a b : List Nat) : wr2 (a ++ b) = wr2 a ++ wr2 b := by simp [wr2]
theorem wr2_esc {c : Nat} (b : List Nat) (hc : Esc c) : wr2 (c :: b) = 61 :: twoOf c ++ wr2 b := by
  have e : enc2 c = 61 :: twoOf c := by unfold enc2; exact if_pos hc
  unfold wr2; rw [List.flatMap_cons, e]
end
end Mine
end
section
open PySem PySem.W PySem.Calls PyProof.Rows
set_option maxRecDepth 100000
set_option maxHeartbeats 4000000
namespace Mine
section
variable {prog : Program} {w : World} {mg mb : Str → Option Value} {A : Around} {s : Shared} {M : Model}
abbrev loopA (T : List Nat) (t : Tok) (n p : Nat) (D : Addr) : Args := ⟨[.ref 36, .str (S T) t, .ref 79, rawInt 1, rawInt 0, rawInt n, rawInt p, rawInt p, .bool false, .ref D, .bool false], []⟩

theorem push_ok {D : Addr} {vs : List Value} {cap : Nat} {v : Value} {E : Value → Shared → Prop} {Q : Unit → Shared → Prop} (hD : s.heap.get? D = some (listO vs cap)) (hsz : vs.length ≤ 1000000)
    (h : ∀ h' cap', h'.get? D = some (listO (vs ++ [v]) cap') → Heap.SameBut D s.heap h' → Q () { s with heap := h' }) : wpAny M A (updateSeq D (·.push v)) Q E s := by
  have := get?_update_seq hD (·.push v)
  have e : (vs.toArray.push v) = (vs ++ [v]).toArray := by simp
  rw [e] at this
  exact wpAny_updateSeq hD rfl (h _ _ this (Heap.SameBut.update ..)) (by rw [sizeLine_eq]; simp; (first | lia | omega)) (by rw [sizeLine_eq]; simp; (first | lia | omega))
open PySem.Builtin.Re in
def subTail (T : List Nat) (t : Tok) (n : Nat) (D : Addr) (m : Sre.M) : Sem PySem.Fin := do
  let found ← reNewMatch (.ref 36) (.str (S T) t) 0 0 T.toArray.size m
  let item ← holding [found] (call (.ref 79) [found])
  if (item != .none) = true then do
    updateSeq D (fun x => x.push item)
    again (.builtin "re.Pattern.sub.loop" ⟨[.ref 36, .str (S T) t, .ref 79, rawInt 1, rawInt 0, rawInt ((n : Int) + 1), rawInt (m.handed : Int), rawInt (m.handed : Int), .bool (m.handed == m.start), .ref D, .bool false], []⟩)
  else
    again (.builtin "re.Pattern.sub.loop" ⟨[.ref 36, .str (S T) t, .ref 79, rawInt 1, rawInt 0, rawInt ((n : Int) + 1), rawInt (m.handed : Int), rawInt (m.handed : Int), .bool (m.handed == m.start), .ref D, .bool false], []⟩)
open PySem.Builtin.Re in
def subEnd (T : List Nat) (D : Addr) : Sem PySem.Fin := do
  let joiner ← mkStr ⟨T.toArray.extract 0 0⟩
  let text ← if ((← seqItems? (.ref D)).getD #[]).isEmpty = true then pure joiner
    else call (.builtin "str.join") [joiner, .ref D]
  ret text
theorem ext_at {T a r : List Nat} {p : Nat} (h : T.drop p = a ++ r) : T.toArray.extract p (p + a.length) = a.toArray := by
  apply Array.toList_inj.mp
  simp only [List.extract_toArray]
  rw [List.extract_eq_take_drop]
  rw [h]
  simp
theorem get_at {T : List Nat} {p i : Nat} : T.toArray.getD (p + i) 0 = (T.drop p).getD i 0 := by
  simp [List.getD_eq_getElem?_getD]

theorem sub_loop {g : Heap} {T : List Nat} {t : Tok} {D : Addr} (G : Gd w mg mb g) (hh : A.handled = none) (hd : A.depth + 2 < recursionLimit) (hD0 : g.get? D = none) (hT : T.length ≤ 10000) :
    ∀ (k : Nat) (rs : List Nat), rs.length = k → (∀ c ∈ rs, c ≠ 61) → ∀ (p n : Nat) (s : Shared) (vs : List Value) (acc : List Nat) (cap : Nat) (R : Result → Shared → Prop),
      p ≤ T.length → T.drop p = wr2 rs → Ext g s.heap → s.heap.get? D = some (listO vs cap) → Txts vs acc → acc.length ≤ p → vs.length ≤ p →
      (∀ u h' tk, Ext g h' → R (.ok (.ret (.str (S (acc ++ rs)) u))) { s with heap := h', toks := tk }) →
      codeAny (model prog w) A (.builtin "re.Pattern.sub.loop" (loopA T t n p D)) R s := by
  intro k
  induction k using Nat.strongRecOn with
  | _ k ih =>
  intro rs hk h61 p n s vs acc cap R hp hdrop x hD hvs hacc hvl hR
  refine codeAny_builtin lp_entry ?_
  rw [Around.under_plainId lp_plain]
  refine absQE (fun Q₁ E₁ hq => ?_)
  unfold Builtin.«re.Pattern.sub.loop»
  dsimp only [loopA, rawInt]
  refine wpAny_bind (whole_ok (G.ext x).k ?_)
  rw [if_neg (by decide)]
  refine wpAny_bind ?_
  rw [if_neg (by simp)]
  unfold Builtin.Re.reNextFound
  simp only [Int.toNat_natCast]
  have hTs : T.toArray.size = T.length := by simp
  have hlen : T.length = p + (wr2 rs).length := by rw [← hdrop, List.length_drop]; (first | lia | omega)
  rcases split_esc rs h61 with hno | ⟨a, c, b, rfl, ha, hc⟩
  · -- no escape is left
    rw [wr2_plain hno] at hdrop hlen
    have fin : ∀ mm : Sre.M, mm = Sre.forSearch qcode T.toArray 0 p T.toArray.size false → ∃ k, k ≤ 100000 ∧ (mm.runFor k).outcome = some .failed := by
      rintro mm rfl
      by_cases h3 : p + 3 ≤ T.length
      · obtain ⟨seen, e⟩ := search_from (text := T.toArray) (p := p) (by (first | lia | omega))
        rw [e]
        refine ⟨2 * (T.length - p) + 3, by (first | lia | omega), search_none (T.length - p) p seen true (by (first | lia | omega)) fun j h1 h2 => ?_⟩
        obtain ⟨i, rfl⟩ := Nat.exists_eq_add_of_le h1
        have hi : i < rs.length := by (first | lia | omega)
        rw [get_at, hdrop, List.getD_eq_getElem?_getD, List.getElem?_eq_getElem hi]
        exact h61 _ (List.getElem_mem hi)
      · exact ⟨1, by (first | lia | omega), search_short (by (first | lia | omega))⟩
    obtain ⟨kk, hk1, hk2⟩ := fin _ rfl
    refine reRun_miss hk1 hk2 ?_
    dsimp only
    have tail : ∀ h1 vs1 cap1 tk, Ext g h1 → h1.get? D = some (listO vs1 cap1) → Txts vs1 (acc ++ rs) → vs1.length ≤ p + rs.length → wpAny (model prog w) A.in1 (subEnd T D)
        Q₁ E₁ { s with heap := h1, toks := tk } := by
      intro h1 vs1 cap1 tk1 x1 hD1 ht1 hl1
      unfold subEnd
      refine wpAny_bind (wpAny_mkStr ?_ (by show (T.toArray.extract 0 0).size ≤ _; rw [sizeLine_eq]; simp))
      refine wpAny_bind (wpAny_seqItems hD1 rfl ?_)
      have hj : (⟨T.toArray.extract 0 0⟩ : Str) = Str.ofString "" := by
        have : Str.ofString "" = S [] := by decide +kernel
        rw [this]; simp
      rw [hj]
      cases vs1 with
      | nil =>
        rw [if_pos (by rfl)]
        have e0 : acc ++ rs = [] := by obtain ⟨ys, h1, h2⟩ := ht1; cases h1; exact h2.symm
        have := hR tk1 h1 (tk1 + 1) x1
        rw [e0] at this
        have hs0 : Str.ofString "" = S [] := by decide +kernel
        rw [hs0]
        exact wpAny_bind (wpAny_pure (wpAny_pure (hq _ _ this)))
      | cons v vs1 =>
        rw [if_neg (by simp)]
        refine wpAny_bind (join_txts (A := A.in1) (s := { s with heap := h1, toks := tk1 + 1 }) ⟨_, hD1, rfl, _, rfl⟩ ht1 (by simp at hl1 ⊢; (first | lia | omega)) fun t' k' => ?_)
        exact wpAny_pure (hq _ _ (hR t' h1 k' x1))
    rw [hTs]
    by_cases hrs : rs = []
    · subst hrs
      rw [if_neg (by simp at hlen; (first | lia | omega))]
      exact tail _ vs cap s.toks x hD (by simpa using hvs) (by simpa using hvl)
    · have hpos : 0 < rs.length := List.length_pos_iff.mpr hrs
      rw [if_pos (by (first | lia | omega))]
      refine wpAny_bind (wpAny_mkStr ?_ ?_)
      · refine wpAny_bind (push_ok (s := { s with toks := s.toks + 1 }) hD (by (first | lia | omega)) fun h1 cap1 hD1 hs1 => ?_)
        refine tail h1 _ cap1 _ (fun b o e => hs1.extBut b o (fun q => by rw [q, hD0] at e; cases e) (x b o e)) hD1 ?_ (by simp; (first | lia | omega))
        have := hvs.snoc ⟨T.toArray.extract p T.length⟩ s.toks
        have e : T.toArray.extract p T.length = rs.toArray := by
          have := ext_at (r := []) (by rw [hdrop, List.append_nil])
          rw [hlen]; exact this
        rw [e] at this ⊢
        exact this
      · show (T.toArray.extract p T.length).size ≤ _
        rw [sizeLine_eq]; simp; (first | lia | omega)
  · -- the next escape
    rw [wr2_app, wr2_plain ha, wr2_esc b hc] at hdrop hlen
    obtain ⟨c1, c2, hTw, hx1, hx2⟩ := hexd_two hc
    rw [hTw] at hdrop
    have hlen2 : T.length = p + (a.length + (3 + (wr2 b).length)) := by rw [hlen, hTw]; simp; (first | lia | omega)
    have gt : ∀ i, T.toArray.getD (p + i) 0 = (a ++ (61 :: [c1, c2] ++ wr2 b)).getD i 0 := fun i => by rw [get_at, hdrop]
    obtain ⟨seen, e⟩ := search_from (text := T.toArray) (p := p) (by (first | lia | omega))
    rw [e]
    have hm := search_hit (text := T.toArray) a.length p seen true (fun j h1 h2 => by
        obtain ⟨i, rfl⟩ := Nat.exists_eq_add_of_le h1
        have hi : i < a.length := by (first | lia | omega)
        rw [gt, List.getD_eq_getElem?_getD, List.getElem?_append_left hi, List.getElem?_eq_getElem hi]
        exact h61 _ (List.mem_append_left _ (List.getElem_mem hi))) (by (first | lia | omega)) (by rw [gt]; simp) (by rw [Nat.add_assoc, gt]; simpa using hx1) (by rw [Nat.add_assoc, gt]; simpa using hx2)
    refine reRun_hit (k := 2 * a.length + 6) (by (first | lia | omega)) hm.1 ?_
    generalize (at_ T.toArray p seen true false).runFor (2 * a.length + 6) = m at hm ⊢
    have tail : ∀ h1 vs1 cap1 tk, Ext g h1 → h1.get? D = some (listO vs1 cap1) → Txts vs1 (acc ++ a) → vs1.length ≤ p + a.length → wpAny (model prog w) A.in1 (subTail T t n D m)
        Q₁ E₁ { s with heap := h1, toks := tk } := by
      intro h1 vs1 cap1 tk1 x1 hD1 ht1 hl1
      unfold subTail
      refine wpAny_bind (newMatch_ok (s := { s with heap := h1, toks := tk1 }) hm fun h2 f tup x2 nf hf ht => ?_)
      refine wpAny_bind (wpAny_holding ?_)
      have hext : T.toArray.extract (p + a.length) (p + a.length + 3) = (61 :: twoOf c).toArray := by
        have : T.drop (p + a.length) = (61 :: [c1, c2]) ++ wr2 b := by
          rw [← List.drop_drop, hdrop, List.drop_append, Nat.sub_self, List.drop_eq_nil_of_le (Nat.le_refl _), List.drop_zero, List.nil_append]
        rw [hTw]
        exact ext_at this
      refine use (sp_um (A := A.in1) (s := { s with heap := h2, toks := tk1 }) (G.ext (x1.trans x2)) (by exact (by (first | lia | omega) : A.depth + 1 < recursionLimit)) hf ht (by (first | lia | omega)) hc hext) ?_
      rintro v os h3 tk3 x3 n3 ⟨rfl, u, rfl⟩
      rw [if_pos (show (Value.str (⟨#[c]⟩ : Str) u != Value.none) = true from rfl)]
      refine wpAny_bind (push_ok (s := { s with heap := h3, toks := tk3 }) (x3 _ _ (x2 _ _ hD1)) (by (first | lia | omega)) fun h4 cap4 hD4 hs4 => ?_)
      have e1 : (m.handed == m.start) = false := by rw [hm.2.1, hm.2.2.1]; simp
      have e2 : rawInt ((n : Int) + 1) = rawInt ((n + 1 : Nat) : Int) := by push_cast; rfl
      rw [e1, e2, hm.2.2.1]
      refine wpAny_pure (hq _ _ ⟨plainId_quiet lp_plain _, ih b.length (by rw [← hk]; simp; (first | lia | omega)) b rfl (fun d hd => h61 d (List.mem_append_right _ (.tail _ hd))) _ _ _ _ (acc ++ a ++ [c]) cap4 R (by (first | lia | omega)) ?_ ?_ hD4 (ht1.snoc ⟨#[c]⟩ u) ?_ ?_ ?_⟩)
      · rw [Nat.add_assoc, ← List.drop_drop, hdrop, List.drop_append, List.drop_eq_nil_of_le (by (first | lia | omega)), List.nil_append, show a.length + 3 - a.length = 3 by (first | lia | omega)]; rfl
      · exact fun b o e => hs4.extBut b o (fun q => by rw [q, hD0] at e; cases e) (x3 _ _ (x2 _ _ (x1 b o e)))
      · simp; (first | lia | omega)
      · simp; (first | lia | omega)
      · intro u' h' tk' x'
        have := hR u' h' tk' x'
        rw [show acc ++ a ++ [c] ++ b = acc ++ (a ++ c :: b) by simp]
        exact this
    dsimp only
    by_cases ha0 : a = []
    · subst ha0
      rw [if_neg (by rw [hm.2.1]; simp)]
      exact tail _ vs cap s.toks x hD (by simpa using hvs) (by simpa using hvl)
    · have hpos : 0 < a.length := List.length_pos_iff.mpr ha0
      rw [if_pos (by rw [hm.2.1]; (first | lia | omega))]
      refine wpAny_bind (wpAny_mkStr ?_ ?_)
      · refine wpAny_bind (push_ok (s := { s with toks := s.toks + 1 }) hD (by (first | lia | omega)) fun h1 cap1 hD1 hs1 => ?_)
        refine tail h1 _ cap1 _ (fun b o e => hs1.extBut b o (fun q => by rw [q, hD0] at e; cases e) (x b o e)) hD1 ?_ (by simp; (first | lia | omega))
        have := hvs.snoc ⟨T.toArray.extract p m.start⟩ s.toks
        rw [hm.2.1, ext_at hdrop] at this
        simp only [] at this
        rw [hm.2.1, ext_at hdrop]
        exact this
      · show (T.toArray.extract p m.start).size ≤ _
        rw [hm.2.1, ext_at hdrop, sizeLine_eq]; simp; (first | lia | omega)
end
end Mine
end
section
open PySem PySem.W PySem.Calls PyProof.Rows
set_option maxRecDepth 100000
set_option maxHeartbeats 4000000
namespace Mine
theorem ps_slot : Slot "re.Pattern" "sub" "re.Pattern.sub" :=
  .of (owner := "re.Pattern") (n := "sub") (by rw [typeLookup_type, builtinLookup_eq_fast]; kernel_rfl) (by decide +kernel) (by decide +kernel) (by decide +kernel)
    (by first | exact .inl (by decide +kernel) | exact .inr (by decide +kernel)) (by rw [isSubtype_type]; kernel_rfl)
theorem ps_type : typeOf (.builtin "re.Pattern.sub") = pure (.type "method_descriptor") := by show builtinType _ = _; rw [builtinType_eq_fast]; kernel_rfl
theorem ps_entry : entryFor table "re.Pattern.sub" = some Builtin.«re.Pattern.sub» := entryFor_of_tree (by kernel_rfl)
theorem ps_args (a b c : Value) : argsOk "re.Pattern.sub" ⟨[a, b, c], []⟩ := by unfold argsOk; kernel_rfl
theorem ps_plain : PlainAttrs "re.Pattern" :=
  ⟨⟨"object.__getattribute__", by rw [typeLookup_type, builtinLookup_eq_fast]; kernel_rfl, by decide +kernel⟩, by rw [typeLookup_type, builtinLookup_eq_fast]; kernel_rfl⟩
theorem fn_call : typeLookup (.type "function") "__call__" = pure (some (.builtin "function.__call__")) := by rw [typeLookup_type, builtinLookup_eq_fast]; kernel_rfl
theorem ps_named (a b : Value) : Builtin.Re.reNamed "re.Pattern.sub" "sub" ["repl", "string", "count"] 2 [a, b] [] = pure [some a, some b, none] := by kernel_rfl
theorem ba_str (x : Str) (t : Tok) : Builtin.Re.reNotHeld "re.Pattern.sub" (.str x t) = pure () := by kernel_rfl
noncomputable def fn79 (P : Params) : Bool := match (hdK P).lookup 79 with | some o => o.cls == .type "function" | none => false
theorem fn79_ok (P : Params) : fn79 P = true := by kernel_rfl
theorem um_at {P : Params} {h : Heap} (K : (hdK P).In h) : ∃ o, h.get? 79 = some o ∧ o.cls = .type "function" := by
  have e := fn79_ok P
  unfold fn79 at e
  split at e
  · rename_i o ho
    exact ⟨o, K _ _ ho, eq_of_beq e⟩
  · cases e
section
variable {prog : Program} {w : World} {mg mb : Str → Option Value} {A : Around} {s : Shared} {M : Model}
theorem sub_call {T rs : List Nat} {t : Tok} {E Q : Value → Shared → Prop} (G : Gd w mg mb s.heap) (hh : A.handled = none) (hd : A.depth + 2 < recursionLimit) (hT : T.length ≤ 10000) (h61 : ∀ c ∈ rs, c ≠ 61) (hrs : T = wr2 rs)
    (hQ : ∀ u h' tk, Ext s.heap h' → Q (.str (S rs) u) { s with heap := h', toks := tk }) : wpAny (model prog w) A (call (.builtin "re.Pattern.sub") [.ref 36, .ref 79, .str (S T) t]) Q E s := by
  obtain ⟨o, vs, ho, hc, -⟩ := pat_at G.k
  obtain ⟨of, hof, hfc⟩ := um_at G.k
  have hty : s.TypeIs (.ref 36) "re.Pattern" := ⟨o, ho, hc⟩
  refine wpAny_call (codeAny_call_builtin ps_slot.plain ps_entry (ps_slot.check _ _ _ _ _ _ _ _ hty (ps_args _ _ _) ?_))
  unfold Builtin.«re.Pattern.sub» Builtin.Re.reSubstitute
  dsimp only
  rw [ps_named]
  refine wpAny_bind (wpAny_pure ?_)
  dsimp only
  refine wpAny_bind (wpAny_pure ?_)
  refine wpAny_bind (wpAny_specialOf (T := "function") ⟨of, hof, hfc⟩ fn_call ?_)
  rw [if_pos (show (some (Value.builtin "function.__call__")).isSome = true from rfl)]
  refine wpAny_bind (wpAny_pure ?_)
  rw [if_pos (show (some (Value.builtin "function.__call__")).isSome = true from rfl)]
  refine wpAny_bind (wpAny_pure ?_)
  dsimp only
  refine wpAny_bind (wpAny_holding (whole_ok G.k ?_))
  rw [if_pos (show ((1 : Int) == 1) = true from rfl), ba_str]
  refine wpAny_bind (wpAny_pure ?_)
  refine wpAny_bind (wpAny_newList ?_ (Nat.zero_le _))
  refine wpAny_pure ⟨plainId_quiet lp_plain _, ?_⟩
  refine sub_loop (g := s.heap) G hh hd (new_none _) hT rs.length rs rfl h61 0 0 _ [] [] 0 _ (Nat.zero_le _) (by rw [List.drop_zero]; exact hrs) (fun b o e => Heap.get?_push_of_some _ e) (Heap.get?_push_size s.heap rfl) Txts.nil (Nat.zero_le _) (Nat.zero_le _) (fun u h' tk x => ?_)
  exact hQ u h' tk x
end
end Mine
end
section
open PySem PySem.W PySem.Calls PyProof.Rows
set_option maxRecDepth 100000
set_option maxHeartbeats 4000000
namespace Mine
def repl (c : Nat) (z l : List Nat) : List Nat := l.flatMap fun k => if k = c then z else [k]
theorem repl_free (c : Nat) (z : List Nat) : ∀ l : List Nat, c ∉ l → repl c z l = l
  | [], _ => rfl
  | k :: r, h => by
    have h1 : k ≠ c := fun e => h (e ▸ List.mem_cons_self ..)
    have := repl_free c z r fun m => h (List.mem_cons_of_mem _ m)
    unfold repl at this ⊢
    rw [List.flatMap_cons, if_neg h1, this]; rfl
theorem repl_app (c : Nat) (z a b : List Nat) : repl c z (a ++ b) = repl c z a ++ repl c z b := by simp [repl]
theorem rep_join (c : Nat) (z : List Nat) : ∀ parts : List Str, (∀ p ∈ parts, c ∉ p.cps.toList) → repl c z (Str.join ⟨#[c]⟩ parts).cps.toList = (Str.join (S z) parts).cps.toList
  | [], _ => rfl
  | [p], h => repl_free c z _ (h p (List.mem_singleton.mpr rfl))
  | p :: q :: r, h => by
    have ih := rep_join c z (q :: r) fun a ha => h a (List.mem_cons_of_mem _ ha)
    show repl c z (p ++ ⟨#[c]⟩ ++ Str.join ⟨#[c]⟩ (q :: r)).cps.toList = (p ++ S z ++ Str.join (S z) (q :: r)).cps.toList
    simp only [Str.cps_append, Array.toList_append]
    rw [repl_app, repl_app, ih, repl_free c z _ (h p (List.mem_cons_self ..))]
    simp [repl]
theorem replace_S (l z : List Nat) (c : Nat) : Txt.replace (S l) ⟨#[c]⟩ (S z) = S (repl c z l) := by
  have e : (Txt.replace (S l) ⟨#[c]⟩ (S z)).cps.toList = repl c z l := by
    rw [StrLaws.replace_one, ← rep_join c z _ (StrLaws.split_free _ c), StrLaws.join_split]
  generalize Txt.replace (S l) ⟨#[c]⟩ (S z) = y at e ⊢
  obtain ⟨⟨y⟩⟩ := y
  have e : y = repl c z l := e
  rw [e]
theorem repl_wr {r : List Nat} (hr : ∀ c ∈ r, Sg c) : repl 95 [32] (wr r) = wr2 r := by
  induction r with
  | nil => rfl
  | cons c r ih =>
    have ih := ih fun d hd => hr d (.tail _ hd)
    rw [wr_cons, repl_app, ih]
    have : repl 95 [32] (enc c) = enc2 c := by
      rcases hr c (.head _) with rfl | rfl | rfl | rfl | rfl | rfl | rfl | rfl <;> decide
    rw [this]; simp [wr2]
theorem repl_fill (r : List Nat) : repl 42 [122, 122] r = Fills true r := by simp [repl, Fills]
theorem under_eq : Str.ofString "_" = ⟨#[95]⟩ := by decide +kernel
theorem blank_eq : Str.ofString " " = S [32] := by decide +kernel
theorem at_um (w : World) : nsIn (hdK w.params) mainGlobals "_unquote_match" = some (some (.ref 79)) := by k_is
theorem at_pat (w : World) : nsIn (hdK w.params) mainGlobals "twin_re_1_quoprimime" = some (some (.ref 36)) := by k_is
noncomputable def pat36 (P : Params) : Bool := match (hdK P).lookup 36 with | some o => o.dict.isNone && o.cls == .type "re.Pattern" | none => false
theorem pat36_ok (P : Params) : pat36 P = true := by kernel_rfl
theorem pat_dict {P : Params} {h : Heap} (K : (hdK P).In h) : ∃ o, h.get? 36 = some o ∧ o.cls = .type "re.Pattern" ∧ o.dict = none := by
  have e := pat36_ok P
  unfold pat36 at e
  split at e
  · rename_i o ho
    rw [Bool.and_eq_true] at e
    exact ⟨o, K _ _ ho, eq_of_beq e.2, by simpa using e.1⟩
  · cases e
section
variable {prog : Program} {w : World} {mg mb : Str → Option Value} {A : Around} {s : Shared}
/-- header_decode -/
theorem sp_decode {r : List Nat} {t : Tok} (G : Gd w mg mb s.heap) (hh : A.handled = none) (hd : A.depth + 3 < recursionLimit) (hr : ∀ c ∈ r, Sg c) (hl : r.length ≤ 1000) :
    wpAny (model prog w) A (call (.ref 86) [.str (S (wr r)) t]) (After s fun v os => os = [] ∧ ∃ u, v = .str (S r) u) No s := by
  refine enterK (binds := [(Str.ofString "s", .str (S (wr r)) t)]) G (by k_is) (by k_is) (by (first | lia | omega)) (BindsTo.of_eq rfl) (locs rfl) (fun Kf hKf L h₁ F => ?_) (by decide) rfl rfl rfl
  have hw := wr_len r
  (refine wpAny_execs_cons ?_; with_reducible refine wpAny_Assign_Name ?_ ?as2x52; (case as2x52 => with_unfolding_all exact rfl))
  refine MethodCall_ (ld F rfl (GM.replace ?_))
  refine callWith_method1 (args_cons (Constant_str (args_cons (Constant_str (args_nil ?_)))))
  have e : Txt.replace (S (wr r)) (Str.ofString "_") (Str.ofString " ") = S (wr2 r) := by rw [under_eq, blank_eq, replace_S, repl_wr hr]
  refine SC.replaceW (by exact Nat.succ_ne_zero _) (by exact Nat.succ_ne_zero _) (by exact Nat.ne_of_lt (Nat.lt_succ_self _)) (by decide +kernel) (by show (wr r).toArray.size ≤ _; simp; (first | lia | omega)) (by decide +kernel) (fun t' k => ?_)
  rw [e]
  refine st F (fun h₂ F => ?_)
  dsimp only at F ⊢
  (refine wpAny_execs_cons ?_; with_reducible refine wpAny_Return_some ?_)
  have G₂ := G.ext F.keep
  obtain ⟨po, hpo, hpc, hpd⟩ := pat_dict G₂.k
  refine MethodCall_ (nmG G F.keep (at_pat w) ?_)
  refine getMethod_builtin ⟨po, hpo, hpc⟩ ps_plain ps_slot ps_type (fun a e => by cases e; exact ⟨po, hpo, hpd⟩) ?_
  refine callWith_method1 (args_cons (nmG G F.keep (at_um w) (args_cons (ld F rfl (args_nil ?_)))))
  have h2 : (wr2 r).length ≤ 3 * r.length := by
    clear e
    have : ∀ l : List Nat, (wr2 l).length ≤ 3 * l.length := by
      intro l
      induction l with
      | nil => simp [wr2]
      | cons c l ih =>
        have : (enc2 c).length ≤ 3 := by unfold enc2 twoOf; repeat' split
                                         all_goals simp
        simp only [wr2, List.flatMap_cons, List.length_append, List.length_cons] at ih ⊢
        (first | lia | omega)
    exact this r
  refine sub_call (T := wr2 r) (rs := r) G₂ hh (by exact (by (first | lia | omega) : A.depth + 1 + 2 < recursionLimit)) (by (first | lia | omega)) (fun c hc => by rcases hr c hc with rfl | rfl | rfl | rfl | rfl | rfl | rfl | rfl <;> decide) rfl (fun u h' tk x => ?_)
  exact hKf _ _ (afterF (F.keeps x) News.nil [] (fun _ h => nomatch h) ⟨rfl, _, rfl⟩)
end
end Mine
end
section
open PySem PySem.W PySem.Calls PyProof.Rows
set_option maxRecDepth 100000
set_option maxHeartbeats 4000000
namespace Mine
theorem at_decode (w : World) : nsIn (hdK w.params) mainGlobals "header_decode" = some (some (.ref 86)) := by k_is
theorem keep_decode (w : World) : keepIn (hdK w.params) (.ref 86) = true := by k_is
theorem at_expr (w : World) : nsIn (hdK w.params) mainGlobals "_law_expression" = some (some (.ref 178)) := by k_is
theorem keep_expr (w : World) : keepIn (hdK w.params) (.ref 178) = true := by k_is
theorem at_trans (w : World) : nsIn (hdK w.params) mainGlobals "translate" = some (some (.ref 98)) := by k_is
theorem keep_trans (w : World) : keepIn (hdK w.params) (.ref 98) = true := by k_is
theorem hdr_eq : Str.ofString "=?x?q?" = S hdr := by decide +kernel
theorem end_eq : Str.ofString "?=" = S [63, 61] := by decide +kernel
theorem word_sign {r : List Nat} (hr : ∀ c ∈ r, Sz c) : ∀ c ∈ word r, PSign c := by
  intro c hc
  unfold word at hc
  simp only [List.mem_append] at hc
  rcases hc with (hc | hc) | hc
  · exact (by unfold PSign; decide : ∀ c ∈ hdr, PSign c) c hc
  · obtain ⟨d, hd, h⟩ := List.mem_flatMap.mp hc
    clear hc
    unfold PSign
    rcases hr d hd with (rfl | rfl | rfl | rfl | rfl | rfl | rfl | rfl) | rfl <;> (clear hd; revert c; decide)
  · exact (by unfold PSign; decide : ∀ c ∈ [63, 61], PSign c) c hc
theorem word_len (r : List Nat) : (word r).length = (wr r).length + 8 := by simp [word, hdr]
theorem slice_word (r : List Nat) : Txt.slice (S (word r)) (some 6) (some (-2)) = S (wr r) := by
  have hl : (S (word r)).length = (wr r).length + 8 := by show (word r).toArray.size = _; simp [word_len]
  have e := slice_closesL (x := S (word r)) (i := 6) (j := (((wr r).length + 6 : Nat) : Int)) (by decide) (by (first | lia | omega)) (by rw [hl]; (first | lia | omega))
  rw [beq_iff_eq] at e
  have e2 : Txt.slice (S (word r)) (some 6) (some (-2)) = Txt.slice (S (word r)) (some 6) (some (((wr r).length + 6 : Nat) : Int)) := by
    unfold Txt.slice
    have e3 : Builtin.Str.strSliceIndices (some 6) (some (-2)) 1 (S (word r)).length = Builtin.Str.strSliceIndices (some 6) (some (((wr r).length + 6 : Nat) : Int)) 1 (S (word r)).length := by
      rw [hl]
      exact ssi_hi (k := 2) (n := (wr r).length + 8) (by decide) (by (first | lia | omega)) (some 6)
    rw [e3]
  rw [e2, e]
  have e4 : (((((wr r).length + 6 : Nat) : Int) - 6).toNat) = (wr r).length := by (first | lia | omega)
  rw [e4]
  have e5 : (word r).drop 6 = wr r ++ [63, 61] := by unfold word; rw [List.append_assoc]; exact List.drop_append_of_le_length (by simp [hdr]) |>.trans (by simp [hdr])
  show S (((word r).toArray.toList.drop 6).take (wr r).length) = _
  rw [List.toList_toArray, e5]
  simp
section
variable {prog : Program} {w : World} {mg mb : Str → Option Value} {A : Around} {s : Shared}
theorem sub_ss {g : Heap} {x : Str} {t ui uj : Tok} {i j : Int} {value slice : Expr} {E Q : Value → Shared → Prop} (k : Ext g s.heap) (h : ∀ h' t' k, Ext g h' → Q (.str (Txt.slice x (some i) (some j)) t') { s with heap := h', toks := k })
    (hs : subscripted slice false (.str x t) (.ref s.heap.objs.size) = operate [.ref s.heap.objs.size, .str x t] (getItem (.str x t) (.ref s.heap.objs.size)) := by with_unfolding_all rfl)
    (ht : ∀ r, letTemporaryGo value (.str x t) r = pure () := by intro _; with_unfolding_all rfl) (hsz : x.length ≤ sizeLine) :
    wpAny (model prog w) A (subscriptTail value slice (.str x t) (.ref s.heap.objs.size)) Q E { s with heap := s.heap.push { cls := .type "slice", data := .fields #[.int i ui, .int j uj, .none] } } :=
  tail_of_ItemOn (SBH.sliceItem_ss (P := Ext g) (fun h ob e b o hb => Heap.get?_push_of_some _ (e b o hb)) k h hsz) hs ht
/-- _law_well_told -/
theorem sp_told {r : List Nat} {vs : List Value} {I : Addr} {t u : Tok} (G : Gd w mg mb s.heap) (hh : A.handled = none) (hd : A.depth + 4 < recursionLimit) (hr : ∀ c ∈ r, Sg c) (hl : r.length ≤ 1000)
    (hI : s.heap.IsList I vs.toArray) (P : Paired (partV .none) (parts (word r)) vs) :
    wpAny (model prog w) A (call (.ref 207) [.str (S r) t, .str (S (word r)) u, .ref I]) (After s fun v os => os = [] ∧ v = .bool true) No s := by
  refine enterK (binds := [(Str.ofString "row", .str (S r) t), (Str.ofString "word", .str (S (word r)) u), (Str.ofString "parts", .ref I)]) G (by k_is) (by k_is) (by (first | lia | omega)) (BindsTo.of_eq rfl) (locs rfl) (fun Kf hKf L h₁ F => ?_) (by decide) rfl rfl rfl
  have hw := wr_len r
  have hz : ∀ c ∈ r, Sz c := fun c hc => .inl (hr c hc)
  have hwl := word_len r
  have N := News.nil (h₀ := s.heap) (L := L) (h := h₁)
  (refine wpAny_execs_cons ?_; with_reducible refine wpAny_If ?_)
  refine isTrue_or (wpAny_isTrue_Compare1 (ld F rfl (wpAny_BinOp (wpAny_BinOp (Constant_str ?_)))))
  refine Call_ (nmG G F.keep (at_written w) (callWith_K (G.ext F.keep).k (keep_written w) (args_cons (ld F rfl (args_nil ⟨(G.ext F.keep).k, ?_⟩)))))
  refine useN F N (sp_written (G.ext F.keep) hh (by show A.depth + 1 < _; (first | lia | omega)) hr hl) ?_
  rintro v os h₂ tk₂ x F N ⟨rfl, t1, rfl⟩
  refine add_eq hdr_eq rfl (by simp [hdr]; (first | lia | omega)) (fun t' k => ?_)
  refine Constant_str (add_eq rfl end_eq (by simp [hdr]; (first | lia | omega)) (fun t' k => ?_))
  refine ne_str (wpAny_truthy_bool ?_)
  rw [if_neg (by show ¬ (S (word r) != S (word r)) = true; simp)]
  refine isTrue_or (wpAny_isTrue_Compare1 ?_)
  refine Call_ (nmG G F.keep (at_decode w) (callWith_K (G.ext F.keep).k (keep_decode w) (args_cons (Subscript_ (ld F rfl ?_)))))
  refine wpAny_Slice (evalPart_some_step (wpAny_Constant_int (evalPart_some_step (UnaryOp_ (wpAny_Constant_int (PyProof.Rows.neg_int (evalPart_none_step ?_)))))))
  refine sub_ss (g := h₂) (Ext.refl _) (fun h₃ t₃ k₃ x₃ => ?_) ?_ ?_ ?_
  case refine_2 => with_unfolding_all rfl
  case refine_3 => intro _; with_unfolding_all rfl
  case refine_4 => show (word r).toArray.size ≤ _; rw [sizeLine_eq]; simp; (first | lia | omega)
  rw [slice_word]
  have F := F.keeps x₃
  refine args_nil ⟨(G.ext F.keep).k, ?_⟩
  refine useN F News.nil (sp_decode (G.ext F.keep) hh (by show A.depth + 1 + 3 < _; (first | lia | omega)) hr hl) ?_
  rintro v os h₄ tk₄ x F N ⟨rfl, t2, rfl⟩
  refine ld F rfl (ne_str (wpAny_truthy_bool ?_))
  rw [if_neg (by simp)]
  refine isTrue_or_nil ?_
  rw [if_neg Bool.false_ne_true]
  refine wpAny_execs_nil ?_
  (refine wpAny_execs_cons ?_; with_reducible refine wpAny_Assign_Name ?_ ?as2x55; (case as2x55 => with_unfolding_all exact rfl))
  refine Call_ (nmG G F.keep (at_expr w) (callWith_K (G.ext F.keep).k (keep_expr w) (args_cons (ld F rfl (args_nil ⟨(G.ext F.keep).k, ?_⟩)))))
  refine useN F News.nil (sp_expression (G.ext F.keep) hh (by show A.depth + 1 + 1 < _; (first | lia | omega)) hr hl) ?_
  rintro v os h₅ tk₅ x F N ⟨rfl, t3, rfl⟩
  refine st F (fun h₆ F => ?_)
  dsimp only at F ⊢
  have hexpr : S (told (parts (word r))) = S (exprT (wr r)) := by rw [← told_expr hz]; rfl
  (refine wpAny_execs_cons ?_; with_reducible refine wpAny_Return_some ?_)
  refine BoolOp_and (wpAny_Compare1 ?_)
  refine Call_ (nmG G F.keep (at_trans w) (callWith_K (G.ext F.keep).k (keep_trans w) (args_cons (ld F rfl (args_nil ⟨(G.ext F.keep).k, ?_⟩)))))
  refine useN F News.nil (sp_translate (G.ext F.keep) hh (by show A.depth + 1 + 2 < _; (first | lia | omega)) (word_sign hz) (by (first | lia | omega))) ?_
  rintro v os h₇ tk₇ x F N ⟨rfl, t4, rfl⟩
  refine ld F rfl (eq_str (wpAny_truthy_bool ?_))
  rw [if_pos (by rw [hexpr]; exact beq_self_eq_true _)]
  refine BoolOp_one (wpAny_Compare1 ?_)
  refine Call_ (nmG G F.keep (at_join w) (callWith_K (G.ext F.keep).k (keep_join w) (args_cons (ld F rfl (args_cons (Constant_none (args_nil ⟨(G.ext F.keep).k, ?_⟩)))))))
  refine useN F News.nil (sp_join (G.ext F.keep) hh (by show A.depth + 1 < _; (first | lia | omega)) (hI.at fun o e => F.keep _ _ e) P (sep_parts (word r)) (Nat.le_trans (parts_len _) (by (first | lia | omega))) (.inl rfl)) ?_
  rintro v os h₈ tk₈ x F N ⟨rfl, t5, rfl⟩
  refine ld F rfl (eq_str ?_)
  refine hKf _ _ (afterF F News.nil [] (fun _ h => nomatch h) ⟨rfl, ?_⟩)
  show Value.bool (S (told (parts (word r))) == S (exprT (wr r))) = _
  rw [hexpr, beq_self_eq_true]
end
end Mine
end
section
open PySem PySem.W PySem.Calls PyProof.Rows
set_option maxRecDepth 100000
set_option maxHeartbeats 4000000
namespace Mine
section
open PySem.SeqAt
open AutoSeq1 (wpAny_loadPart')
open MeetsSeq MeetsSeq2 MeetsSeq3 SeqRoads2
def LtAt (A : Around) (s : Shared) (x y : Value) (b : Bool) : Prop :=
  ∀ (prog : Program) (w : World) (E : Value → Shared → Prop) (Q : Value → Shared → Prop), Q (.bool b) s → wpAny (model prog w) A (richCompare .Lt x y) Q E s
theorem LtAt.int {A : Around} {s : Shared} {a b : Int} {t u : Tok} : LtAt A s (.int a t) (.int b u) (decide (a < b)) := fun prog w E Q h => wpAny_lt_int h
/-- the first pair that differs says it -/
theorem tuple_ltAt (l b : Addr) (items items2 : Array Value) (n n2 : Nat) (dd dd2 : Option Addr) (sl sl2 : Array (Option Value)) (i : Nat) (c : Bool) :
    Meets (Builtin.«tuple.__lt__» ⟨[.ref l, .ref b], []⟩)
      (fun A R s => s.heap.get? l = some { cls := .type "tuple", dict := dd, data := .seq items n, slots := sl } ∧ s.heap.get? b = some { cls := .type "tuple", dict := dd2, data := .seq items2 n2, slots := sl2 } ∧
        (∀ j (h1 : j < items.size) (h2 : j < items2.size), j ≤ i → EqAt A.in1 s items[j] items2[j] (decide (j < i))) ∧
        (∀ (h1 : i < items.size) (h2 : i < items2.size), LtAt A.in1 s items[i] items2[i] c) ∧ i < items.size ∧ i < items2.size ∧
        R (.ok (.ret (.bool c))) s) :=
  .of_wp fun prog w A R s h => by
    obtain ⟨hp, g, d, tk, os⟩ := s; obtain ⟨hl, hb, he, hlt, hi1, hi2, h⟩ := h
    have f2 := AutoSeq1.sub_tuple_tuple
    have hZ : (items.toList.zip items2.toList).length = min items.size items2.size := by simp
    wp_walk using wpAny_loadPart' hl, wpAny_loadPart' hb, wpAny_forIn_list _ (fun rest b s' => b.1 = none ∧ s' = ⟨hp, g, d, tk, os⟩ ∧ ∃ k, rest = (items.toList.zip items2.toList).drop k ∧ k ≤ i) _
    case turn =>
      rintro ⟨y, x⟩ rest b s' ⟨hb', rfl, k, hz, hk⟩
      have hm : k < min items.size items2.size := by (first | lia | omega)
      have hltz : k < (items.toList.zip items2.toList).length := hZ ▸ hm
      have h1 : k < items.size := Nat.lt_of_lt_of_le hm (Nat.min_le_left _ _)
      have h2 : k < items2.size := Nat.lt_of_lt_of_le hm (Nat.min_le_right _ _)
      rw [List.drop_eq_getElem_cons hltz] at hz
      injection hz with hyx hrest
      have hy : y = items[k] := by have := congrArg Prod.fst hyx; simpa using this
      have hx : x = items2[k] := by have := congrArg Prod.snd hyx; simpa using this
      subst hy hx
      refine wpAny_bind (he k h1 h2 hk prog w _ _ ?_)
      by_cases hki : k < i
      · rw [decide_eq_true hki]
        wp_walk
        exact ⟨rfl, rfl, k + 1, hrest, hki⟩
      · obtain rfl : k = i := by (first | lia | omega)
        rw [decide_eq_false hki]
        simp only [Bool.not_false, if_true]
        refine wpAny_bind (wpAny_rule (wpAny_bind (hlt h1 h2 prog w _ _ ?_)))
        wp_walk
        exact ⟨_, rfl, h⟩
    case fin =>
      rintro ⟨b1, b2⟩ s' ⟨hb', rfl, k, hz, hk⟩
      exfalso
      have hm : k < min items.size items2.size := by (first | lia | omega)
      have hltz : k < (items.toList.zip items2.toList).length := hZ ▸ hm
      rw [List.drop_eq_getElem_cons hltz] at hz; cases hz
    case h =>
      exact ⟨rfl, rfl, 0, rfl, Nat.zero_le _⟩
theorem tuple_lt_all (l b : Addr) (items items2 : Array Value) (n n2 : Nat) (dd dd2 : Option Addr) (sl sl2 : Array (Option Value)) :
    Meets (Builtin.«tuple.__lt__» ⟨[.ref l, .ref b], []⟩)
      (fun A R s => s.heap.get? l = some { cls := .type "tuple", dict := dd, data := .seq items n, slots := sl } ∧ s.heap.get? b = some { cls := .type "tuple", dict := dd2, data := .seq items2 n2, slots := sl2 } ∧
        (∀ j (h1 : j < items.size) (h2 : j < items2.size), EqAt A.in1 s items[j] items2[j] true) ∧ items.size = items2.size ∧
        R (.ok (.ret (.bool false))) s) :=
  .of_wp fun prog w A R s h => by
    obtain ⟨hp, g, d, tk, os⟩ := s; obtain ⟨hl, hb, he, hsz, h⟩ := h
    have f2 := AutoSeq1.sub_tuple_tuple
    have hZ : (items.toList.zip items2.toList).length = min items.size items2.size := by simp
    wp_walk using wpAny_loadPart' hl, wpAny_loadPart' hb, wpAny_forIn_list _ (fun rest b s' => b.1 = none ∧ s' = ⟨hp, g, d, tk, os⟩ ∧ ∃ k, rest = (items.toList.zip items2.toList).drop k) _
    case turn =>
      rintro ⟨y, x⟩ rest b s' ⟨hb', rfl, k, hz⟩
      have hltz : k < (items.toList.zip items2.toList).length := by
        rcases Nat.lt_or_ge k (items.toList.zip items2.toList).length with h' | h'
        · exact h'
        · rw [List.drop_of_length_le h'] at hz; cases hz
      have hm : k < min items.size items2.size := hZ ▸ hltz
      have h1 : k < items.size := Nat.lt_of_lt_of_le hm (Nat.min_le_left _ _)
      have h2 : k < items2.size := Nat.lt_of_lt_of_le hm (Nat.min_le_right _ _)
      rw [List.drop_eq_getElem_cons hltz] at hz
      injection hz with hyx hrest
      have hy : y = items[k] := by have := congrArg Prod.fst hyx; simpa using this
      have hx : x = items2[k] := by have := congrArg Prod.snd hyx; simpa using this
      subst hy hx
      refine wpAny_bind (he k h1 h2 prog w _ _ ?_)
      wp_walk
      exact ⟨rfl, rfl, k + 1, hrest⟩
    case fin =>
      rintro ⟨b1, b2⟩ s' ⟨hb', rfl, k, hz⟩
      simp only at hb'
      subst hb'
      wp_walk
      refine ⟨_, rfl, ?_⟩
      simpa [Builtin.Tuple.tupleCompareSizes, hsz] using h
    case h =>
      exact ⟨rfl, rfl, 0, rfl⟩
theorem LtAt.tuples {A : Around} {s : Shared} {l b : Addr} {items items2 : Array Value} {c : Bool} (i : Nat) (hl : s.heap.IsTuple l items) (hb : s.heap.IsTuple b items2) (hu : A.units < cLine)
    (he : ∀ j (h1 : j < items.size) (h2 : j < items2.size), j ≤ i → EqAt A.in1 s items[j] items2[j] (decide (j < i))) (hlt : ∀ (h1 : i < items.size) (h2 : i < items2.size), LtAt A.in1 s items[i] items2[i] c) (h1 : i < items.size) (h2 : i < items2.size) :
    LtAt A s (.ref l) (.ref b) c := fun prog w E Q h => by
  obtain ⟨⟨cls, dd, data, sl⟩, ho, hc, n, hd⟩ := id hl
  obtain ⟨⟨cls2, dd2, data2, sl2⟩, ho2, hc2, n2, hd2⟩ := id hb
  simp only at hc hd hc2 hd2
  subst hc hd hc2 hd2
  exact richCompare_meets_room (op := .Lt) ⟨_, ho, rfl⟩ ⟨_, ho2, rfl⟩ F.slot_tuple_lt F.entry_tuple_lt (F.args_tuple_lt_2 _ _) (tuple_ltAt l b items items2 n n2 dd dd2 sl sl2 i c)
    ⟨ho, ho2, he, hlt, h1, h2, show Value.bool c ≠ Value.notImplemented ∧ Q (.bool c) s from ⟨(fun x => nomatch x), h⟩⟩ hu
theorem LtAt.same {A : Around} {s : Shared} {l b : Addr} {items items2 : Array Value} (hl : s.heap.IsTuple l items) (hb : s.heap.IsTuple b items2) (hu : A.units < cLine)
    (he : ∀ j (h1 : j < items.size) (h2 : j < items2.size), EqAt A.in1 s items[j] items2[j] true) (hsz : items.size = items2.size) :
    LtAt A s (.ref l) (.ref b) false := fun prog w E Q h => by
  obtain ⟨⟨cls, dd, data, sl⟩, ho, hc, n, hd⟩ := id hl
  obtain ⟨⟨cls2, dd2, data2, sl2⟩, ho2, hc2, n2, hd2⟩ := id hb
  simp only at hc hd hc2 hd2
  subst hc hd hc2 hd2
  exact richCompare_meets_room (op := .Lt) ⟨_, ho, rfl⟩ ⟨_, ho2, rfl⟩ F.slot_tuple_lt F.entry_tuple_lt (F.args_tuple_lt_2 _ _) (tuple_lt_all l b items items2 n n2 dd dd2 sl sl2)
    ⟨ho, ho2, he, hsz, show Value.bool false ≠ Value.notImplemented ∧ Q (.bool false) s from ⟨(fun x => nomatch x), h⟩⟩ hu

/-- a key: a tuple of two ints -/
def KeyIs (h : Heap) (k : Addr) (a b : Int) : Prop := ∃ t u, h.IsTuple k #[.int a t, .int b u]
theorem KeyIs.keeps {h h' : Heap} {k : Addr} {a b : Int} (K : KeyIs h k a b) (x : ∀ b o, h.get? b = some o → h'.get? b = some o) : KeyIs h' k a b :=
  let ⟨t, u, o, ho, r⟩ := K; ⟨t, u, o, x _ _ ho, r⟩
def kLt (a b a' b' : Int) : Bool := if a = a' then decide (b < b') else decide (a < a')
theorem key_eq {A : Around} {s : Shared} {k k' : Addr} {a b a' b' : Int} (K : KeyIs s.heap k a b) (K' : KeyIs s.heap k' a' b') (hu : A.units < cLine) : EqAt A s (.ref k) (.ref k') (decide (a = a' ∧ b = b')) := by
  obtain ⟨t, u, h⟩ := K
  obtain ⟨t', u', h'⟩ := K'
  by_cases e : k = k'
  · subst e
    obtain ⟨o, ho, -, n, hd⟩ := h
    obtain ⟨o', ho', -, n', hd'⟩ := h'
    rw [ho] at ho'; cases ho'
    rw [hd] at hd'
    injection hd' with q1 q2
    simp only [Array.mk.injEq, List.cons.injEq, Value.int.injEq, and_true] at q1
    rw [decide_eq_true ⟨q1.1.1, q1.2.1⟩]
    exact EqAt.same _
  · have := RcAt.tuples (A := A) (e := fun j => if j = 0 then a == a' else b == b') h h' hu (fun j h1 h2 => by
      match j, h1 with
      | 0, _ => exact EqAt.int_int a t a' t'
      | 1, _ => exact EqAt.int_int b u b' u'
      | j + 2, h1 => exact absurd h1 (by simp))
    have := EqAt.of_refs e this
    have e2 : ((List.range (min (#[Value.int a t, .int b u] : Array Value).size (#[Value.int a' t', .int b' u'] : Array Value).size)).all (fun j => if j = 0 then a == a' else b == b') && (#[Value.int a t, .int b u] : Array Value).size == (#[Value.int a' t', .int b' u'] : Array Value).size) = decide (a = a' ∧ b = b') := by
      show ((List.range 2).all (fun j => if j = 0 then a == a' else b == b') && (2 : Nat) == 2) = _
      rw [Bool.eq_iff_iff]
      simp [List.range_succ]
    rw [e2] at this
    exact this
theorem key_lt {A : Around} {s : Shared} {k k' : Addr} {a b a' b' : Int} (K : KeyIs s.heap k a b) (K' : KeyIs s.heap k' a' b') (hu : A.units < cLine) : LtAt A s (.ref k) (.ref k') (kLt a b a' b') := by
  obtain ⟨t, u, h⟩ := K
  obtain ⟨t', u', h'⟩ := K'
  by_cases e1 : a = a'
  · by_cases e2 : b = b'
    · have : kLt a b a' b' = false := by simp [kLt, e1, e2]
      rw [this]
      refine LtAt.same h h' hu (fun j h1 h2 => ?_) rfl
      match j, h1 with
      | 0, _ => exact e1 ▸ (by simpa using EqAt.int_int (A := A.in1) (s := s) a t a t')
      | 1, _ => exact e2 ▸ (by simpa using EqAt.int_int (A := A.in1) (s := s) b u b u')
      | j + 2, h1 => exact absurd h1 (by simp)
    · have : kLt a b a' b' = decide (b < b') := by simp [kLt, e1]
      rw [this]
      refine LtAt.tuples 1 h h' hu (fun j h1 h2 hj => ?_) (fun _ _ => LtAt.int) (by simp) (by simp)
      match j, hj with
      | 0, _ => exact e1 ▸ (by simpa using EqAt.int_int (A := A.in1) (s := s) a t a t')
      | 1, _ => 
        have := EqAt.int_int (A := A.in1) (s := s) b u b' u'
        rw [beq_eq_false_iff_ne.mpr e2] at this
        exact this
      | j + 2, h1 => exact absurd h1 (by (first | lia | omega))
  · have : kLt a b a' b' = decide (a < a') := by simp [kLt, e1]
    rw [this]
    refine LtAt.tuples 0 h h' hu (fun j h1 h2 hj => ?_) (fun _ _ => LtAt.int) (by simp) (by simp)
    obtain rfl : j = 0 := by (first | lia | omega)
    have := EqAt.int_int (A := A.in1) (s := s) a t a' t'
    rw [beq_eq_false_iff_ne.mpr e1] at this
    exact this
/-- an entry: a tuple of a key, its number, and more -/
theorem entry_lt {A : Around} {s : Shared} {l l' k k' : Addr} {a b a' b' i i' : Int} {t t' : Tok} {r r' : List Value} (hl : s.heap.IsTuple l (.ref k :: .int i t :: r).toArray) (hl' : s.heap.IsTuple l' (.ref k' :: .int i' t' :: r').toArray)
    (K : KeyIs s.heap k a b) (K' : KeyIs s.heap k' a' b') (hu : A.units + 1 < cLine) (hi : i ≠ i') : LtAt A s (.ref l) (.ref l') (if a = a' ∧ b = b' then decide (i < i') else kLt a b a' b') := by
  have hu' : A.in1.units < cLine := hu
  have E := key_eq (A := A.in1) (s := s) K K' hu'
  by_cases e : a = a' ∧ b = b'
  · rw [if_pos e]
    rw [decide_eq_true e] at E
    refine LtAt.tuples 1 hl hl' (by (first | lia | omega)) (fun j h1 h2 hj => ?_) (fun _ _ => LtAt.int) (by simp) (by simp)
    match j, hj with
    | 0, _ => exact E
    | 1, _ =>
      have := EqAt.int_int (A := A.in1) (s := s) i t i' t'
      rw [beq_eq_false_iff_ne.mpr hi] at this
      exact this
    | j + 2, h1 => exact absurd h1 (by (first | lia | omega))
  · rw [if_neg e]
    rw [decide_eq_false e] at E
    refine LtAt.tuples 0 hl hl' (by (first | lia | omega)) (fun j h1 h2 hj => ?_) (fun _ _ => key_lt (A := A.in1) K K' hu') (by simp) (by simp)
    obtain rfl : j = 0 := by (first | lia | omega)
    exact E
end
end Mine
end
section
open PySem PySem.W PySem.Calls PyProof.Rows
set_option maxRecDepth 100000
set_option maxHeartbeats 4000000
namespace Mine
def runB {α : Type} (lt : Nat → Nat → Bool) : KasT α → α
  | .ret a => a
  | .ask i j k => runB lt (k (lt i j))
def okB {α : Type} (n : Nat) : KasT α → Bool
  | .ret _ => true
  | .ask i j k => decide (i < n) && decide (j < n) && (i != j) && okB n (k true) && okB n (k false)
theorem kasWp_run {α : Type} {cmp : Nat → Nat → (Bool → Shared → Prop) → Shared → Prop} {lt : Nat → Nat → Bool} {n : Nat} {s : Shared} {Q : α → Shared → Prop}
    (hc : ∀ i j, i < n → j < n → i ≠ j → ∀ C : Bool → Shared → Prop, C (lt i j) s → cmp i j C s) : ∀ t : KasT α, okB n t = true → Q (runB lt t) s → t.kasWp cmp Q s
  | .ret _, _, h => h
  | .ask i j k, ho, h => by
    simp only [okB, Bool.and_eq_true, decide_eq_true_eq, bne_iff_ne] at ho
    refine hc i j ho.1.1.1.1 ho.1.1.1.2 ho.1.1.2 _ ?_
    cases e : lt i j with
    | true => exact kasWp_run hc (k true) ho.1.2 (by rw [runB, e] at h; exact h)
    | false => exact kasWp_run hc (k false) ho.2 (by rw [runB, e] at h; exact h)
theorem ok3 : okB 3 (kas_sort 3) = true := by decide +kernel
theorem ok2 : okB 2 (kas_sort 2) = true := by decide +kernel
theorem runB_congr {α : Type} {n : Nat} {lt lt' : Nat → Nat → Bool} (h : ∀ i j, i < n → j < n → i ≠ j → lt i j = lt' i j) : ∀ t : KasT α, okB n t = true → runB lt t = runB lt' t
  | .ret _, _ => rfl
  | .ask i j k, ho => by
    simp only [okB, Bool.and_eq_true, decide_eq_true_eq, bne_iff_ne] at ho
    simp only [runB, h i j ho.1.1.1.1 ho.1.1.1.2 ho.1.1.2]
    cases lt' i j with
    | true => exact runB_congr h (k true) ho.1.2
    | false => exact runB_congr h (k false) ho.2
def T3 (b10 b20 b21 : Bool) (i j : Nat) : Bool :=
  if i = 1 ∧ j = 0 then b10 else if i = 0 ∧ j = 1 then !b10 else if i = 2 ∧ j = 0 then b20 else if i = 0 ∧ j = 2 then !b20 else if i = 2 ∧ j = 1 then b21 else if i = 1 ∧ j = 2 then !b21 else false
/-- the two least of three: is 1 under 0, 2 under 0, 2 under 1 -/
def pick (b10 b20 b21 : Bool) : Nat × Nat :=
  if b10 then (if b20 then (if b21 then (2, 1) else (1, 2)) else (1, 0)) else if b20 then (2, 0) else if b21 then (0, 2) else (0, 1)
def okO (b10 b20 b21 : Bool) : Bool := !(b10 && !b20 && b21) && !(!b10 && b20 && !b21)
theorem run3T : ∀ b10 b20 b21 : Bool, okO b10 b20 b21 = true → ∃ z, (runB (T3 b10 b20 b21) (kas_sort 3)).toList = [(pick b10 b20 b21).1, (pick b10 b20 b21).2, z] := by
  have : ∀ b10 b20 b21 : Bool, okO b10 b20 b21 = true → (runB (T3 b10 b20 b21) (kas_sort 3)).toList = [(pick b10 b20 b21).1, (pick b10 b20 b21).2, 3 - (pick b10 b20 b21).1 - (pick b10 b20 b21).2] := by decide +kernel
  exact fun a b c h => ⟨_, this a b c h⟩
theorem run2T : ∀ b : Bool, runB (fun i j => if i = 1 ∧ j = 0 then b else !b) (kas_sort 2) = if b then #[1, 0] else #[0, 1] := by decide +kernel
/-- the three are ordered by lt -/
theorem run3 {lt : Nat → Nat → Bool} (ha : ∀ i j, i < 3 → j < 3 → i ≠ j → lt i j = !lt j i) (ht : okO (lt 1 0) (lt 2 0) (lt 2 1) = true) :
    ∃ z, (runB lt (kas_sort 3)).toList = [(pick (lt 1 0) (lt 2 0) (lt 2 1)).1, (pick (lt 1 0) (lt 2 0) (lt 2 1)).2, z] := by
  rw [runB_congr (lt' := T3 (lt 1 0) (lt 2 0) (lt 2 1)) ?_ _ ok3]
  · exact run3T _ _ _ ht
  · intro i j hi hj hij
    have : (i = 0 ∨ i = 1 ∨ i = 2) ∧ (j = 0 ∨ j = 1 ∨ j = 2) := by (first | lia | omega)
    obtain ⟨rfl | rfl | rfl, rfl | rfl | rfl⟩ := this <;> first | exact absurd rfl hij | rfl | exact ha _ _ (by decide) (by decide) (by decide)
theorem run2 {lt : Nat → Nat → Bool} (ha : lt 0 1 = !lt 1 0) : runB lt (kas_sort 2) = if lt 1 0 then #[1, 0] else #[0, 1] := by
  rw [runB_congr (lt' := fun i j => if i = 1 ∧ j = 0 then lt 1 0 else !lt 1 0) ?_ _ ok2]
  · exact run2T _
  · intro i j hi hj hij
    have : (i = 0 ∨ i = 1) ∧ (j = 0 ∨ j = 1) := by (first | lia | omega)
    obtain ⟨rfl | rfl, rfl | rfl⟩ := this <;> first | exact absurd rfl hij | rfl | exact ha

/-- keys and numbers, ordered -/
def eLt (a b a' b' i i' : Int) : Bool := if a = a' ∧ b = b' then decide (i < i') else kLt a b a' b'
theorem eLt_flip (a b a' b' i i' : Int) (h : i ≠ i') : eLt a b a' b' i i' = !eLt a' b' a b i' i := by
  unfold eLt kLt
  rw [Bool.eq_iff_iff]
  simp only [Bool.not_eq_true']
  repeat' split
  all_goals simp only [decide_eq_true_eq, decide_eq_false_iff_not]
  all_goals (first | lia | omega)
theorem lex_trans {a b i a' b' i' a'' b'' i'' : Int} (h : a < a' ∨ (a = a' ∧ b < b') ∨ (a = a' ∧ b = b' ∧ i < i')) (k : a' < a'' ∨ (a' = a'' ∧ b' < b'') ∨ (a' = a'' ∧ b' = b'' ∧ i' < i'')) :
    a < a'' ∨ (a = a'' ∧ b < b'') ∨ (a = a'' ∧ b = b'' ∧ i < i'') := by
  rcases h with h | ⟨rfl, h⟩ | ⟨rfl, rfl, h⟩
  · rcases k with k | ⟨rfl, k⟩ | ⟨rfl, rfl, k⟩
    · exact .inl (Int.lt_trans h k)
    · exact .inl h
    · exact .inl h
  · rcases k with k | ⟨rfl, k⟩ | ⟨rfl, rfl, k⟩
    · exact .inl k
    · exact .inr (.inl ⟨rfl, Int.lt_trans h k⟩)
    · exact .inr (.inl ⟨rfl, h⟩)
  · rcases k with k | ⟨rfl, k⟩ | ⟨rfl, rfl, k⟩
    · exact .inl k
    · exact .inr (.inl ⟨rfl, k⟩)
    · exact .inr (.inr ⟨rfl, rfl, Int.lt_trans h k⟩)
theorem lex_total {a b i a' b' i' : Int} (hi : i ≠ i') (h : ¬ (a < a' ∨ (a = a' ∧ b < b') ∨ (a = a' ∧ b = b' ∧ i < i'))) : a' < a ∨ (a' = a ∧ b' < b) ∨ (a' = a ∧ b' = b ∧ i' < i) := by
  rcases Int.lt_trichotomy a a' with q | rfl | q
  · exact absurd (.inl q) h
  · rcases Int.lt_trichotomy b b' with q | rfl | q
    · exact absurd (.inr (.inl ⟨rfl, q⟩)) h
    · rcases Int.lt_trichotomy i i' with q | q | q
      · exact absurd (.inr (.inr ⟨rfl, rfl, q⟩)) h
      · exact absurd q hi
      · exact .inr (.inr ⟨rfl, rfl, q⟩)
    · exact .inr (.inl ⟨rfl, q⟩)
  · exact .inl q
theorem eLt_ok (a0 b0 a1 b1 a2 b2 i0 i1 i2 : Int) (h1 : i0 ≠ i1) (h2 : i0 ≠ i2) (h3 : i1 ≠ i2) : okO (eLt a1 b1 a0 b0 i1 i0) (eLt a2 b2 a0 b0 i2 i0) (eLt a2 b2 a1 b1 i2 i1) = true := by
  have key : ∀ p q r : Prop, ∀ [Decidable p] [Decidable q] [Decidable r], ¬ (p ∧ ¬ q ∧ r) → ¬ (¬ p ∧ q ∧ ¬ r) → okO (decide p) (decide q) (decide r) = true := by
    intro p q r _ _ _ h h'
    unfold okO
    by_cases hp : p <;> by_cases hq : q <;> by_cases hr : r <;> simp_all
  have e : ∀ a b a' b' i i', eLt a b a' b' i i' = decide (a < a' ∨ (a = a' ∧ b < b') ∨ (a = a' ∧ b = b' ∧ i < i')) := by
    intro a b a' b' i i'
    unfold eLt kLt
    rw [Bool.eq_iff_iff]
    repeat' split
    all_goals simp only [decide_eq_true_eq]
    all_goals (first | lia | omega)
  rw [e, e, e]
  exact key _ _ _ (fun h => h.2.1 (lex_trans h.2.2 h.1)) (fun h => h.1 (lex_trans (lex_total h3.symm h.2.2) h.2.1))

section
variable {prog : Program} {w : World} {A : Around} {E : Value → Shared → Prop} {s : Shared}
open PySem.SeqAt
def EntryIs (h : Heap) (v : Value) (a b i : Int) : Prop := ∃ l k t r, v = .ref l ∧ h.IsTuple l (.ref k :: .int i t :: r).toArray ∧ KeyIs h k a b
theorem EntryIs.keeps {h h' : Heap} {v : Value} {a b i : Int} (K : EntryIs h v a b i) (x : ∀ b o, h.get? b = some o → h'.get? b = some o) : EntryIs h' v a b i :=
  let ⟨l, k, t, r, e, ⟨o, ho, q⟩, K⟩ := K; ⟨l, k, t, r, e, ⟨o, x _ _ ho, q⟩, K.keeps x⟩
theorem entryLt {v v' : Value} {a b a' b' i i' : Int} (h : EntryIs s.heap v a b i) (h' : EntryIs s.heap v' a' b' i') (hu : A.units + 1 < cLine) (hi : i ≠ i') : LtAt A s v v' (eLt a b a' b' i i') := by
  obtain ⟨l, k, t, r, rfl, hl, K⟩ := h
  obtain ⟨l', k', t', r', rfl, hl', K'⟩ := h'
  exact entry_lt hl hl' K K' hu hi
theorem ask_entry {ks : List Value} {i j : Nat} {a b a' b' n n' : Int} {C : Bool → Shared → Prop} (h : EntryIs s.heap (ks.getD i .none) a b n) (h' : EntryIs s.heap (ks.getD j .none) a' b' n') (hu : A.units + 1 < cLine) (hn : n ≠ n') (hC : C (eLt a b a' b' n n') s) :
    kas_ask prog w A (tuples' (Value.type "tuple" != Value.type "tuple")) ks i j C s := by
  obtain ⟨l, k, t, r, e, hl, K⟩ := h
  obtain ⟨l', k', t', r', e', hl', K'⟩ := h'
  unfold kas_ask
  rw [e, e']
  obtain ⟨o, ho, -, m, hd⟩ := hl
  obtain ⟨o', ho', -, m', hd'⟩ := hl'
  refine kat_lt ho hd ho' hd' ?_
  rw [List.zip_cons_cons]
  refine kat_cons (key_eq K K' (by (first | lia | omega)) prog w _ _ ?_)
  by_cases q : a = a' ∧ b = b'
  · rw [decide_eq_true q]
    refine kat_yes ?_
    rw [List.zip_cons_cons]
    refine kat_cons (EqAt.int_int n t n' t' prog w _ _ ?_)
    rw [beq_eq_false_iff_ne.mpr hn]
    refine kat_no ?_
    show wpAny (model prog w) A (oneLt' false _ _) _ _ s
    refine kat_one _ _ (wpAny_lt_int ?_)
    unfold eLt at hC
    rw [if_pos q] at hC
    exact hC
  · rw [decide_eq_false q]
    refine kat_no ?_
    show wpAny (model prog w) A (oneLt' false _ _) _ _ s
    refine kat_one _ _ (key_lt K K' (by (first | lia | omega)) prog w _ _ ?_)
    unfold eLt at hC
    rw [if_neg q] at hC
    exact hC
theorem kind_entries {vs : List Value} {P : Value → Prop} (hP : ∀ v ∈ vs, ∃ a b i, EntryIs s.heap v a b i) (hne : 0 < vs.length) {Q : SortKind → Shared → Prop} (h : Q (tuples' (Value.type "tuple" != Value.type "tuple")) s) :
    wpAny (model prog w) A (keyKind' vs.toArray) Q E s := by
  have : ∀ vs : List Value, (∀ v ∈ vs, ∃ a b i, EntryIs s.heap v a b i) → ∃ fs, KatTups s.heap vs fs ∧ fs.length = vs.length ∧ ∀ v ∈ fs, ∃ k a b, v = .ref k ∧ KeyIs s.heap k a b := by
    intro vs
    induction vs with
    | nil => intro _; exact ⟨[], trivial, rfl, fun _ h => nomatch h⟩
    | cons v vs ih =>
      intro hP
      obtain ⟨fs, h1, h2, h3⟩ := ih fun x hx => hP x (.tail _ hx)
      obtain ⟨a, b, i, l, k, t, r, rfl, ⟨o, ho, hc, n, hd⟩, K⟩ := hP v (.head _)
      refine ⟨.ref k :: fs, ⟨⟨l, o, _, n, rfl, ho, hc, hd, by simp⟩, h1⟩, by simp [h2], fun x hx => ?_⟩
      rcases List.mem_cons.mp hx with rfl | hx
      · exact ⟨k, a, b, rfl, K⟩
      · exact h3 x hx
  obtain ⟨fs, h1, h2, h3⟩ := this vs hP
  refine kat_kind (T := .type "tuple") h1 (by (first | lia | omega)) (fun v hv => ?_) (by decide) h
  obtain ⟨k, a, b, rfl, t, u, o, ho, hc, -⟩ := h3 v hv
  have L : Looks (model prog w) s.heap (typeOf (.ref k)) o.cls := (Looks.ld ho).andThen .now
  rw [hc] at L
  exact L
end
end Mine
end
section
open PySem PySem.W PySem.Calls PyProof.Rows
namespace Mine
/-- entry i goes ahead of entry j -/
def EE (a b : Nat → Int) (i j : Nat) : Bool := eLt (a i) (b i) (a j) (b j) i j
def pickE (a b : Nat → Int) : Nat × Nat := pick (EE a b 1 0) (EE a b 2 0) (EE a b 2 1)
/-- the two that stand are the two least -/
def Good (a b : Nat → Int) (i j : Nat) : Prop := i ≠ j ∧ i < 3 ∧ j < 3 ∧ (if EE a b j i then (j, i) else (i, j)) = pickE a b
theorem ee_flip (a b : Nat → Int) {i j : Nat} (h : i ≠ j) : EE a b i j = !EE a b j i := eLt_flip _ _ _ _ _ _ (by (first | lia | omega))
theorem ee_ok (a b : Nat → Int) : okO (EE a b 1 0) (EE a b 2 0) (EE a b 2 1) = true := eLt_ok _ _ _ _ _ _ _ _ _ (by decide) (by decide) (by decide)
theorem kLt_ee (a b : Nat → Int) {x : Nat} (h : x < 2) : kLt (a 2) (b 2) (a x) (b x) = EE a b 2 x := by
  unfold EE eLt kLt
  rw [Bool.eq_iff_iff]
  repeat' split
  all_goals simp only [decide_eq_true_eq]
  all_goals (first | lia | omega)
theorem good_stay (a b : Nat → Int) {x y : Nat} (h : (EE a b 1 0 = true ∧ x = 0 ∧ y = 1) ∨ (EE a b 1 0 = false ∧ x = 1 ∧ y = 0)) (h2 : EE a b 2 x = false) : Good a b x y := by
  have ok := ee_ok a b
  have f01 := ee_flip a b (i := 0) (j := 1) (by decide)
  unfold okO at ok
  rcases h with ⟨h1, rfl, rfl⟩ | ⟨h1, rfl, rfl⟩
  · refine ⟨by decide, by decide, by decide, ?_⟩
    unfold pickE
    rw [h1, h2]; simp [pick]
  · refine ⟨by decide, by decide, by decide, ?_⟩
    unfold pickE
    rw [h1, h2] at ok
    rw [f01, h1, h2]
    cases h20 : EE a b 2 0
    · simp [pick]
    · rw [h20] at ok; simp at ok
theorem good_new (a b : Nat → Int) {x y : Nat} (h : (EE a b 1 0 = true ∧ x = 0 ∧ y = 1) ∨ (EE a b 1 0 = false ∧ x = 1 ∧ y = 0)) (h2 : EE a b 2 x = true) : Good a b (if EE a b y 2 then 2 else y) (if EE a b y 2 then y else 2) := by
  rcases h with ⟨h1, rfl, rfl⟩ | ⟨h1, rfl, rfl⟩
  · have f := ee_flip a b (i := 2) (j := 1) (by decide)
    cases c : EE a b 1 2
    · rw [c] at f
      refine ⟨by decide, by decide, by decide, ?_⟩
      unfold pickE
      rw [h1, h2, f]; simp [pick, f]
    · rw [c] at f
      refine ⟨by decide, by decide, by decide, ?_⟩
      unfold pickE
      rw [h1, h2, f]; simp [pick, c]
  · have f := ee_flip a b (i := 2) (j := 0) (by decide)
    cases c : EE a b 0 2
    · rw [c] at f
      refine ⟨by decide, by decide, by decide, ?_⟩
      unfold pickE
      rw [h1, h2, f]; simp [pick, f]
    · rw [c] at f
      refine ⟨by decide, by decide, by decide, ?_⟩
      unfold pickE
      rw [h1, h2, f]; simp [pick, c]
end Mine
end
section
open PySem PySem.W PySem.Calls PyProof.Rows
set_option maxRecDepth 100000
set_option maxHeartbeats 4000000
namespace Mine
section
variable {prog : Program} {w : World} {A : Around} {E : Value → Shared → Prop} {s : Shared}

/-- all but these addresses stand -/
def ExtOff (wr : List Addr) (h h' : Heap) : Prop := ∀ b o, b ∉ wr → h.get? b = some o → h'.get? b = some o
theorem ExtOff.refl (wr : List Addr) (h : Heap) : ExtOff wr h h := fun _ _ _ e => e
theorem ExtOff.trans {wr : List Addr} {a b c : Heap} (x : ExtOff wr a b) (y : ExtOff wr b c) : ExtOff wr a c := fun _ _ n e => y _ _ n (x _ _ n e)
theorem ExtOff.of {wr : List Addr} {h h' : Heap} (x : Ext h h') : ExtOff wr h h' := fun _ _ _ e => x _ _ e

inductive CL3 (s : Shared) (D : Addr) (n : Nat) (St : Nat → Heap → Prop) (F : Nat → Value → List (Addr × Obj) → Prop) (wr : List Addr) (k : Nat) (s' : Shared) : Prop
  | mk (h' : Heap) (tk : Nat) (zs : List (Value × List (Addr × Obj))) (e : s' = { s with heap := h', toks := tk }) (hst : St zs.length h') (hacc : h'.PlainList D (zs.map (·.1)).toArray) (hF : ∀ j z, zs[j]? = some z → F j z.1 z.2) (hi : zs.length ≤ n) (hk : k = n + 1 - zs.length)
    (ho : ∀ z ∈ zs, ∀ q ∈ z.2, q.1 ≠ D ∧ q.1 ∉ wr ∧ s.heap.get? q.1 = none ∧ h'.get? q.1 = some q.2) (hx : ExtOff (D :: wr) s.heap h')
/-- the turns of a comprehension without tests, whatever its target and its source are -/
theorem compLoop3 {R : Result → Shared → Prop} {elt target iter : Expr} {scope : Scope} {pos : Pos} {I : Value} {D : Addr} {n : Nat} {cenv : Env} (Tk : Nat → Prop) (St Bd : Nat → Heap → Prop) (Fin : Heap → Prop) (fp wr : List Addr) (F : Nat → Value → List (Addr × Obj) → Prop)
    (frame : ∀ i h h', St i h → (∀ b o, b ∈ fp → h.get? b = some o → h'.get? b = some o) → St i h')
    (live : ∀ i h, St i h → ∀ b ∈ wr, ∃ o, h.get? b = some o)
    (turn : ∀ i (s : Shared), i < n → St i s.heap → wpAny (model prog w) A (pyNext I) (fun r s₁ => ∃ v, r = some v ∧ wpAny (model prog w) A (letOwnedTupleGo target I v) (fun _ s₀ => wpAny (model prog w) A (assign target cenv v)
        (fun _ s₂ => ∃ h' tk, s₂ = { s with heap := h', toks := tk } ∧ Tk tk ∧ St (i + 1) h' ∧ Bd i h' ∧ ExtOff wr s.heap h') No s₀) No s₁) No s)
    (done : ∀ s : Shared, St n s.heap → wpAny (model prog w) A (pyNext I) (fun r s₁ => r = none ∧ ∃ h' tk, s₁ = { s with heap := h', toks := tk } ∧ Fin h' ∧ ExtOff wr s.heap h') No s)
    (helt : ∀ i s₂, i < n → Tk s₂.toks → St (i + 1) s₂.heap → Bd i s₂.heap → ExtOff (D :: wr) s.heap s₂.heap → wpAny (model prog w) A (eval elt cenv) (After s₂ (F i)) No s₂)
    (hDf : D ∉ fp) (hDw : D ∉ wr) (hst : St 0 s.heap) (hacc : s.heap.PlainList D #[])
    (hR : ∀ h' tk (zs : List (Value × List (Addr × Obj))), zs.length = n → (∀ j z, zs[j]? = some z → F j z.1 z.2) → h'.PlainList D (zs.map (·.1)).toArray → Fin h' →
      (∀ z ∈ zs, ∀ q ∈ z.2, q.1 ≠ D ∧ q.1 ∉ wr ∧ s.heap.get? q.1 = none ∧ h'.get? q.1 = some q.2) → ExtOff (D :: wr) s.heap h' → R (.ok .next) { s with heap := h', toks := tk })
    (hsz : n ≤ sizeLine) :
    codeAny (model prog w) A (.compLoop (.ListComp elt [⟨target, iter, [], 0⟩] scope pos) 0 I (.ref D) cenv) R s := by
  refine kcp_loop (CL3 s D n St F wr) ?_ (n + 1)
    ⟨s.heap, s.toks, [], rfl, hst, hacc, by simp, Nat.zero_le _, rfl, (fun _ h => nomatch h), ExtOff.refl _ _⟩
  rintro k s' ⟨H, tk, zs, rfl, hst', hacc', hF, hle, rfl, ho, hx⟩
  by_cases hlt : zs.length < n
  · refine wpAny_mono (turn zs.length _ hlt hst') (fun r s₁ h₁ => ?_) fun _ _ e => e.elim
    obtain ⟨v, rfl, h₁⟩ := h₁
    refine wpAny_mono h₁ (fun _ s₀ h₀ => wpAny_mono h₀ (fun _ s₂ h₂ => ?_) fun _ _ e => e.elim) fun _ _ e => e.elim
    obtain ⟨H₂, tk₂, rfl, htk, hst₂, hB₂, hx₂⟩ := h₂
    have hacc₂ : H₂.PlainList D (zs.map (·.1)).toArray := hacc'.at fun o e => hx₂ _ _ hDw e
    have hx₂' : ExtOff (D :: wr) s.heap H₂ := fun b o hb e => hx₂ b o (fun h => hb (.tail _ h)) (hx b o hb e)
    refine use (helt zs.length _ hlt htk hst₂ hB₂ hx₂') fun y os h₄ tk₄ hk₄ made hFy => ?_
    have hzs : zs.length ≤ sizeLine := by (first | lia | omega)
    refine wpAny_list_append_plain (hsz := by simpa using hzs) (hacc₂.at fun o e => hk₄ _ o e) fun h₅ hl₅ hs₅ => ?_
    have hst₅ : St (zs.length + 1) h₅ := frame _ _ _ hst₂ fun b o hb e => hs₅.extBut b o (fun h => hDf (h ▸ hb)) (hk₄ b o e)
    have keep : ∀ z ∈ zs, ∀ q ∈ z.2, h₅.get? q.1 = some q.2 := fun z hz q hq =>
      let ⟨a, b, c, d⟩ := ho z hz q hq; hs₅.extBut _ _ a (hk₄ _ _ (hx₂ _ _ b d))
    refine ⟨n + 1 - (zs.length + 1), by (first | lia | omega), h₅, tk₄, zs ++ [(y, os)], rfl, by simpa using hst₅, by simpa using hl₅, ?_, (by rw [List.length_append, List.length_singleton]; exact hlt), by simp, ?_, ?_⟩
    · intro j z hj
      rcases Nat.lt_trichotomy j zs.length with h | h | h
      · exact hF j z (by rwa [List.getElem?_append_left h] at hj)
      · subst h; simp at hj; subst hj; exact hFy
      · rw [List.getElem?_eq_none (by simp; (first | lia | omega))] at hj; cases hj
    · intro z hz q hq
      rcases List.mem_append.mp hz with hz | hz
      · obtain ⟨a, b, c, d⟩ := ho z hz q hq
        exact ⟨a, b, c, keep z hz q hq⟩
      · rw [List.mem_singleton.mp hz] at hq
        obtain ⟨n1, n2⟩ := made q hq
        have nn {c : Addr} {o : Obj} (e : H₂.get? c = some o) : q.1 ≠ c := fun x => by rw [x] at n1; exact absurd (n1.symm.trans e) (by simp)
        have a : q.1 ≠ D := let ⟨_, e⟩ := hacc₂; nn e
        have b : q.1 ∉ wr := fun h => let ⟨_, e⟩ := live _ _ hst₂ _ h; nn e rfl
        refine ⟨a, b, ?_, hs₅.extBut _ _ a n2⟩
        cases e : s.heap.get? q.1 with
        | none => rfl
        | some o => exact absurd rfl (nn (hx₂' _ _ (fun h => (List.mem_cons.mp h).elim a b) e))
    · exact fun b o hb e => hs₅.extBut b o (fun h => hb (h ▸ .head _)) (hk₄ b o (hx₂' b o hb e))
  · have hin : zs.length = n := by (first | lia | omega)
    refine wpAny_mono (done _ (hin ▸ hst')) (fun r s₁ h₁ => ?_) fun _ _ e => e.elim
    obtain ⟨rfl, h', tk', rfl, hf, hx'⟩ := h₁
    exact hR h' tk' zs hin hF (hacc'.at fun o e => hx' _ _ hDw e) hf (fun z hz q hq => let ⟨a, b, c, d⟩ := ho z hz q hq; ⟨a, b, c, hx' _ _ b d⟩) fun b o hb e => hx' b o (fun h => hb (.tail _ h)) (hx b o hb e)
end
end Mine
end
section
open PySem PySem.W PySem.Calls PyProof.Rows
set_option maxRecDepth 100000
set_option maxHeartbeats 4000000
namespace Mine
section
variable {prog : Program} {w : World} {A : Around} {E : Value → Shared → Prop} {s : Shared}

theorem nextOf_range_item {it : Addr} {x left step : Int} {Q : Value → Shared → Prop} (hit : IsRangeIter s.heap it x left step) (hleft : 0 < left)
    (hQ : ∀ h', IsRangeIter h' it (x + step) (left - 1) step → Heap.SameBut it s.heap h' → Q (.int x s.toks) { s with heap := h', toks := s.toks + 1 }) :
    wpAny (model prog w) A (Builtin.SmallTypes.nextOf (.ref it)) Q E s := by
  have hT : s.TypeIs (.ref it) "range_iterator" := ⟨_, hit, rfl⟩
  unfold Builtin.SmallTypes.nextOf
  refine wpAny_bind (wpAny_callSpecial?_slot (name := Str.ofString "__next__") hT F.slot_range_iterator_next
    (call_meets F.slot_range_iterator_next hT F.entry_range_iterator_next (F.args_range_iterator_next_1 _) (AutoRange.range_iterator___next___range_iterator_1 it x left step (by (first | lia | omega))) ⟨hit, ?_⟩))
  exact wpAny_pure (hQ _ (Heap.get?_update_self _ (Heap.get?_update_self _ hit rfl) rfl) ((Heap.SameBut.update ..).trans (Heap.SameBut.update ..)))

theorem nextOf_range_end {it : Addr} {x left step : Int} {Q : Value → Shared → Prop} (hh : A.handled = none) (hit : IsRangeIter s.heap it x left step) (hleft : left ≤ 0)
    (hE : ∀ h' e, Heap.ExtBut it s.heap h' → (∃ o, h'.get? e = some o ∧ o.cls = .type "StopIteration") → E (.ref e) { s with heap := h' }) : wpAny (model prog w) A (Builtin.SmallTypes.nextOf (.ref it)) Q E s := by
  have hT : s.TypeIs (.ref it) "range_iterator" := ⟨_, hit, rfl⟩
  unfold Builtin.SmallTypes.nextOf
  refine wpAny_bind (wpAny_callSpecial?_slot (name := Str.ofString "__next__") hT F.slot_range_iterator_next
    (wpAny_call_entry F.slot_range_iterator_next hT F.entry_range_iterator_next ?_ (F.args_range_iterator_next_1 _)))
  show wpAny _ _ (field (.ref it) 0 >>= _) _ _ s
  refine wpAny_bind (wpAny_field hit rfl (x := rawInt x) rfl ?_)
  show wpAny _ _ (field (.ref it) 1 >>= _) _ _ s
  refine wpAny_bind (wpAny_field hit rfl (x := rawInt left) rfl ?_)
  show wpAny _ _ (field (.ref it) 2 >>= _) _ _ s
  refine wpAny_bind (wpAny_field hit rfl (x := rawInt step) rfl ?_)
  show wpAny _ _ (if left ≤ 0 then _ else _) _ _ s
  rw [if_pos hleft]
  refine wpAny_bind (wpAny_rule ?_)
  refine wpAny_bind ?_
  show wpAny _ _ (newExc (.type "StopIteration") [] >>= _) _ _ _
  refine wpAny_bind ?_
  simp only [newExc, newTuple]
  refine wpAny_bind (wpAny_newObj_type ?_ (by size_fits))
  refine wpAny_bind (m := firstArgMember _ _) (wpAny_of_eq (a := Value.none) (by first | rfl | (simp only [firstArgMember]; rfl)) ?_)
  refine wpAny_newObj_type ?_ (by size_fits)
  simp only [raiseNew]
  refine wpAny_bind (wpAny_handled ?_)
  first | rw [show A.in1.handled = none from hh] | rw [hh]
  refine wpAny_bind (wpAny_pure (wpAny_throw ?_))
  exact hE _ _ (((Heap.ExtBut.refl it s.heap).push _).push _) ⟨_, Heap.get?_push_size _ rfl, rfl⟩

structure ZipR (z TI TO i1 i2 l2 : Addr) : Prop where
  TIz : TI ≠ z
  TOz : TO ≠ z
  i1z : i1 ≠ z
  i2z : i2 ≠ z
  TITO : TI ≠ TO
  TIi1 : TI ≠ i1
  TIi2 : TI ≠ i2
  TOi1 : TO ≠ i1
  TOi2 : TO ≠ i2
  i12 : i1 ≠ i2
  l2z : l2 ≠ z
  l2TO : l2 ≠ TO
  l2i1 : l2 ≠ i1
  l2i2 : l2 ≠ i2

theorem zipR_next_item {z TI TO i1 i2 l2 : Addr} {k2 : Nat} {n left : Int} {ys : Array Value} {y a b : Value} {Q : Value → Shared → Prop} (D : ZipR z TI TO i1 i2 l2)
    (hz : IsZip s.heap z TI TO .none) (hTI : IsPair s.heap TI (.ref i1) (.ref i2)) (hTO : IsPair s.heap TO a b)
    (h1 : IsRangeIter s.heap i1 n left 1) (hleft : 0 < left) (h2 : s.heap.IsListIter i2 l2 k2) (hl2 : s.heap.IsList l2 ys) (hy : ys[k2]? = some y)
    (hQ : ∀ h' t, IsZip h' z TI TO (rawInt s.heap.objs.size) → IsPair h' TO (.int n t) y → IsRangeIter h' i1 (n + 1) (left - 1) 1 → h'.IsListIter i2 l2 (k2 + 1) → IsPair h' s.heap.objs.size (.int n t) y → h'.objs.size = s.heap.objs.size + 1 →
      (∀ c o, c ≠ z → c ≠ TO → c ≠ i1 → c ≠ i2 → s.heap.get? c = some o → h'.get? c = some o) → Q (.ref s.heap.objs.size) { s with heap := h', toks := s.toks + 1 }) :
    wpAny (model prog w) A (Builtin.«zip.__next__» ⟨[.ref z], []⟩) (fun fin s' => ∃ v, fin = .done (.ret v) ∧ Q v s') E s := by
  show wpAny _ _ (field (.ref z) 2 >>= _) _ _ _
  refine wpAny_bind (wpAny_field hz rfl (x := .bool false) rfl ?_)
  show wpAny _ _ (field (.ref z) 3 >>= _) _ _ _
  refine wpAny_bind (wpAny_field hz rfl (x := .ref TI) rfl ?_)
  refine wpAny_bind (wpAny_seqItems hTI rfl ?_)
  show wpAny _ _ (Builtin.SmallTypes.ownedTupleIsFree (.ref z) >>= _) _ _ _
  refine wpAny_bind ?_
  unfold Builtin.SmallTypes.ownedTupleIsFree
  refine wpAny_bind (wpAny_field hz rfl (x := .none) rfl (wpAny_pure ?_))
  simp only [if_true]
  refine wpAny_bind (wpAny_rule ?_)
  refine wpAny_bind (wpAny_field hz rfl (x := .ref TO) rfl ?_)
  refine wpAny_bind (wpAny_setField_rec hz (by simp) fun h₁ hz₁ hs₁ => ?_)
  replace hz₁ : IsZip h₁ z TI TO .ellipsis := hz₁
  refine wpAny_bind ?_
  simp only [List.zipIdx_cons, List.zipIdx_nil, List.forIn_cons, List.forIn_nil]
  refine wpAny_bind (wpAny_bind (wpAny_onRaise ?_))
  show wpAny _ _ (Builtin.SmallTypes.nextOf (.ref i1) >>= _) _ _ _
  refine wpAny_bind (nextOf_range_item (s := { s with heap := h₁ }) (hs₁.extBut _ _ D.i1z h1) hleft fun h₂ h1₂ hs₂ => wpAny_pure ?_)
  have hTO₂ : IsPair h₂ TO a b := hs₂.extBut _ _ D.TOi1 (hs₁.extBut _ _ D.TOz hTO)
  refine wpAny_bind (wpAny_seqItems hTO₂ rfl ?_)
  refine wpAny_bind (wpAny_updateSeq_pair hTO₂ fun h₃ hTO₃ hs₃ => ?_)
  replace hTO₃ : IsPair h₃ TO (.int n s.toks) b := hTO₃
  refine wpAny_bind (wpAny_letGo (wpAny_pure ?_))
  refine wpAny_bind (wpAny_bind (wpAny_onRaise ?_))
  show wpAny _ _ (Builtin.SmallTypes.nextOf (.ref i2) >>= _) _ _ _
  refine wpAny_bind (wpAny_nextOf_list_item (((h2.extBut hs₁.extBut D.i2z).extBut hs₂.extBut D.i12.symm).extBut hs₃.extBut D.TOi2.symm)
    (((hl2.extBut hs₁.extBut D.l2z).extBut hs₂.extBut D.l2i1).extBut hs₃.extBut D.l2TO) hy fun h₄ h2₄ hs₄ => wpAny_pure ?_)
  have hTO₄ : IsPair h₄ TO (.int n s.toks) b := hs₄.extBut _ _ D.TOi2 hTO₃
  refine wpAny_bind (wpAny_seqItems hTO₄ rfl ?_)
  refine wpAny_bind (wpAny_updateSeq_pair hTO₄ fun h₅ hTO₅ hs₅ => ?_)
  replace hTO₅ : IsPair h₅ TO (.int n s.toks) y := hTO₅
  refine wpAny_bind (wpAny_letGo (wpAny_pure (wpAny_pure ?_)))
  refine wpAny_bind (wpAny_seqItems hTO₅ rfl ?_)
  refine wpAny_bind (wpAny_newTuple ?_)
  have hsz : h₅.objs.size = s.heap.objs.size := by rw [hs₅.1, hs₄.1, hs₃.1, hs₂.1, hs₁.1]
  have hz₅ : IsZip h₅ z TI TO .ellipsis := hs₅.extBut _ _ D.TOz.symm (hs₄.extBut _ _ D.i2z.symm (hs₃.extBut _ _ D.TOz.symm (hs₂.extBut _ _ D.i1z.symm hz₁)))
  have hk₅ : ∀ c o, c ≠ z → c ≠ TO → c ≠ i1 → c ≠ i2 → s.heap.get? c = some o → h₅.get? c = some o := fun c o c1 c2 c3 c4 e =>
    hs₅.extBut _ _ c2 (hs₄.extBut _ _ c4 (hs₃.extBut _ _ c2 (hs₂.extBut _ _ c3 (hs₁.extBut _ _ c1 e))))
  have h1₅ : IsRangeIter h₅ i1 (n + 1) (left - 1) 1 := hs₅.extBut _ _ D.TOi1.symm (hs₄.extBut _ _ D.i12 (hs₃.extBut _ _ D.TOi1.symm h1₂))
  have h2₅ : h₅.IsListIter i2 l2 (k2 + 1) := h2₄.extBut hs₅.extBut D.TOi2.symm
  have hzlt : z < h₅.objs.size := Heap.lt_size hz₅
  have hTOlt : TO < h₅.objs.size := Heap.lt_size hTO₅
  have hi1lt : i1 < h₅.objs.size := Heap.lt_size h1₅
  have hi2lt : i2 < h₅.objs.size := by obtain ⟨_, e, _⟩ := h2₅; exact Heap.lt_size e
  show wpAny _ _ (Builtin.SmallTypes.ownedTupleHandOut (.ref z) (.ref h₅.objs.size) >>= _) _ _ _
  refine wpAny_bind ?_
  unfold Builtin.SmallTypes.ownedTupleHandOut
  have hz₆ : IsZip (h₅.push { cls := .type "tuple", data := .seq #[.int n s.toks, y] }) z TI TO .ellipsis := Heap.get?_push_of_some _ hz₅
  refine wpAny_bind (wpAny_setField_rec hz₆ (by simp) fun h₇ hz₇ hs₇ => ?_)
  replace hz₇ : IsZip h₇ z TI TO (rawInt h₅.objs.size) := hz₇
  refine wpAny_setField_rec hz₇ (by simp) fun h₈ hz₈ hs₈ => ?_
  replace hz₈ : IsZip h₈ z TI TO (rawInt h₅.objs.size) := hz₈
  have up : ∀ c o, c ≠ z → h₅.get? c = some o → h₈.get? c = some o := fun c o c1 e => hs₈.extBut _ _ c1 (hs₇.extBut _ _ c1 (Heap.get?_push_of_some _ e))
  have hT₈ : IsPair h₈ h₅.objs.size (.int n s.toks) y := hs₈.extBut _ _ (Nat.ne_of_gt hzlt) (hs₇.extBut _ _ (Nat.ne_of_gt hzlt) (Heap.get?_push_size _ rfl))
  have hz8 : h₈.objs.size = h₅.objs.size + 1 := by rw [hs₈.1, hs₇.1, Heap.size_push]
  rw [hsz] at hz₈ hT₈ hz8
  refine wpAny_pure ⟨_, rfl, ?_⟩
  show Q (.ref h₅.objs.size) _
  rw [hsz]
  exact hQ h₈ s.toks hz₈ (up _ _ D.TOz hTO₅) (up _ _ D.i1z h1₅) (h2₅.at fun o e => up _ o D.i2z e) hT₈ hz8 fun c o c1 c2 c3 c4 e => up c o c1 (hk₅ c o c1 c2 c3 c4 e)

theorem zipR_next_end {z TI TO i1 i2 : Addr} {n : Int} {a b : Value} {Q : PySem.Fin → Shared → Prop} (hh : A.handled = none) (i1z : i1 ≠ z)
    (hz : IsZip s.heap z TI TO .none) (hTI : IsPair s.heap TI (.ref i1) (.ref i2))
    (h1 : IsRangeIter s.heap i1 n 0 1)
    (hE : ∀ h' e, (∀ c o, c ≠ z → c ≠ i1 → s.heap.get? c = some o → h'.get? c = some o) → (∃ o, h'.get? e = some o ∧ o.cls = .type "StopIteration") → E (.ref e) { s with heap := h' }) :
    wpAny (model prog w) A (Builtin.«zip.__next__» ⟨[.ref z], []⟩) Q E s := by
  show wpAny _ _ (field (.ref z) 2 >>= _) _ _ _
  refine wpAny_bind (wpAny_field hz rfl (x := .bool false) rfl ?_)
  show wpAny _ _ (field (.ref z) 3 >>= _) _ _ _
  refine wpAny_bind (wpAny_field hz rfl (x := .ref TI) rfl ?_)
  refine wpAny_bind (wpAny_seqItems hTI rfl ?_)
  show wpAny _ _ (Builtin.SmallTypes.ownedTupleIsFree (.ref z) >>= _) _ _ _
  refine wpAny_bind ?_
  unfold Builtin.SmallTypes.ownedTupleIsFree
  refine wpAny_bind (wpAny_field hz rfl (x := .none) rfl (wpAny_pure ?_))
  simp only [if_true]
  refine wpAny_bind (wpAny_rule ?_)
  refine wpAny_bind (wpAny_field hz rfl (x := .ref TO) rfl ?_)
  refine wpAny_bind (wpAny_setField_rec hz (by simp) fun h₁ hz₁ hs₁ => ?_)
  replace hz₁ : IsZip h₁ z TI TO .ellipsis := hz₁
  refine wpAny_bind ?_
  simp only [List.zipIdx_cons, List.zipIdx_nil, List.forIn_cons, List.forIn_nil]
  refine wpAny_bind (wpAny_bind (wpAny_onRaise ?_))
  show wpAny _ _ (Builtin.SmallTypes.nextOf (.ref i1) >>= _) _ _ _
  refine wpAny_bind (nextOf_range_end (s := { s with heap := h₁ }) hh (hs₁.extBut _ _ i1z h1) (Int.le_refl _) fun h₂ e hs₂ he => ?_)
  obtain ⟨oe, hoe, hce⟩ := he
  have hz₂ : IsZip h₂ z TI TO .ellipsis := hs₂ _ _ i1z.symm hz₁
  have hez : e ≠ z := fun x => by subst x; rw [hz₂] at hoe; cases hoe; simp at hce
  refine wpAny_setField_rec hz₂ (by simp) fun h₃ _ hs₃ => hE h₃ e (fun c o c1 c3 x => hs₃.extBut _ _ c1 (hs₂ _ _ c3 (hs₁.extBut _ _ c1 x))) ⟨oe, hs₃.extBut _ _ hez hoe, hce⟩

theorem pyNext_zipR_item {z TI TO i1 i2 l2 : Addr} {k2 : Nat} {n left : Int} {ys : Array Value} {y a b : Value} {Q : Option Value → Shared → Prop} (D : ZipR z TI TO i1 i2 l2)
    (hz : IsZip s.heap z TI TO .none) (hTI : IsPair s.heap TI (.ref i1) (.ref i2)) (hTO : IsPair s.heap TO a b)
    (h1 : IsRangeIter s.heap i1 n left 1) (hleft : 0 < left) (h2 : s.heap.IsListIter i2 l2 k2) (hl2 : s.heap.IsList l2 ys) (hy : ys[k2]? = some y)
    (hQ : ∀ h' t, IsZip h' z TI TO (rawInt s.heap.objs.size) → IsPair h' TO (.int n t) y → IsRangeIter h' i1 (n + 1) (left - 1) 1 → h'.IsListIter i2 l2 (k2 + 1) → IsPair h' s.heap.objs.size (.int n t) y → h'.objs.size = s.heap.objs.size + 1 →
      (∀ c o, c ≠ z → c ≠ TO → c ≠ i1 → c ≠ i2 → s.heap.get? c = some o → h'.get? c = some o) → Q (some (.ref s.heap.objs.size)) { s with heap := h', toks := s.toks + 1 }) :
    wpAny (model prog w) A (pyNext (.ref z)) Q E s := by
  have hT : s.TypeIs (.ref z) "zip" := ⟨_, hz, rfl⟩
  unfold pyNext
  exact wpAny_bind (wpAny_attempt (wpAny_callSpecial?_slot (name := Str.ofString "__next__") hT F.slot_zip_next
    (wpAny_call_entry F.slot_zip_next hT F.entry_zip_next
      (zipR_next_item D hz hTI hTO h1 hleft h2 hl2 hy fun h' t a1 a2 a3 a4 a5 a6 a7 => wpAny_pure (hQ h' t a1 a2 a3 a4 a5 a6 a7)) (F.args_zip_next_1 _))))

theorem pyNext_zipR_end {z TI TO i1 i2 : Addr} {n : Int} {Q : Option Value → Shared → Prop} (hh : A.handled = none) (i1z : i1 ≠ z)
    (hz : IsZip s.heap z TI TO .none) (hTI : IsPair s.heap TI (.ref i1) (.ref i2)) (h1 : IsRangeIter s.heap i1 n 0 1)
    (hQ : ∀ h', (∀ c o, c ≠ z → c ≠ i1 → s.heap.get? c = some o → h'.get? c = some o) → Q none { s with heap := h' }) : wpAny (model prog w) A (pyNext (.ref z)) Q E s := by
  have hT : s.TypeIs (.ref z) "zip" := ⟨_, hz, rfl⟩
  unfold pyNext
  refine wpAny_bind (wpAny_attempt (wpAny_callSpecial?_slot (name := Str.ofString "__next__") hT F.slot_zip_next
    (wpAny_call_entry F.slot_zip_next hT F.entry_zip_next (zipR_next_end (a := .none) (b := .none) hh i1z hz hTI h1 fun h' e hk he => ?_) (F.args_zip_next_1 _))))
  obtain ⟨o, ho, hc⟩ := he
  refine wpAny_bind (wpAny_isInstance (T := "StopIteration") (b := true) ⟨o, ho, hc⟩ isSubtype_stop ?_)
  exact wpAny_pure (hQ _ hk)

end
end Mine
end
section
open PySem PySem.W PySem.Calls PyProof.Rows
set_option maxRecDepth 100000
set_option maxHeartbeats 4000000
namespace Mine
section
variable {prog : Program} {w : World} {A : Around} {E : Value → Shared → Prop} {s : Shared}
/-- zip(range, it) is made -/
theorem meets_zip_newR (r i2 l2 : Addr) (k : Nat) (a b c : Int) (t u v : Tok) (ys : Array Value) (hsm : Builtin.Range.small a b c = true) :
    Meets (Builtin.«zip.__new__» ⟨[.type "zip", .ref r, .ref i2], []⟩) (fun _ R s => IsRange s.heap r a b c t u v ∧ s.heap.IsListIter i2 l2 k ∧
      ∀ h', (∀ x o, s.heap.get? x = some o → h'.get? x = some o) → (∀ z TI TO i1, s.heap.get? z = none → s.heap.get? TI = none → s.heap.get? TO = none → s.heap.get? i1 = none → TI ≠ z → TO ≠ z → i1 ≠ z → TI ≠ TO → TI ≠ i1 → TO ≠ i1 →
        IsZip h' z TI TO .none → IsPair h' TI (.ref i1) (.ref i2) → IsPair h' TO .none .none → IsRangeIter h' i1 a (Builtin.Range.rangeSize a b c) c → R (.ok (.ret (.ref z))) { s with heap := h' })) :=
  .of_wp fun prog w A R s h => by
    obtain ⟨hp, g, d, tk, os⟩ := s; obtain ⟨hr, hl2, h⟩ := h
    have hsub := sub_zip
    have hL2 : Heap.IsListIter (Shared.heap ⟨hp.push { cls := .type "range_iterator", data := .fields #[rawInt a, rawInt (Builtin.Range.rangeSize a b c), rawInt c] }, g, d, tk, os⟩) i2 l2 k := hl2.at fun o e => Heap.get?_push_of_some _ e
    wp_walk using wpAny_pyIter_range hr hsm, wpAny_pyIter_listiter hL2
    have push_none : ∀ (h : Heap) (o : Obj) (x : Addr), h.objs.size ≤ x → h.get? x = none := fun h o x hx => Heap.get?_none_of_le hx
    refine ⟨_, rfl, h _ (fun x o e => Heap.get?_push_of_some _ (Heap.get?_push_of_some _ (Heap.get?_push_of_some _ (Heap.get?_push_of_some _ e)))) _ (hp.push { cls := .type "range_iterator", data := .fields #[rawInt a, rawInt (Builtin.Range.rangeSize a b c), rawInt c] }).objs.size
      ((hp.push { cls := .type "range_iterator", data := .fields #[rawInt a, rawInt (Builtin.Range.rangeSize a b c), rawInt c] }).push { cls := .type "tuple", data := .seq #[.ref hp.objs.size, .ref i2] }).objs.size hp.objs.size
      (Heap.get?_none_of_le ?_) (Heap.get?_none_of_le ?_) (Heap.get?_none_of_le ?_) (Heap.get?_none_of_le ?_) ?_ ?_ ?_ ?_ ?_ ?_ (Heap.get?_push_size _ rfl) (Heap.get?_push_of_some _ (Heap.get?_push_of_some _ (Heap.get?_push_size _ rfl))) (Heap.get?_push_of_some _ (Heap.get?_push_size _ rfl))
      (Heap.get?_push_of_some _ (Heap.get?_push_of_some _ (Heap.get?_push_of_some _ (Heap.get?_push_size _ rfl))))⟩
    all_goals (simp only [Heap.size_push]; first | (show (_ : Nat) ≤ (_ : Nat); (first | lia | omega)) | (show @Ne Nat _ _; (first | lia | omega)))
end
end Mine
end
section
open PySem PySem.W PySem.Calls PyProof.Rows
set_option maxRecDepth 100000
set_option maxHeartbeats 4000000
namespace Mine
section
variable {prog : Program} {w : World} {A : Around} {E : Value → Shared → Prop} {s : Shared}
theorem call_zipR {r i2 l2 : Addr} {k : Nat} {a b c : Int} {t u v : Tok} {Q : Value → Shared → Prop} (hr : IsRange s.heap r a b c t u v) (h2 : s.heap.IsListIter i2 l2 k) (hsm : Builtin.Range.small a b c = true)
    (h : ∀ h' z TI TO i1, (∀ x o, s.heap.get? x = some o → h'.get? x = some o) → s.heap.get? z = none → s.heap.get? TI = none → s.heap.get? TO = none → s.heap.get? i1 = none → TI ≠ z → TO ≠ z → i1 ≠ z → TI ≠ TO → TI ≠ i1 → TO ≠ i1 →
        IsZip h' z TI TO .none → IsPair h' TI (.ref i1) (.ref i2) → IsPair h' TO .none .none → IsRangeIter h' i1 a (Builtin.Range.rangeSize a b c) c → Q (.ref z) { s with heap := h' }) :
    wpAny (model prog w) A (call (.type "zip") [.ref r, .ref i2]) Q E s := by
  refine callType_new F.called_zip (by decide) (F.typeCall_zip_2 _ _) (F.newCall_zip_2 _ _) (fun obj => F.args_object_init_3 obj _ _) F.entry_zip_new
    (meets_zip_newR r i2 l2 k a b c t u v #[] hsm) ⟨hr, h2, ?_⟩
  intro h' x z TI TO i1 a1 a2 a3 a4 a5 a6 a7 a8 a9 a10 a11 a12 a13 a14
  exact ⟨⟨_, a11, rfl⟩, h h' z TI TO i1 x a1 a2 a3 a4 a5 a6 a7 a8 a9 a10 a11 a12 a13 a14⟩
end
end Mine
end
section
open PySem PySem.W PySem.Calls PyProof.Rows
set_option maxRecDepth 100000
set_option maxHeartbeats 4000000
namespace Mine
open AutoSeq1 (wpAny_loadPart')
theorem meets_range_rev (r : Addr) (t u v : Tok) :
    Meets (Builtin.«range.__reversed__» ⟨[.ref r], []⟩) (fun _ R s => IsRange s.heap r 0 1 1 t u v ∧
      R (.ok (.ret (.ref s.heap.objs.size))) { s with heap := s.heap.push { cls := .type "range_iterator", data := .fields #[rawInt 0, rawInt 1, rawInt (-1)] } }) :=
  .of_wp fun prog w A R s h => by
    obtain ⟨hp, g, d, tk, os⟩ := s; obtain ⟨hr, h⟩ := h
    wp_walk using wpAny_loadPart' hr
    exact ⟨_, rfl, h⟩
theorem sub_ri_reversed : isSubtype (.type "range_iterator") (.type "reversed") = pure false := by rw [isSubtype_type]; kernel_rfl
section
variable {prog : Program} {w : World} {A : Around} {E : Value → Shared → Prop} {s : Shared}
abbrev revO : Obj := { cls := .type "range_iterator", data := .fields #[rawInt 0, rawInt 1, rawInt (-1)] }
theorem code_rev_range {r : Addr} {t u v : Tok} {Q₁ : Value → Shared → Prop} (hr : IsRange s.heap r 0 1 1 t u v) (h : Q₁ (.ref s.heap.objs.size) { s with heap := s.heap.push revO }) :
    codeAny (model prog w) A (.call (.builtin "reversed.__new__") ⟨[.type "reversed", .ref r], []⟩) (wants Q₁ E) s := by
  have hT : s.TypeIs (.ref r) "range" := ⟨_, hr, rfl⟩
  refine codeAny_of_tree ?_
  show wpAny _ A.in1 (do checkBuiltinCall "reversed.__new__" ⟨[.type "reversed", .ref r], []⟩; again (.builtin "reversed.__new__" ⟨[.type "reversed", .ref r], []⟩)) _ _ s
  refine wpAny_bind (wpAny_of_eq (F.newCall_reversed_1 _) (wpAny_pure ⟨plainId_quiet F.plain_reversed_new _, codeAny_builtin F.entry_reversed_new ?_⟩))
  rw [Around.under_plainId F.plain_reversed_new _]
  unfold Builtin.«reversed.__new__»
  refine wpAny_bind (wpAny_of_eq (newClass_reversed _) ?_)
  try dsimp only
  refine wpAny_bind (wpAny_of_eq (a := ()) (by first | rfl | kernel_rfl) ?_)
  refine wpAny_bind (wpAny_of_eq (a := ()) (by first | rfl | kernel_rfl) ?_)
  try dsimp only
  refine wpAny_bind (wpAny_specialOf hT F.slot_range_reversed.lookup ?_)
  try dsimp only
  refine wpAny_bind (wpAny_of_eq (F.slot_range_reversed.bind _) ?_)
  try dsimp only
  rw [if_neg (show ¬ ((Value.builtin "range.__reversed__" == Value.none) = true) from Bool.false_ne_true)]
  refine wpAny_bind (wpAny_rule ?_)
  refine wpAny_bind (m := runValue (.call (.builtin "range.__reversed__") ⟨[.ref r], []⟩)) (show wpAny _ _ (call (.builtin "range.__reversed__") [.ref r]) _ _ _ from
    call_meets F.slot_range_reversed hT F.entry_range_reversed (F.args_range_reversed_1 _) (meets_range_rev r t u v) ⟨hr, ?_⟩)
  first
  | exact wpAny_pure h
  | exact wpAny_bind (wpAny_pure (wpAny_pure h))
theorem call_rev_range {r : Addr} {t u v : Tok} {Q : Value → Shared → Prop} (hr : IsRange s.heap r 0 1 1 t u v)
    (h : Q (.ref s.heap.objs.size) { s with heap := s.heap.push revO }) : wpAny (model prog w) A (call (.type "reversed") [.ref r]) Q E s := by
  refine callType_other (U := "range_iterator") (Q₁ := fun obj s₁ => obj = .ref s.heap.objs.size ∧ s₁ = { s with heap := s.heap.push revO }) (by decide +kernel) F.create_reversed ⟨_, _, F.mro_reversed⟩ F.made_reversed sub_ri_reversed (F.typeCall_reversed_1 _) (code_rev_range hr ⟨rfl, rfl⟩) ?_
  rintro obj s₁ ⟨rfl, rfl⟩
  exact ⟨⟨_, Heap.get?_push_size _ rfl, rfl⟩, h⟩
end
end Mine
end
section
open PySem PySem.W PySem.Calls PyProof.Rows
set_option maxRecDepth 100000
set_option maxHeartbeats 4000000
namespace Mine
theorem at_siftup (w : World) : nsIn (hdK w.params) mainGlobals "_siftup_max" = some (some (.ref 152)) := by k_is
theorem keep_siftup (w : World) : keepIn (hdK w.params) (.ref 152) = true := by k_is
theorem at_siftdown (w : World) : nsIn (hdK w.params) mainGlobals "_siftdown_max" = some (some (.ref 145)) := by k_is
theorem keep_siftdown (w : World) : keepIn (hdK w.params) (.ref 145) = true := by k_is
section
variable {prog : Program} {w : World} {mg mb : Str → Option Value} {A : Around} {s : Shared}

/-- the call ended so: all that stands in g stands -/
inductive AfterG (g : Heap) (s : Shared) (P : Value → List (Addr × Obj) → Prop) (v : Value) (s' : Shared) : Prop
  | mk (h' : Heap) (tk : Nat) (os : List (Addr × Obj)) (e : s' = { s with heap := h', toks := tk }) (x : Ext g h') (n : Made g h' os) (p : P v os)
theorem afterGF {g : Heap} {s : Shared} {P : Value → List (Addr × Obj) → Prop} {v : Value} {h' : Heap} {tk : Nat} {L : Addr} {m : Str → Option Value} {news : List (Addr × Obj)} (F : Fr g L h' m) (N : News g L h' news) (os : List (Addr × Obj)) (sub : ∀ p ∈ os, p ∈ news) (p : P v os) :
    AfterG g s P v { s with heap := h', toks := tk } := ⟨h', tk, os, rfl, F.keep, fun q hq => ⟨(N q (sub q hq)).2.2, (N q (sub q hq)).1⟩, p⟩

theorem enterQ {Q : Value → Shared → Prop} {name qual : Str} {params : Arguments} {body : List Stmt} {scope : Scope} {dV kV doc pm cdv ct oc : Value} {an od : Option Addr} {osl : Array (Option Value)} {f : Addr}
    {vs : List Value} {kw : List (Str × Value)} {binds : List (Str × Value)}
    (G : Gd w mg mb s.heap) (ho : (hdK w.params).lookup f = some ⟨oc, od, .func (fnOf name qual params body scope dV kV doc pm an cdv ct), osl⟩) (hcd : codeIn (hdK w.params) cdv qual = true) (hd : A.depth < recursionLimit)
    (hbind : BindsTo s (fnOf name qual params body scope dV kV doc pm an cdv ct) ⟨vs, kw⟩ binds) (hloc : ∀ y ∈ binds, scope.names.lookup y.1 = some .local)
    (h : ∀ L h₁, Fr s.heap L h₁ (fun y => binds.reverse.lookup y) → wpAny (model prog w) (A.deeper (envOf qual scope L f cdv)) (execs body (envOf qual scope L f cdv))
      (fun fl s' => Q (match fl with | .ret v => v | _ => .none) s') No { s with heap := h₁, toks := s.toks + binds.length })
    (hcell : ∀ x ∈ scope.names, x.2 ≠ .cell) (hco : scope.isCoroutine = false) (hgen : scope.isGenerator = false) (hk : scope.kind = .function) :
    wpAny (model prog w) A (call (.ref f) vs kw) Q No s := by
  refine wpAny_call (codeAny_call_def (fd := fnOf name qual params body scope dV kV doc pm an cdv ct) (body := body) (binds := binds) hd (G.k _ _ ho) rfl G.lim (codeRec_of G.k hcd) rfl hbind hcell hloc (fun h₁ hns hk₁ => ?_) hco hgen hk)
  exact wpAny_mono (h s.heap.objs.size h₁ ⟨hns, hk₁, Nat.le_refl _⟩) (fun _ _ q => q) fun _ _ q => q.elim

/-- the same, the end wanted a variable; nothing is returned -/
theorem enterQN {Q : Value → Shared → Prop} {name qual : Str} {params : Arguments} {body : List Stmt} {scope : Scope} {dV kV doc pm cdv ct oc : Value} {an od : Option Addr} {osl : Array (Option Value)} {f : Addr}
    {vs : List Value} {kw : List (Str × Value)} {binds : List (Str × Value)}
    (G : Gd w mg mb s.heap) (ho : (hdK w.params).lookup f = some ⟨oc, od, .func (fnOf name qual params body scope dV kV doc pm an cdv ct), osl⟩) (hcd : codeIn (hdK w.params) cdv qual = true) (hd : A.depth < recursionLimit)
    (hbind : BindsTo s (fnOf name qual params body scope dV kV doc pm an cdv ct) ⟨vs, kw⟩ binds) (hloc : ∀ y ∈ binds, scope.names.lookup y.1 = some .local)
    (h : ∀ (K : Flow → Shared → Prop), (∀ s', Q .none s' → K .next s') → ∀ L h₁, Fr s.heap L h₁ (fun y => binds.reverse.lookup y) → wpAny (model prog w) (A.deeper (envOf qual scope L f cdv)) (execs body (envOf qual scope L f cdv))
      K No { s with heap := h₁, toks := s.toks + binds.length })
    (hcell : ∀ x ∈ scope.names, x.2 ≠ .cell) (hco : scope.isCoroutine = false) (hgen : scope.isGenerator = false) (hk : scope.kind = .function) :
    wpAny (model prog w) A (call (.ref f) vs kw) Q No s :=
  enterQ G ho hcd hd hbind hloc (fun L h₁ F => h _ (fun _ x => x) L h₁ F) hcell hco hgen hk

theorem ext_hide {h : Heap} {D : Addr} : Ext (h.hide D) h := fun _ _ e => Heap.of_hide e
/-- a thing that is to change is taken out of what stands -/
theorem fr_hide {h h' : Heap} {D L : Addr} {m : Str → Option Value} {o : Obj} (F : Fr h L h' m) (hD : h.get? D = some o) : Fr (h.hide D) L h' m ∧ News (h.hide D) L h' [(D, o)] :=
  ⟨⟨F.ns, fun b o e => F.keep _ _ (Heap.of_hide e), Nat.le_trans (Nat.le_of_eq (Heap.hide_size h D)) F.above⟩, fun p hp => by
    rw [List.mem_singleton.mp hp]
    exact ⟨F.keep _ _ hD, Nat.ne_of_lt (Nat.lt_of_lt_of_le (Heap.lt_size hD) F.above), Heap.hide_self h D⟩⟩
/-- after a call that changed D -/
theorem useD {M : Model} {t : Sem Value} {P : Value → List (Addr × Obj) → Prop} {Q E : Value → Shared → Prop} {h₀ : Heap} {L D : Addr} {m : Str → Option Value} {news : List (Addr × Obj)} {o : Obj} {up : Obj → List (Addr × Obj)}
    (F : Fr h₀ L s.heap m) (N : News h₀ L s.heap news) (U : UpdF D o news up) (h : wpAny M A t (AfterG (s.heap.hide D) s P) No s)
    (k : ∀ v os h' tk, P v os → (∀ o', (D, o') ∈ os → Fr h₀ L h' m ∧ News h₀ L h' (up o')) → Q v { s with heap := h', toks := tk }) : wpAny M A t Q E s := by
  refine wpAny_mono h (fun v s' hs => ?_) fun _ _ f => f.elim
  obtain ⟨h', tk, os, rfl, x, made, p⟩ := hs
  refine k v os h' tk p fun o' ho' => ?_
  obtain ⟨pre, post, rfl, hg, a, b⟩ := U.split
  have z := N (D, o) (List.mem_append_right _ (.head _))
  have keep : ∀ c oc, c ≠ D → s.heap.get? c = some oc → h'.get? c = some oc := fun c oc hc e => x _ _ ((Heap.hide_ne _ hc).trans e)
  refine ⟨⟨F.ns.at' fun o e => keep _ _ (Ne.symm z.2.1) e, fun c oc e => keep _ _ (fun q => by rw [q, z.2.2] at e; cases e) (F.keep _ _ e), F.above⟩, ?_⟩
  rw [hg]
  intro p hp
  rcases List.mem_append.mp hp with hp | hp
  · have q := N p (List.mem_append_left _ hp)
    exact ⟨keep _ _ (a p hp) q.1, q.2⟩
  · rcases List.mem_cons.mp hp with rfl | hp
    · exact ⟨(made _ ho').2, z.2⟩
    · have q := N p (List.mem_append_right _ (.tail _ hp))
      exact ⟨keep _ _ (b p hp) q.1, q.2⟩
theorem ext_hide2 {h h' : Heap} {D : Addr} (x : Ext (h.hide D) h') (D0 : True) : Ext (h.hide D) (h'.hide D) := fun b o e => by
  have hb : b ≠ D := fun q => by rw [q, Heap.hide_self] at e; cases e
  exact (Heap.hide_ne _ hb).trans (x _ _ e)

/-- where its loop ends, and where it stands -/
inductive SdJ (s : Shared) (L D : Addr) (p q : Value) (c : Bool) : Shared → Prop
  | stay (h' : Heap) (tk : Nat) (m' : Str → Option Value) (n' t3 : Nat) (hc : c = false) (F : Fr (s.heap.hide D) L h' m') (e1 : m' "heap" = some (.ref D)) (e4 : m' "newitem" = some p) (e3 : m' "pos" = some (.int 1 t3)) (N : News (s.heap.hide D) L h' [(D, listO [q, p] n')]) : SdJ s L D p q c { s with heap := h', toks := tk }
  | moved (h' : Heap) (tk : Nat) (m' : Str → Option Value) (n' t3 : Nat) (hc : c = true) (F : Fr (s.heap.hide D) L h' m') (e1 : m' "heap" = some (.ref D)) (e4 : m' "newitem" = some p) (e3 : m' "pos" = some (.int 0 t3)) (N : News (s.heap.hide D) L h' [(D, listO [q, q] n')]) : SdJ s L D p q c { s with heap := h', toks := tk }
inductive SdI (s : Shared) (L D : Addr) (p q : Value) (c : Bool) : Nat → Shared → Prop
  | one (h' : Heap) (tk : Nat) (m' : Str → Option Value) (n' t2 t3 : Nat) (F : Fr (s.heap.hide D) L h' m') (e1 : m' "heap" = some (.ref D)) (e2 : m' "startpos" = some (.int 0 t2)) (e4 : m' "newitem" = some p) (e3 : m' "pos" = some (.int 1 t3)) (N : News (s.heap.hide D) L h' [(D, listO [q, p] n')]) : SdI s L D p q c 1 { s with heap := h', toks := tk }
  | zero (h' : Heap) (tk : Nat) (m' : Str → Option Value) (n' t2 t3 : Nat) (hc : c = true) (F : Fr (s.heap.hide D) L h' m') (e1 : m' "heap" = some (.ref D)) (e2 : m' "startpos" = some (.int 0 t2)) (e4 : m' "newitem" = some p) (e3 : m' "pos" = some (.int 0 t3)) (N : News (s.heap.hide D) L h' [(D, listO [q, q] n')]) : SdI s L D p q c 0 { s with heap := h', toks := tk }

/-- _siftdown_max on two -/
theorem sp_siftdown {D : Addr} {n B : Nat} {p q : Value} {t u : Tok} {c : Bool} (G : Gd w mg mb (s.heap.hide D)) (hd : A.depth < recursionLimit) (hB : A.units + 3 ≤ B) (hD : s.heap.get? D = some (listO [q, p] n))
    (hlt : ∀ (A' : Around) (s' : Shared), A'.units ≤ B → Ext (s.heap.hide D) s'.heap → LtAt A' s' q p c) :
    wpAny (model prog w) A (call (.ref 145) [.ref D, .int 0 t, .int 1 u]) (AfterG (s.heap.hide D) s fun v os => v = .none ∧ ∃ k, os = [(D, listO (if c then [p, q] else [q, p]) k)]) No s := by
  refine enterQN (binds := [(Str.ofString "heap", .ref D), (Str.ofString "startpos", .int 0 t), (Str.ofString "pos", .int 1 u)]) (G.ext ext_hide) (by k_is) (by k_is) hd (BindsTo.of_eq rfl) (locs rfl) (fun K hK L h₁ F => ?_) (by decide) rfl rfl rfl
  obtain ⟨F, N⟩ := fr_hide F hD
  (refine wpAny_execs_cons ?_; with_reducible refine wpAny_Assign_Name ?_ ?as2x57; (case as2x57 => with_unfolding_all exact rfl))
  refine Subscript_ (ld F rfl (ld F rfl ?_))
  refine item_listL (N.isList (.head _)) (by decide) (by decide) (x := p) rfl ?_
  refine stN F N (fun h₂ F N => ?_)
  dsimp only at F N ⊢
  refine wpAny_execs_cons ?_
  refine whileJK (SdJ s L D p q c) (SdI s L D p q c) ?_ 1 (.one h₂ _ _ n _ _ F rfl rfl rfl rfl N) ?_
  · clear F N
    rintro B X k s' hI hB1 hB0 hX hXc hXb
    rcases hI with ⟨h', tk, m', n', t2, t3, F, e1, e2, e4, e3, N⟩ | ⟨h', tk, m', n', t2, t3, rfl, F, e1, e2, e4, e3, N⟩
    · refine wpAny_isTrue_Compare1 (ld F e3 (ld F e2 (gt_int (wpAny_truthy_bool (hB1 _ ?_)))))
      (refine wpAny_execs_cons ?_; with_reducible refine wpAny_Assign_Name ?_ ?as2x58; (case as2x58 => with_unfolding_all exact rfl))
      refine wpAny_BinOp (wpAny_BinOp (ld F e3 (wpAny_Constant_int (sub_int (wpAny_Constant_int (rshift_int (by decide) ?_))))))
      refine stN F N (fun h₃ F N => ?_)
      dsimp only at F N ⊢
      (refine wpAny_execs_cons ?_; with_reducible refine wpAny_Assign_Name ?_ ?as2x59; (case as2x59 => with_unfolding_all exact rfl))
      refine Subscript_ (ld F (by exact e1) (ld F rfl ?_))
      refine item_listL (N.isList (.head _)) (by decide) (by decide) (x := q) rfl ?_
      refine stN F N (fun h₄ F N => ?_)
      dsimp only at F N ⊢
      (refine wpAny_execs_cons ?_; with_reducible refine wpAny_If ?_)
      refine wpAny_isTrue_Compare1 (ld F rfl (ld F (by exact e4) ?_))
      refine hlt _ _ ?b ?x prog w _ _ (wpAny_truthy_bool ?_)
      case b => exact hB
      case x => exact F.keep
      cases c with
      | true =>
        rw [if_pos rfl]
        (refine wpAny_execs_cons ?_; with_reducible refine wpAny_Assign_Subscript ?_ ?as2x61; (case as2x61 => with_unfolding_all exact rfl))
        refine ld F rfl (ld F (by exact e1) (ld F (by exact e3) ?_))
        refine ki_set (its := #[q, p]) (n := n') (q := [q, q]) F N (by decide) (by decide) rfl (.head (fun _ h => nomatch h)) (fun h₅ F N => ?_)
        (refine wpAny_execs_cons ?_; with_reducible refine wpAny_Assign_Name ?_ ?as2x62; (case as2x62 => with_unfolding_all exact rfl))
        refine ld F rfl ?_
        refine stN F N (fun h₆ F N => ?_)
        dsimp only at F N ⊢
        refine wpAny_execs_cons (wpAny_Continue ?_)
        exact hXc 0 _ (by decide) (.zero h₆ _ _ n' t2 _ rfl F e1 e2 e4 rfl N)
      | false =>
        rw [if_neg Bool.false_ne_true]
        refine wpAny_execs_nil ?_
        refine wpAny_execs_cons (wpAny_Break ?_)
        exact hXb _ (.stay h₄ _ _ n' t3 rfl F e1 e4 e3 N)
    · exact wpAny_isTrue_Compare1 (ld F e3 (ld F e2 (gt_int (wpAny_truthy_bool (hB0 _ (.moved h' _ m' n' t3 rfl F e1 e4 e3 N))))))
  · clear F N
    rintro s' hJ
    rcases hJ with ⟨h', tk, m', n', t3, rfl, F, e1, e4, e3, N⟩ | ⟨h', tk, m', n', t3, rfl, F, e1, e4, e3, N⟩
    · (refine wpAny_execs_cons ?_; with_reducible refine wpAny_Assign_Subscript ?_ ?as2x63; (case as2x63 => with_unfolding_all exact rfl))
      refine ld F e4 (ld F e1 (ld F e3 ?_))
      refine ki_set (its := #[q, p]) (n := n') (q := [q, p]) F N (by decide) (by decide) rfl (.head (fun _ h => nomatch h)) (fun h₅ F N => ?_)
      exact wpAny_execs_nil (hK _ (afterGF F N _ (fun p hp => hp) ⟨rfl, n', rfl⟩))
    · (refine wpAny_execs_cons ?_; with_reducible refine wpAny_Assign_Subscript ?_ ?as2x64; (case as2x64 => with_unfolding_all exact rfl))
      refine ld F e4 (ld F e1 (ld F e3 ?_))
      refine ki_set (its := #[q, q]) (n := n') (q := [p, q]) F N (by decide) (by decide) rfl (.head (fun _ h => nomatch h)) (fun h₅ F N => ?_)
      exact wpAny_execs_nil (hK _ (afterGF F N _ (fun p hp => hp) ⟨rfl, n', rfl⟩))
end
end Mine
end
section
open PySem PySem.W PySem.Calls PyProof.Rows
set_option maxRecDepth 100000
set_option maxHeartbeats 4000000
namespace Mine
section
variable {prog : Program} {w : World} {mg mb : Str → Option Value} {A : Around} {s : Shared}
/-- where its loop ends, and where it stands -/
inductive SuJ (s : Shared) (L D : Addr) (p q : Value) : Shared → Prop
  | mk (h' : Heap) (tk : Nat) (m' : Str → Option Value) (n' t2 t3 : Nat) (F : Fr (s.heap.hide D) L h' m') (e1 : m' "heap" = some (.ref D)) (e4 : m' "newitem" = some p) (e2 : m' "startpos" = some (.int 0 t2)) (e3 : m' "pos" = some (.int 1 t3)) (N : News (s.heap.hide D) L h' [(D, listO [q, q] n')]) : SuJ s L D p q { s with heap := h', toks := tk }
inductive SuI (s : Shared) (L D : Addr) (p q : Value) : Nat → Shared → Prop
  | one (h' : Heap) (tk : Nat) (m' : Str → Option Value) (n' t2 t3 t5 t6 : Nat) (F : Fr (s.heap.hide D) L h' m') (e1 : m' "heap" = some (.ref D)) (e2 : m' "startpos" = some (.int 0 t2)) (e4 : m' "newitem" = some p) (e5 : m' "endpos" = some (.int 2 t5)) (e3 : m' "pos" = some (.int 0 t3)) (e6 : m' "childpos" = some (.int 1 t6))
      (N : News (s.heap.hide D) L h' [(D, listO [p, q] n')]) : SuI s L D p q 1 { s with heap := h', toks := tk }
  | zero (h' : Heap) (tk : Nat) (m' : Str → Option Value) (n' t2 t3 t5 t6 : Nat) (F : Fr (s.heap.hide D) L h' m') (e1 : m' "heap" = some (.ref D)) (e2 : m' "startpos" = some (.int 0 t2)) (e4 : m' "newitem" = some p) (e5 : m' "endpos" = some (.int 2 t5)) (e3 : m' "pos" = some (.int 1 t3)) (e6 : m' "childpos" = some (.int 3 t6))
      (N : News (s.heap.hide D) L h' [(D, listO [q, q] n')]) : SuI s L D p q 0 { s with heap := h', toks := tk }

/-- _siftup_max on two, from the top -/
theorem sp_siftup {D : Addr} {n B : Nat} {p q : Value} {t : Tok} {c : Bool} (G : Gd w mg mb (s.heap.hide D)) (hd : A.depth + 1 < recursionLimit) (hB : A.units + 6 ≤ B) (hD : s.heap.get? D = some (listO [p, q] n))
    (hlt : ∀ (A' : Around) (s' : Shared), A'.units ≤ B → Ext (s.heap.hide D) s'.heap → LtAt A' s' q p c) :
    wpAny (model prog w) A (call (.ref 152) [.ref D, .int 0 t]) (AfterG (s.heap.hide D) s fun v os => v = .none ∧ ∃ k, os = [(D, listO (if c then [p, q] else [q, p]) k)]) No s := by
  refine enterQN (binds := [(Str.ofString "heap", .ref D), (Str.ofString "pos", .int 0 t)]) (G.ext ext_hide) (by k_is) (by k_is) (Nat.lt_of_succ_lt hd) (BindsTo.of_eq rfl) (locs rfl) (fun K hK L h₁ F => ?_) (by decide) rfl rfl rfl
  obtain ⟨F, N⟩ := fr_hide F hD
  (refine wpAny_execs_cons ?_; with_reducible refine wpAny_Assign_Name ?_ ?as2x65; (case as2x65 => with_unfolding_all exact rfl))
  refine Call_ (nmB G F.keep (at_len w) rfl (by decide) (callWith_builtin1 (args_cons (ld F rfl (args_nil ?_)))))
  refine len_list (N.isList (.head _)) (by simp) ?_
  refine stN F N (fun h₂ F N => ?_)
  dsimp only at F N ⊢
  (refine wpAny_execs_cons ?_; with_reducible refine wpAny_Assign_Name ?_ ?as2x66; (case as2x66 => with_unfolding_all exact rfl))
  refine ld F rfl ?_
  refine stN F N (fun h₃ F N => ?_)
  dsimp only at F N ⊢
  (refine wpAny_execs_cons ?_; with_reducible refine wpAny_Assign_Name ?_ ?as2x67; (case as2x67 => with_unfolding_all exact rfl))
  refine Subscript_ (ld F rfl (ld F rfl ?_))
  refine item_listL (N.isList (.head _)) (by decide) (by decide) (x := p) rfl ?_
  refine stN F N (fun h₄ F N => ?_)
  dsimp only at F N ⊢
  (refine wpAny_execs_cons ?_; with_reducible refine wpAny_Assign_Name ?_ ?as2x68; (case as2x68 => with_unfolding_all exact rfl))
  refine wpAny_BinOp (wpAny_BinOp (wpAny_Constant_int (ld F rfl (mul_int (wpAny_Constant_int (add_int ?_))))))
  refine stN F N (fun h₅ F N => ?_)
  dsimp only at F N ⊢
  refine wpAny_execs_cons ?_
  refine whileJK (SuJ s L D p q) (SuI s L D p q) ?_ 1 (.one h₅ _ _ n _ _ _ _ F rfl rfl rfl rfl rfl rfl N) ?_
  · clear F N
    rintro B X k s' hI hB1 hB0 hX - -
    rcases hI with ⟨h', tk, m', n', t2, t3, t5, t6, F, e1, e2, e4, e5, e3, e6, N⟩ | ⟨h', tk, m', n', t2, t3, t5, t6, F, e1, e2, e4, e5, e3, e6, N⟩
    · refine wpAny_isTrue_Compare1 (ld F e6 (ld F e5 (lt_int (wpAny_truthy_bool (hB1 _ ?_)))))
      (refine wpAny_execs_cons ?_; with_reducible refine wpAny_Assign_Name ?_ ?as2x69; (case as2x69 => with_unfolding_all exact rfl))
      refine wpAny_BinOp (ld F e6 (wpAny_Constant_int (add_int ?_)))
      refine stN F N (fun h₃ F N => ?_)
      dsimp only at F N ⊢
      (refine wpAny_execs_cons ?_; with_reducible refine wpAny_If ?_)
      refine isTrue_and (wpAny_isTrue_Compare1 (ld F rfl (ld F (by exact e5) (lt_int (wpAny_truthy_bool ?_)))))
      rw [if_neg (by decide)]
      refine wpAny_execs_nil ?_
      (refine wpAny_execs_cons ?_; with_reducible refine wpAny_Assign_Subscript ?_ ?as2x71; (case as2x71 => with_unfolding_all exact rfl))
      refine Subscript_ (ld F (by exact e1) (ld F (by exact e6) ?_))
      refine item_listL (N.isList (.head _)) (by decide) (by decide) (x := q) rfl ?_
      refine ld F (by exact e1) (ld F (by exact e3) ?_)
      refine ki_set (its := #[p, q]) (n := n') (q := [q, q]) F N (by decide) (by decide) rfl (.head (fun _ h => nomatch h)) (fun h₅ F N => ?_)
      (refine wpAny_execs_cons ?_; with_reducible refine wpAny_Assign_Name ?_ ?as2x72; (case as2x72 => with_unfolding_all exact rfl))
      refine ld F (by exact e6) ?_
      refine stN F N (fun h₆ F N => ?_)
      dsimp only at F N ⊢
      (refine wpAny_execs_cons ?_; with_reducible refine wpAny_Assign_Name ?_ ?as2x73; (case as2x73 => with_unfolding_all exact rfl))
      refine wpAny_BinOp (wpAny_BinOp (wpAny_Constant_int (ld F rfl (mul_int (wpAny_Constant_int (add_int ?_))))))
      refine stN F N (fun h₇ F N => ?_)
      dsimp only at F N ⊢
      exact wpAny_execs_nil (hX 0 _ (by decide) (.zero h₇ _ _ n' t2 _ t5 _ F e1 e2 e4 e5 rfl rfl N))
    · exact wpAny_isTrue_Compare1 (ld F e6 (ld F e5 (lt_int (wpAny_truthy_bool (hB0 _ (.mk h' _ m' n' t2 t3 F e1 e4 e2 e3 N))))))
  · clear F N
    rintro s' ⟨h', tk, m', n', t2, t3, F, e1, e4, e2, e3, N⟩
    (refine wpAny_execs_cons ?_; with_reducible refine wpAny_Assign_Subscript ?_ ?as2x74; (case as2x74 => with_unfolding_all exact rfl))
    refine ld F e4 (ld F e1 (ld F e3 ?_))
    refine ki_set (its := #[q, q]) (n := n') (q := [q, p]) F N (by decide) (by decide) rfl (.head (fun _ h => nomatch h)) (fun h₅ F N => ?_)
    have x5 : Ext (s.heap.hide D) (h₅.hide D) := ext_hide2 F.keep trivial
    (refine wpAny_execs_cons ?_; with_reducible refine' wpAny_Expr_any ?_ ?i1x75 ?i2x75; (case i1x75 => with_unfolding_all exact rfl); (case i2x75 => with_unfolding_all exact rfl))
    refine Call_ (nmG G F.keep (at_siftdown w) (callWith_K (G.ext F.keep).k (keep_siftdown w) (args_cons (ld F e1 (args_cons (ld F e2 (args_cons (ld F e3 (args_nil ⟨(G.ext F.keep).k, ?_⟩)))))))))
    refine useD F N (.head (fun _ h => nomatch h)) (sp_siftdown (B := B) (n := n') (p := p) (q := q) (c := c) (s := { s with heap := h₅, toks := _ }) (G.ext x5) (by show A.depth + 1 < _; exact hd) (by show A.units + 3 + 3 ≤ B; (first | lia | omega)) (N _ (.head _)).1 (fun A' s' hA x => hlt A' s' hA (x5.trans x))) ?_
    rintro v os h₆ tk₆ ⟨rfl, k, rfl⟩ hk
    obtain ⟨F, N⟩ := hk _ (.head _)
    exact wpAny_execs_nil (hK _ (afterGF F N _ (fun p hp => hp) ⟨rfl, k, rfl⟩))
end
end Mine
end
section
open PySem PySem.W PySem.Calls PyProof.Rows
set_option maxRecDepth 100000
set_option maxHeartbeats 4000000
namespace Mine
abbrev revE : Obj := { cls := .type "range_iterator", data := .fields #[rawInt (-1), rawInt 0, rawInt (-1)] }
theorem at_reversed (w : World) : nsIn (hdK w.params) mainGlobals "reversed" = some none := by k_is
theorem at_range2 (w : World) : nsIn (hdK w.params) mainGlobals "range" = some none := by k_is
section
variable {prog : Program} {w : World} {mg mb : Str → Option Value} {A : Around} {s : Shared}
/-- _heapreplace_max on two -/
theorem sp_heapreplace {D : Addr} {n B : Nat} {x0 p q : Value} {c : Bool} (G : Gd w mg mb (s.heap.hide D)) (hd : A.depth + 2 < recursionLimit) (hB : A.units + 9 ≤ B) (hD : s.heap.get? D = some (listO [x0, q] n))
    (hlt : ∀ (A' : Around) (s' : Shared), A'.units ≤ B → Ext (s.heap.hide D) s'.heap → LtAt A' s' q p c) :
    wpAny (model prog w) A (call (.ref 131) [.ref D, p]) (AfterG (s.heap.hide D) s fun v os => ∃ k, os = [(D, listO (if c then [p, q] else [q, p]) k)]) No s := by
  refine enterQ (binds := [(Str.ofString "heap", .ref D), (Str.ofString "item", p)]) (G.ext ext_hide) (by k_is) (by k_is) (by (first | lia | omega)) (BindsTo.of_eq rfl) (locs rfl) (fun L h₁ F => ?_) (by decide) rfl rfl rfl
  obtain ⟨F, N⟩ := fr_hide F hD
  (refine wpAny_execs_cons ?_; with_reducible refine wpAny_Assign_Name ?_ ?as2x76; (case as2x76 => with_unfolding_all exact rfl))
  refine Subscript_ (ld F rfl (wpAny_Constant_int ?_))
  refine item_listL (N.isList (.head _)) (by decide) (by decide) (x := x0) rfl ?_
  refine stN F N (fun h₂ F N => ?_)
  dsimp only at F N ⊢
  (refine wpAny_execs_cons ?_; with_reducible refine wpAny_Assign_Subscript ?_ ?as2x77; (case as2x77 => with_unfolding_all exact rfl))
  refine ld F rfl (ld F rfl (wpAny_Constant_int ?_))
  refine ki_set (its := #[x0, q]) (n := n) (q := [p, q]) F N (by decide) (by decide) rfl (.head (fun _ h => nomatch h)) (fun h₃ F N => ?_)
  have x3 : Ext (s.heap.hide D) (h₃.hide D) := ext_hide2 F.keep trivial
  (refine wpAny_execs_cons ?_; with_reducible refine' wpAny_Expr_any ?_ ?i1x78 ?i2x78; (case i1x78 => with_unfolding_all exact rfl); (case i2x78 => with_unfolding_all exact rfl))
  refine Call_ (nmG G F.keep (at_siftup w) (callWith_K (G.ext F.keep).k (keep_siftup w) (args_cons (ld F rfl (args_cons (wpAny_Constant_int (args_nil ⟨(G.ext F.keep).k, ?_⟩)))))))
  refine useD F N (.head (fun _ h => nomatch h)) (sp_siftup (B := B) (n := n) (p := p) (q := q) (c := c) (s := { s with heap := h₃, toks := _ }) (G.ext x3) (by show A.depth + 1 + 1 < _; (first | lia | omega)) (by show A.units + 3 + 6 ≤ B; (first | lia | omega)) (N _ (.head _)).1 (fun A' s' hA x => hlt A' s' hA (x3.trans x))) ?_
  rintro v os h₆ tk₆ ⟨rfl, k, rfl⟩ hk
  obtain ⟨F, N⟩ := hk _ (.head _)
  (refine wpAny_execs_cons ?_; with_reducible refine wpAny_Return_some ?_)
  refine ld F rfl ?_
  exact afterGF F N _ (fun p hp => hp) ⟨k, rfl⟩
/-- where the loop of _heapify_max stands -/
inductive HpI (s : Shared) (L D I : Addr) (p q : Value) (c : Bool) : Nat → Shared → Prop
  | one (h' : Heap) (tk : Nat) (m' : Str → Option Value) (n' : Nat) (F : Fr (s.heap.hide D) L h' m') (e1 : m' "x" = some (.ref D)) (N : News (s.heap.hide D) L h' [(I, revO), (D, listO [p, q] n')]) : HpI s L D I p q c 1 { s with heap := h', toks := tk }
  | zero (h' : Heap) (tk : Nat) (m' : Str → Option Value) (n' : Nat) (F : Fr (s.heap.hide D) L h' m') (e1 : m' "x" = some (.ref D)) (N : News (s.heap.hide D) L h' [(I, revE), (D, listO (if c then [p, q] else [q, p]) n')]) : HpI s L D I p q c 0 { s with heap := h', toks := tk }
/-- _heapify_max on two -/
theorem sp_heapify {D : Addr} {n B : Nat} {p q : Value} {c : Bool} (G : Gd w mg mb (s.heap.hide D)) (hh : A.handled = none) (hd : A.depth + 2 < recursionLimit) (hB : A.units + 9 ≤ B) (hD : s.heap.get? D = some (listO [p, q] n))
    (hlt : ∀ (A' : Around) (s' : Shared), A'.units ≤ B → Ext (s.heap.hide D) s'.heap → LtAt A' s' q p c) :
    wpAny (model prog w) A (call (.ref 138) [.ref D]) (AfterG (s.heap.hide D) s fun v os => ∃ k, os = [(D, listO (if c then [p, q] else [q, p]) k)]) No s := by
  refine enterQ (binds := [(Str.ofString "x", .ref D)]) (G.ext ext_hide) (by k_is) (by k_is) (by (first | lia | omega)) (BindsTo.of_eq rfl) (locs rfl) (fun L h₁ F => ?_) (by decide) rfl rfl rfl
  obtain ⟨F, N⟩ := fr_hide F hD
  (refine wpAny_execs_cons ?_; with_reducible refine wpAny_Assign_Name ?_ ?as2x80; (case as2x80 => with_unfolding_all exact rfl))
  refine Call_ (nmB G F.keep (at_len w) rfl (by decide) (callWith_builtin1 (args_cons (ld F rfl (args_nil ?_)))))
  refine len_list (N.isList (.head _)) (by simp) ?_
  refine stN F N (fun h₂ F N => ?_)
  dsimp only at F N ⊢
  obtain ⟨m₂, Fb, e1, ⟨t2, e2⟩⟩ : ∃ m₂, Fr (s.heap.hide D) L h₂ m₂ ∧ m₂ "x" = some (.ref D) ∧ (∃ t, m₂ "n" = some (.int 2 t)) := ⟨_, F, rfl, ⟨_, rfl⟩⟩
  clear F
  have F := Fb
  clear Fb
  refine wpAny_execs_cons ?_
  refine wpAny_For ?_
  refine Call_ (nmB G F.keep (at_reversed w) rfl (by decide) (PyProof.Rows.callWith_type1 (args_cons ?_)))
  refine Call_ (nmB G F.keep (at_range2 w) rfl (by decide) (PyProof.Rows.callWith_type1 (args_cons ?_)))
  refine wpAny_BinOp (ld F e2 (wpAny_Constant_int (floordiv_int (by decide) ?_ (Or.inl (by decide)))))
  rw [show Int.fdiv 2 2 = 1 from rfl]
  refine args_nil (call_range_1 (args_nil ?_))
  refine call_rev_range (IsRange.new ..) ?_
  refine wpAny_pyIter_rangeiter (Heap.get?_push_size _ rfl) ?_
  dsimp only
  have key : ∀ H, (∃ RO, H = h₂.push RO) → Fr (s.heap.hide D) L H m₂ ∧ News (s.heap.hide D) L H [(D, listO [p, q] n)] ∧ D ≠ H.objs.size := fun H ⟨RO, e⟩ => by
    rw [e]
    exact ⟨F.push RO, N.pushKeep RO, Nat.ne_of_lt (Heap.lt_size ((N.pushKeep RO) _ (.head _)).1)⟩
  generalize hH : Heap.push h₂ _ = H
  obtain ⟨F, N, hDI⟩ := key H ⟨_, hH.symm⟩
  have N := N.push F revO
  have F := F.push revO
  clear key hH
  generalize H.objs.size = I at N hDI ⊢
  generalize H.push revO = H2 at F N ⊢
  refine forLoopK (HpI s L D I p q c) ?_ 1 (.one H2 _ m₂ n F e1 N)
  clear F N e1 e2
  rintro P0 X0 k s' hI hP0 hP1 hX0
  rcases hI with ⟨h', tk, m', n', F, e1, N⟩ | ⟨h', tk, m', n', F, e1, N⟩
  · refine wpAny_pyNext_range_item (N _ (.head _)).1 (by decide) fun h₃ hit hs => ?_
    have hU : UpdF I revO [(I, revO), (D, listO [p, q] n')] (fun o' => [(I, o'), (D, listO [p, q] n')]) := .head (fun p hp => by rw [List.mem_singleton.mp hp]; exact hDI)
    obtain ⟨F, N⟩ := news_set F N hU hs hit
    refine hP1 _ _ (assign_Name (stN F N (fun h₄ F N => ?_)))
    dsimp only at F N ⊢
    have x3 : Ext (s.heap.hide D) (h₄.hide D) := ext_hide2 F.keep trivial
    (refine wpAny_execs_cons ?_; with_reducible refine' wpAny_Expr_any ?_ ?i1x81 ?i2x81; (case i1x81 => with_unfolding_all exact rfl); (case i2x81 => with_unfolding_all exact rfl))
    refine Call_ (nmG G F.keep (at_siftup w) (callWith_K (G.ext F.keep).k (keep_siftup w) (args_cons (ld F (by exact e1) (args_cons (ld F rfl (args_nil ⟨(G.ext F.keep).k, ?_⟩)))))))
    refine useD F N (.tail hDI.symm (.head (fun _ h => nomatch h))) (sp_siftup (B := B) (n := n') (p := p) (q := q) (c := c) (s := { s with heap := h₄, toks := _ }) (G.ext x3) (by show A.depth + 1 + 1 < _; (first | lia | omega)) (by show A.units + 3 + 6 ≤ B; (first | lia | omega)) (N _ (.tail _ (.head _))).1 (fun A' s' hA x => hlt A' s' hA (x3.trans x))) ?_
    rintro v os h₆ tk₆ ⟨rfl, k, rfl⟩ hk
    obtain ⟨F, N⟩ := hk _ (.head _)
    exact wpAny_execs_nil (hX0 0 _ (by decide) (.zero h₆ _ _ k F e1 N))
  · refine wpAny_pyNext_range_end hh (N _ (.head _)).1 (by decide) fun h₃ hx => ?_
    have keep : ∀ b o, b ≠ I → h'.get? b = some o → h₃.get? b = some o := fun b o hb e => hx b o hb e
    have zI := N _ (.head _)
    have F : Fr (s.heap.hide D) L h₃ m' := ⟨F.ns.at' fun o e => keep _ _ (Ne.symm zI.2.1) e, fun b o e => keep _ _ (fun z => by rw [z, zI.2.2] at e; cases e) (F.keep b o e), F.above⟩
    have N : News (s.heap.hide D) L h₃ [(D, listO (if c then [p, q] else [q, p]) n')] := fun r hr => by
      have z := N r (.tail _ hr)
      rw [List.mem_singleton.mp hr] at z ⊢
      exact ⟨keep _ _ hDI z.1, z.2⟩
    refine hP0 _ ?_
    exact wpAny_execs_nil (afterGF F N _ (fun p hp => hp) ⟨n', rfl⟩)
end
end Mine
end
section
open PySem PySem.W PySem.Calls PyProof.Rows
set_option maxRecDepth 100000
set_option maxHeartbeats 4000000
namespace Mine
section
variable {prog : Program} {w : World} {A : Around} {s : Shared}

/-- the frame of a comprehension is made: X tells of its cells -/
def NewEnv (prog : Program) (w : World) (A : Around) (scope : Scope) (env : Env) (cl : List (Str × Addr)) (X : Addr → List (Str × Addr) → Heap → Heap → Prop) : Prop :=
  ∀ (s : Shared) (Q : Env → Shared → Prop) (E : Value → Shared → Prop),
    (∀ C cells h' (ce : Env), s.heap.get? C = none → h'.Ns C (fun _ => none) → Ext s.heap h' → X C cells s.heap h' → ce.locals = C → { ce with scope := relabel scope env } = compEnvC scope cells C env → Q ce { s with heap := h' }) →
    wpAny (model prog w) A (newFunctionEnv scope env.globals cl [] env.qual none .none (some env)) Q E s
theorem newEnv_plain {scope : Scope} {env : Env} {cl : List (Str × Addr)} (hcell : ∀ y ∈ scope.names, y.2 ≠ .cell) (hkind : scope.kind = .function) : NewEnv prog w A scope env cl (fun _ cells _ _ => cells = cl) := by
  intro s Q E h
  refine wpAny_newFunctionEnv hcell (by intro y hy; simp at hy) (fun h₁ hns₁ hsb₁ => ?_) hkind
  refine h _ cl h₁ _ (new_none _) hns₁ (fun b o e => hsb₁.extBut b o (Nat.ne_of_lt (Heap.lt_size e)) (Heap.get?_push_of_some _ e)) rfl rfl rfl

theorem compBlock3 {E : Value → Shared → Prop} {env : Env} {elt iter target : Expr} {scope : Scope} {cl : List (Str × Addr)} {pos : Pos} {s₁ : Shared} {xv : Value} {X : Addr → List (Str × Addr) → Heap → Heap → Prop}
    (RR : Value → Addr → Result → Shared → Prop) (ne : NewEnv prog w A scope env cl X)
    (h : wpAny (model prog w) A (pyIter xv) (fun it s₂ => ∀ D C cells h₂ h₃, s₂.heap.get? D = none → s₂.heap.get? C = none → D ≠ C → Ext s₂.heap h₂ → Ext h₂ h₃ → h₂.get? C = none → h₂.get? D = some (listO [] 0) → h₃.Ns C (fun _ => none) → X C cells h₂ h₃ →
      (∀ (Q E' : Value → Shared → Prop), Q it { s₂ with heap := h₃ } → wpAny (model prog w) A (pyIter it) Q E' { s₂ with heap := h₃ }) ∧
      codeAny (model prog w) A (.compLoop (.ListComp elt [⟨target, iter, [], 0⟩] scope pos) 0 it (.ref D) (compEnvC scope cells C env)) (RR (.ref D) C) { s₂ with heap := h₃ }) E s₁) :
    wpAny (model prog w) A (pyIter xv) (fun it s₂ => wpAny (model prog w) A (newList []) (fun acc s₃ => wpAny (model prog w) A (newFunctionEnv scope env.globals cl [] env.qual none .none (some env)) (fun cenv s₄ =>
      codeAny (model prog w) A (.compStart (.ListComp elt [⟨target, iter, [], 0⟩] scope pos) 0 it acc { cenv with scope := relabel scope env }) (RR acc cenv.locals) s₄) E s₃) E s₂) E s₁ := by
  refine wpAny_mono h (fun it s₂ h₂ => ?_) fun _ _ e => e
  refine wpAny_newObj_type (ne _ _ _ fun C cells h₃ ce hC hns hx hX hl he => ?_)
  dsimp only at hC hns hx hX ⊢
  have hlt : s₂.heap.objs.size < (s₂.heap.push { cls := .type "list", dict := none, data := .seq ([] : List Value).toArray }).objs.size := by rw [Heap.size_push]; exact Nat.lt_succ_self _
  have old : ∀ b o, s₂.heap.get? b = some o → (s₂.heap.push { cls := .type "list", dict := none, data := .seq ([] : List Value).toArray }).get? b = some o := fun b o e => Heap.get?_push_of_some _ e
  have hD : (s₂.heap.push { cls := .type "list", dict := none, data := .seq ([] : List Value).toArray }).get? s₂.heap.objs.size = some { cls := .type "list", dict := none, data := .seq ([] : List Value).toArray } := Heap.get?_push_size _ rfl
  have hDC : s₂.heap.objs.size ≠ C := fun q => by rw [q] at hD; rw [hD] at hC; cases hC
  have hC0 : s₂.heap.get? C = none := by
    cases e : s₂.heap.get? C with
    | none => rfl
    | some o => rw [old _ _ e] at hC; cases hC
  obtain ⟨self, loop⟩ := h₂ s₂.heap.objs.size C cells _ h₃ (new_none _) hC0 hDC old hx hC hD hns hX
  rw [he, hl]
  exact codeAny_compStart_list loop (self _ _ loop)

theorem comp3 {E : Value → Shared → Prop} {Q : Value → Shared → Prop} {env : Env} {elt iter target : Expr} {scope : Scope} {cl : List (Str × Addr)} {pos : Pos} {X : Addr → List (Str × Addr) → Heap → Heap → Prop}
    (hclos : closureFor scope env = pure cl) (hkind : scope.kind = .function) (ne : NewEnv prog w A scope env cl X)
    (hnames : ∀ y ∈ scope.names, y.2 = .local → scope.names.lookup y.1 = some .local)
    (h : wpAny (model prog w) A (eval iter env) (fun xv s₁ => wpAny (model prog w) A (pyIter xv) (fun it s₂ => ∀ D C cells h₂ h₃, s₂.heap.get? D = none → s₂.heap.get? C = none → D ≠ C → Ext s₂.heap h₂ → Ext h₂ h₃ → h₂.get? C = none → h₂.get? D = some (listO [] 0) → h₃.Ns C (fun _ => none) → X C cells h₂ h₃ →
      (∀ (Q E' : Value → Shared → Prop), Q it { s₂ with heap := h₃ } → wpAny (model prog w) A (pyIter it) Q E' { s₂ with heap := h₃ }) ∧
      codeAny (model prog w) A (.compLoop (.ListComp elt [⟨target, iter, [], 0⟩] scope pos) 0 it (.ref D) (compEnvC scope cells C env))
        (fun r s' => r = .ok .next ∧ ∃ m', s'.heap.Ns C m' ∧ ∀ h'', (∀ b o, b ≠ C → s'.heap.get? b = some o → h''.get? b = some o) → Q (.ref D) { s' with heap := h'' }) { s₂ with heap := h₃ }) E s₁) E s)
    (hs : ∀ x, foldedSetIterable iter env x = pure x := by intro _; rfl) :
    wpAny (model prog w) A (eval (.ListComp elt [⟨target, iter, [], 0⟩] scope pos) env) Q E s := by
  rw [eval_ListComp]
  refine wpAny_comprehension_free (use := none) rfl hs hclos hkind hnames (wpAny_mono h (fun xv s₁ ok => ?_) fun _ _ e => e)
  refine compBlock3 (fun acc C => compPost (model prog w) A E none Q acc C) ne (wpAny_mono ok (fun it s₂ h D C cells h₂ h₃ a1 a2 a3 a4 a5 a6 a7 a8 a9 => ?_) fun _ _ e => e)
  obtain ⟨self, loop⟩ := h D C cells h₂ h₃ a1 a2 a3 a4 a5 a6 a7 a8 a9
  refine ⟨self, codeAny_mono loop fun r s' hr => ?_⟩
  obtain ⟨rfl, m', hn, hk⟩ := hr
  exact ⟨m', hn, fun h'' hs'' => hk h'' hs''.extBut⟩
/-- the same as the value of an assignment -/
theorem compTo3 {E : Value → Shared → Prop} {Q : Flow → Shared → Prop} {env : Env} {elt iter target : Expr} {y : Str} {py : Pos} {scope : Scope} {cl : List (Str × Addr)} {pos spos : Pos} {X : Addr → List (Str × Addr) → Heap → Heap → Prop}
    (hsw : swapsWith (.ListComp elt [⟨target, iter, [], 0⟩] scope pos) (some (.Name y py)) spos.line env = pure true)
    (hclos : closureFor scope env = pure cl) (hkind : scope.kind = .function) (ne : NewEnv prog w A scope env cl X)
    (hnames : ∀ z ∈ scope.names, z.2 = .local → scope.names.lookup z.1 = some .local)
    (h : wpAny (model prog w) A (eval iter env) (fun xv s₁ => wpAny (model prog w) A (pyIter xv) (fun it s₂ => ∀ D C cells h₂ h₃, s₂.heap.get? D = none → s₂.heap.get? C = none → D ≠ C → Ext s₂.heap h₂ → Ext h₂ h₃ → h₂.get? C = none → h₂.get? D = some (listO [] 0) → h₃.Ns C (fun _ => none) → X C cells h₂ h₃ →
      (∀ (Q E' : Value → Shared → Prop), Q it { s₂ with heap := h₃ } → wpAny (model prog w) A (pyIter it) Q E' { s₂ with heap := h₃ }) ∧
      codeAny (model prog w) A (.compLoop (.ListComp elt [⟨target, iter, [], 0⟩] scope pos) 0 it (.ref D) (compEnvC scope cells C env))
        (fun r s' => r = .ok .next ∧ wpAny (model prog w) A (storeName env y (.ref D)) (fun _ s'' => ∃ m', s''.heap.Ns C m' ∧ ∀ h'', (∀ b o, b ≠ C → s''.heap.get? b = some o → h''.get? b = some o) → Q .next { s'' with heap := h'' }) E s') { s₂ with heap := h₃ }) E s₁) E s)
    (hs : ∀ x, foldedSetIterable iter env x = pure x := by intro _; rfl) :
    wpAny (model prog w) A (exec (.Assign [.Name y py] (.ListComp elt [⟨target, iter, [], 0⟩] scope pos) spos) env) Q E s := by
  rw [exec_Assign_Name_used _ _ _ _ hsw]
  refine wpAny_bind (wpAny_standAt (wpAny_bind ?_))
  show wpAny _ A (do let _ ← comprehension (.ListComp elt [⟨target, iter, [], 0⟩] scope pos) scope env _ (newList []) false (eval iter env) (some (assign (.Name y py) env))) _ _ s
  refine wpAny_bind (wpAny_mono (wpAny_comprehension_free (use := some (assign (.Name y py) env)) (Q := fun _ s' => Q .next s') rfl hs hclos hkind hnames
    (wpAny_mono h (fun xv s₁ ok => ?_) fun _ _ e => e)) (fun _ s' hq => wpAny_pure (wpAny_pure hq)) fun _ _ e => e)
  refine compBlock3 (fun acc C => compPost (model prog w) A E (some (assign (.Name y py) env)) (fun _ s' => Q .next s') acc C) ne (wpAny_mono ok (fun it s₂ h D C cells h₂ h₃ a1 a2 a3 a4 a5 a6 a7 a8 a9 => ?_) fun _ _ e => e)
  obtain ⟨self, loop⟩ := h D C cells h₂ h₃ a1 a2 a3 a4 a5 a6 a7 a8 a9
  refine ⟨self, codeAny_mono loop fun r s' hr => ?_⟩
  obtain ⟨rfl, hr⟩ := hr
  show wpAny _ A (assign (.Name y py) env (.ref D)) _ _ _
  refine wpAny_assign_Name (wpAny_mono hr (fun _ s'' hq => ?_) fun _ _ e => e)
  obtain ⟨m', hn, hk⟩ := hq
  exact ⟨m', hn, fun h'' hs'' => hk h'' hs''.extBut⟩
end
end Mine
end
section
open PySem PySem.W PySem.Calls PyProof.Rows
set_option maxRecDepth 100000
set_option maxHeartbeats 4000000
namespace Mine
section
variable {prog : Program} {w : World} {A : Around} {s : Shared} {E : Value → Shared → Prop}
theorem assign2 {env : Env} {a b : Str} {pa pb tp : Pos} {kk : Nat} {T : Addr} {x y : Value} {m : Str → Option Value} {Q : Unit → Shared → Prop} (hh : A.handled = none) (ht : s.heap.IsTuple T #[x, y])
    (ha : env.kindOf a = some .local) (hb : env.kindOf b = some .local) (hp : (env.scope.kind == .class || (env.scope.kind == .module && env.locals != env.globals)) = false) (hn : s.heap.Ns env.locals m)
    (h : ∀ (h' : Heap), h'.Ns env.locals (fun z => if z = b then some y else if z = a then some x else m z) → (∀ c o, c ≠ env.locals → s.heap.get? c = some o → h'.get? c = some o) → Q () { s with heap := h', toks := s.toks + 1 + 1 }) :
    wpAny (model prog w) A (assign (.Tuple [.Name a pa, .Name b pb] kk tp) env (.ref T)) Q E s := by
  refine wpAny_assign_Tuple hh ht rfl rfl fun h₁ he₁ => ?_
  have hL : env.locals ≠ s.heap.objs.size := Nat.ne_of_lt hn.lt
  have hn₁ : h₁.Ns env.locals m := hn.at' fun o e => he₁ _ o hL e
  have up₁ : ∀ c o, s.heap.get? c = some o → h₁.get? c = some o := fun c o e => he₁ c o (Nat.ne_of_lt (Heap.lt_size e)) e
  show wpAny _ _ (assignInOrder [assign (.Name a pa) env, assign (.Name b pb) env] [x, y]) _ _ _
  refine assignInOrder_cons ?_
  refine wpAny_assign_Name (wpAny_storeName_local ha hn₁ (fun h₂ hn₂ hs₂ => ?_) hp)
  refine assignInOrder_cons ?_
  refine wpAny_assign_Name (wpAny_storeName_local hb hn₂ (fun h₃ hn₃ hs₃ => ?_) hp)
  refine assignInOrder_nil ?_
  exact h h₃ hn₃ fun c o hc e => hs₃.extBut c o hc (hs₂.extBut c o hc (up₁ c o e))
theorem assign3 {env : Env} {a b c : Str} {pa pb pc tp : Pos} {kk : Nat} {T : Addr} {x y z : Value} {m : Str → Option Value} {Q : Unit → Shared → Prop} (hh : A.handled = none) (ht : s.heap.IsTuple T #[x, y, z])
    (ha : env.kindOf a = some .local) (hb : env.kindOf b = some .local) (hc : env.kindOf c = some .local) (hp : (env.scope.kind == .class || (env.scope.kind == .module && env.locals != env.globals)) = false) (hn : s.heap.Ns env.locals m)
    (h : ∀ (h' : Heap), h'.Ns env.locals (fun n => if n = c then some z else if n = b then some y else if n = a then some x else m n) → (∀ d o, d ≠ env.locals → s.heap.get? d = some o → h'.get? d = some o) → Q () { s with heap := h', toks := s.toks + 1 + 1 + 1 }) :
    wpAny (model prog w) A (assign (.Tuple [.Name a pa, .Name b pb, .Name c pc] kk tp) env (.ref T)) Q E s := by
  refine wpAny_assign_Tuple hh ht rfl rfl fun h₁ he₁ => ?_
  have hL : env.locals ≠ s.heap.objs.size := Nat.ne_of_lt hn.lt
  have hn₁ : h₁.Ns env.locals m := hn.at' fun o e => he₁ _ o hL e
  have up₁ : ∀ c o, s.heap.get? c = some o → h₁.get? c = some o := fun c o e => he₁ c o (Nat.ne_of_lt (Heap.lt_size e)) e
  show wpAny _ _ (assignInOrder [assign (.Name a pa) env, assign (.Name b pb) env, assign (.Name c pc) env] [x, y, z]) _ _ _
  refine assignInOrder_cons ?_
  refine wpAny_assign_Name (wpAny_storeName_local ha hn₁ (fun h₂ hn₂ hs₂ => ?_) hp)
  refine assignInOrder_cons ?_
  refine wpAny_assign_Name (wpAny_storeName_local hb hn₂ (fun h₃ hn₃ hs₃ => ?_) hp)
  refine assignInOrder_cons ?_
  refine wpAny_assign_Name (wpAny_storeName_local hc hn₃ (fun h₄ hn₄ hs₄ => ?_) hp)
  refine assignInOrder_nil ?_
  exact h h₄ hn₄ fun c o hc e => hs₄.extBut c o hc (hs₃.extBut c o hc (hs₂.extBut c o hc (up₁ c o e)))

/-- zip(range(n), it) stands at i -/
def ZSt (z TI TO i1 i2 l : Addr) (es : Array Value) (n : Nat) (C : Addr) (i : Nat) (h : Heap) : Prop :=
  IsZip h z TI TO .none ∧ IsPair h TI (.ref i1) (.ref i2) ∧ (∃ a b, IsPair h TO a b) ∧ IsRangeIter h i1 (i : Int) ((n : Int) - i) 1 ∧ h.IsListIter i2 l i ∧ h.IsList l es ∧ ∃ m, h.Ns C m
theorem zst_frame {z TI TO i1 i2 l C : Addr} {es : Array Value} {n : Nat} : ∀ i h h', ZSt z TI TO i1 i2 l es n C i h → (∀ b o, b ∈ [z, TI, TO, i1, i2, l, C] → h.get? b = some o → h'.get? b = some o) → ZSt z TI TO i1 i2 l es n C i h' := by
  rintro i h h' ⟨a1, a2, ⟨a, b, a3⟩, a4, a5, a6, m, a7⟩ k
  exact ⟨k z _ (by simp) a1, k TI _ (by simp) a2, ⟨a, b, k TO _ (by simp) a3⟩, k i1 _ (by simp) a4, a5.at fun o e => k i2 o (by simp) e, a6.at fun o e => k l o (by simp) e, m, a7.at' fun o e => k C o (by simp) e⟩
theorem zst_live {z TI TO i1 i2 l C : Addr} {es : Array Value} {n : Nat} : ∀ i h, ZSt z TI TO i1 i2 l es n C i h → ∀ b ∈ [z, TO, i1, i2, C], ∃ o, h.get? b = some o := by
  rintro i h ⟨a1, a2, ⟨a, b, a3⟩, a4, a5, a6, m, a7⟩ c hc
  simp at hc
  rcases hc with rfl | rfl | rfl | rfl | rfl
  · exact ⟨_, a1⟩
  · exact ⟨_, a3⟩
  · exact ⟨_, a4⟩
  · obtain ⟨o, ho, _⟩ := a5; exact ⟨o, ho⟩
  · obtain ⟨o, _, _, ho, _⟩ := a7; exact ⟨o, ho⟩
theorem zip_turn {z TI TO i1 i2 l : Addr} {es : Array Value} {n i : Nat} {cenv : Env} {a b : Str} {pa pb tp : Pos} {kk : Nat} (hh : A.handled = none) (D : ZipR z TI TO i1 i2 l) (hC : cenv.locals ∉ [z, TI, TO, i1, i2, l])
    (ha : cenv.kindOf a = some .local) (hb : cenv.kindOf b = some .local) (hp : (cenv.scope.kind == .class || (cenv.scope.kind == .module && cenv.locals != cenv.globals)) = false) (hes : n ≤ es.size)
    (hi : i < n) (hst : ZSt z TI TO i1 i2 l es n cenv.locals i s.heap) :
    wpAny (model prog w) A (pyNext (.ref z)) (fun r s₁ => ∃ v, r = some v ∧ wpAny (model prog w) A (letOwnedTupleGo (.Tuple [.Name a pa, .Name b pb] kk tp) (.ref z) v) (fun _ s₀ => wpAny (model prog w) A (assign (.Tuple [.Name a pa, .Name b pb] kk tp) cenv v)
        (fun _ s₂ => ∃ h' tk, s₂ = { s with heap := h', toks := tk } ∧ 0 < tk ∧ ZSt z TI TO i1 i2 l es n cenv.locals (i + 1) h' ∧ (∃ m t, h'.Ns cenv.locals m ∧ m b = es[i]? ∧ (a ≠ b → m a = some (.int i t))) ∧ ExtOff [z, TO, i1, i2, cenv.locals] s.heap h') No s₀) No s₁) No s := by
  obtain ⟨a1, a2, ⟨x0, y0, a3⟩, a4, a5, a6, m, a7⟩ := hst
  have hie : i < es.size := Nat.lt_of_lt_of_le hi hes
  have lt : ∀ {c o}, s.heap.get? c = some o → s.heap.objs.size ≠ c := fun e => Nat.ne_of_gt (Heap.lt_size e)
  simp only [List.mem_cons, List.not_mem_nil, or_false, not_or] at hC
  obtain ⟨c1, c2, c3, c4, c5, c6⟩ := hC
  refine pyNext_zipR_item D a1 a2 a3 a4 (by (first | lia | omega)) a5 a6 (Array.getElem?_eq_getElem hie) fun h₁ t b1 b2 b3 b4 b5 b6 b7 => ⟨_, rfl, ?_⟩
  refine wpAny_letOwnedTupleGo_zip b1 fun h₂ hz₂ hs₂ => ?_
  have nz := lt a1
  have up : ∀ c o, c ∉ [z, TO, i1, i2] → s.heap.get? c = some o → h₂.get? c = some o := fun c o hc e => by
    simp only [List.mem_cons, List.not_mem_nil, or_false, not_or] at hc
    exact hs₂.extBut _ _ hc.1 (b7 c o hc.1 hc.2.1 hc.2.2.1 hc.2.2.2 e)
  refine assign2 hh ⟨_, hs₂.extBut _ _ nz b5, rfl, _, rfl⟩ ha hb hp (a7.at' fun o e => up _ o (by simp [c1, c3, c4, c5]) e) fun h₃ hn₃ hk₃ => ?_
  refine ⟨h₃, _, rfl, Nat.succ_pos _, ⟨hk₃ _ _ (Ne.symm c1) hz₂, hk₃ _ _ (Ne.symm c2) (up _ _ (by simp [D.TIz, D.TITO, D.TIi1, D.TIi2]) a2), ⟨_, _, hk₃ _ _ (Ne.symm c3) (hs₂.extBut _ _ D.TOz b2)⟩, ?_, ?_, ?_, _, hn₃⟩, ⟨_, t, hn₃, ?_, fun hab => ?_⟩, fun c o hc e => ?_⟩
  · have e1 : ((i : Int) + 1) = ((i + 1 : Nat) : Int) := by (first | lia | omega)
    have e2 : ((n : Int) - i - 1) = (n : Int) - ((i + 1 : Nat) : Int) := by (first | lia | omega)
    rw [e1, e2] at b3
    exact hk₃ _ _ (Ne.symm c4) (hs₂.extBut _ _ D.i1z b3)
  · exact (b4.at fun o e => hs₂.extBut _ _ D.i2z e).at fun o e => hk₃ _ _ (Ne.symm c5) e
  · exact a6.at fun o e => hk₃ _ _ (Ne.symm c6) (up _ _ (by simp [D.l2z, D.l2TO, D.l2i1, D.l2i2]) e)
  · simp [hie]
  · simp [hab]
  · simp only [List.mem_cons, List.not_mem_nil, or_false, not_or] at hc
    exact hk₃ _ _ hc.2.2.2.2 (up _ _ (by simp [hc.1, hc.2.1, hc.2.2.1, hc.2.2.2.1]) e)
theorem zip_done {z TI TO i1 i2 l : Addr} {es : Array Value} {n : Nat} {C : Addr} (hh : A.handled = none) (D : ZipR z TI TO i1 i2 l) (hC : C ∉ [z, TI, TO, i1, i2, l]) (hst : ZSt z TI TO i1 i2 l es n C n s.heap) :
    wpAny (model prog w) A (pyNext (.ref z)) (fun r s₁ => r = none ∧ ∃ h' tk, s₁ = { s with heap := h', toks := tk } ∧ (h'.IsListIter i2 l n ∧ ∃ m, h'.Ns C m) ∧ ExtOff [z, TO, i1, i2, C] s.heap h') No s := by
  obtain ⟨a1, a2, ⟨x0, y0, a3⟩, a4, a5, a6, m, a7⟩ := hst
  have e : (n : Int) - (n : Int) = 0 := by (first | lia | omega)
  rw [e] at a4
  simp only [List.mem_cons, List.not_mem_nil, or_false, not_or] at hC
  refine pyNext_zipR_end hh D.i1z a1 a2 a4 fun h' k => ⟨rfl, h', _, rfl, ⟨a5.at fun o e => k _ _ D.i2z (Ne.symm D.i12) e, m, a7.at' fun o e => k _ _ hC.1 hC.2.2.2.1 e⟩, fun c o hc e => ?_⟩
  simp only [List.mem_cons, List.not_mem_nil, or_false, not_or] at hc
  exact k c o hc.1 hc.2.2.1 e
end
end Mine
end
section
open PySem PySem.W PySem.Calls PyProof.Rows
set_option maxRecDepth 100000
set_option maxHeartbeats 4000000
namespace Mine
section
variable {prog : Program} {w : World} {mg mb : Str → Option Value} {A : Around} {s : Shared} {E : Value → Shared → Prop}
/-- a list of two triples stands at i -/
def TSt (I l T0 T1 C : Addr) (t0 t1 : Array Value) (i : Nat) (h : Heap) : Prop :=
  h.IsListIter I l i ∧ h.IsList l #[.ref T0, .ref T1] ∧ h.IsTuple T0 t0 ∧ h.IsTuple T1 t1 ∧ ∃ m, h.Ns C m
theorem tst_frame {I l T0 T1 C : Addr} {t0 t1 : Array Value} : ∀ i h h', TSt I l T0 T1 C t0 t1 i h → (∀ b o, b ∈ [I, l, T0, T1, C] → h.get? b = some o → h'.get? b = some o) → TSt I l T0 T1 C t0 t1 i h' := by
  rintro i h h' ⟨a1, a2, ⟨o0, b0, r0⟩, ⟨o1, b1, r1⟩, m, a5⟩ k
  exact ⟨a1.at fun o e => k _ o (by simp) e, a2.at fun o e => k _ o (by simp) e, ⟨o0, k _ _ (by simp) b0, r0⟩, ⟨o1, k _ _ (by simp) b1, r1⟩, m, a5.at' fun o e => k _ o (by simp) e⟩
theorem tst_live {I l T0 T1 C : Addr} {t0 t1 : Array Value} : ∀ i h, TSt I l T0 T1 C t0 t1 i h → ∀ b ∈ [I, C], ∃ o, h.get? b = some o := by
  rintro i h ⟨a1, a2, a3, a4, m, a5⟩ c hc
  simp at hc
  rcases hc with rfl | rfl
  · obtain ⟨o, ho, _⟩ := a1; exact ⟨o, ho⟩
  · obtain ⟨o, _, _, ho, _⟩ := a5; exact ⟨o, ho⟩
theorem tst_turn {I l T0 T1 : Addr} {t0 t1 : Array Value} {i : Nat} {x y z : Value} {cenv : Env} {a b c : Str} {pa pb pc tp : Pos} {kk : Nat} (hh : A.handled = none) (hIl : I ≠ l) (hC : cenv.locals ∉ [I, l, T0, T1]) (hI : I ∉ [T0, T1])
    (ha : cenv.kindOf a = some .local) (hb : cenv.kindOf b = some .local) (hc : cenv.kindOf c = some .local) (hp : (cenv.scope.kind == .class || (cenv.scope.kind == .module && cenv.locals != cenv.globals)) = false)
    (hi : i < 2) (hxyz : (if i = 0 then t0 else t1) = #[x, y, z]) (hst : TSt I l T0 T1 cenv.locals t0 t1 i s.heap) :
    wpAny (model prog w) A (pyNext (.ref I)) (fun r s₁ => ∃ v, r = some v ∧ wpAny (model prog w) A (letOwnedTupleGo (.Tuple [.Name a pa, .Name b pb, .Name c pc] kk tp) (.ref I) v) (fun _ s₀ => wpAny (model prog w) A (assign (.Tuple [.Name a pa, .Name b pb, .Name c pc] kk tp) cenv v)
        (fun _ s₂ => ∃ h' tk, s₂ = { s with heap := h', toks := tk } ∧ 0 < tk ∧ TSt I l T0 T1 cenv.locals t0 t1 (i + 1) h' ∧ (∃ m, h'.Ns cenv.locals m ∧ m c = some z) ∧ ExtOff [I, cenv.locals] s.heap h') No s₀) No s₁) No s := by
  obtain ⟨a1, a2, a3, a4, m, a5⟩ := hst
  simp only [List.mem_cons, List.not_mem_nil, or_false, not_or] at hC hI
  obtain ⟨c1, c2, c3, c4⟩ := hC
  have W := Walks.list (prog := prog) (w := w) (A := A) hh I l (Ne.symm hIl) #[.ref T0, .ref T1]
  refine W.item i _ _ _ hi ⟨a1, a2⟩ fun v h₁ tk hv hst₁ hk₁ => ⟨v, rfl, ?_⟩
  have hk₁ : ∀ b o, b ≠ I → s.heap.get? b = some o → h₁.get? b = some o := fun b o hb e => hk₁ b o (by simpa using hb) e
  have hT : ∃ T, v = .ref T ∧ Heap.IsTuple h₁ T #[x, y, z] := by
    have : i = 0 ∨ i = 1 := by (first | lia | omega)
    rcases this with rfl | rfl
    · rw [if_pos rfl] at hxyz
      obtain ⟨o, ho, r⟩ := a3
      rw [hxyz] at r
      exact ⟨T0, by simpa using hv.symm, o, hk₁ _ _ (Ne.symm hI.1) ho, r⟩
    · rw [if_neg (by decide)] at hxyz
      obtain ⟨o, ho, r⟩ := a4
      rw [hxyz] at r
      exact ⟨T1, by simpa using hv.symm, o, hk₁ _ _ (Ne.symm hI.2) ho, r⟩
  obtain ⟨T, rfl, hT⟩ := hT
  refine wpAny_letOwnedTupleGo_listiter hst₁.1 ?_
  refine assign3 hh hT ha hb hc hp (a5.at' fun o e => hk₁ _ _ c1 e) fun h₃ hn₃ hk₃ => ?_
  refine ⟨h₃, _, rfl, Nat.succ_pos _, ⟨hst₁.1.at fun o e => hk₃ _ _ (Ne.symm c1) e, hst₁.2.at fun o e => hk₃ _ _ (Ne.symm c2) e, ?_, ?_, _, hn₃⟩, ⟨_, hn₃, by simp⟩, fun d o hd e => ?_⟩
  · obtain ⟨o, ho, r⟩ := a3; exact ⟨o, hk₃ _ _ (Ne.symm c3) (hk₁ _ _ (Ne.symm hI.1) ho), r⟩
  · obtain ⟨o, ho, r⟩ := a4; exact ⟨o, hk₃ _ _ (Ne.symm c4) (hk₁ _ _ (Ne.symm hI.2) ho), r⟩
  · simp only [List.mem_cons, List.not_mem_nil, or_false, not_or] at hd
    exact hk₃ _ _ hd.2 (hk₁ _ _ hd.1 e)
theorem tst_done {I l T0 T1 C : Addr} {t0 t1 : Array Value} (hh : A.handled = none) (hIl : I ≠ l) (hC : C ∉ [I, l, T0, T1]) (hst : TSt I l T0 T1 C t0 t1 2 s.heap) :
    wpAny (model prog w) A (pyNext (.ref I)) (fun r s₁ => r = none ∧ ∃ h' tk, s₁ = { s with heap := h', toks := tk } ∧ (∃ m, h'.Ns C m) ∧ ExtOff [I, C] s.heap h') No s := by
  obtain ⟨a1, a2, a3, a4, m, a5⟩ := hst
  simp only [List.mem_cons, List.not_mem_nil, or_false, not_or] at hC
  have W := Walks.list (prog := prog) (w := w) (A := A) hh I l (Ne.symm hIl) #[.ref T0, .ref T1]
  refine W.done _ _ _ ⟨a1, a2⟩ fun h₁ tk hk₁ => ⟨rfl, h₁, tk, rfl, ⟨m, a5.at' fun o e => hk₁ _ _ (by simpa using hC.1) e⟩, fun c o hc e => ?_⟩
  simp only [List.mem_cons, List.not_mem_nil, or_false, not_or] at hc
  exact hk₁ _ _ (by simpa using hc.1) e
/-- iter() of a list -/
theorem call_iter_list {l : Addr} {items : Array Value} {Q : Value → Shared → Prop} (hl : s.heap.IsList l items) (h : Q (.ref s.heap.objs.size) { s with heap := s.heap.push { cls := .type "list_iterator", data := .fields #[.ref l, .int 0 0] } }) :
    wpAny (model prog w) A (call (.builtin "iter") [.ref l]) Q E s := by
  refine call_function_entry (by decide +kernel) (by decide +kernel) (b := Builtin.«iter») (entryFor_of_tree (by kernel_rfl)) (by unfold argsOk; kernel_rfl) ?_
  unfold Builtin.«iter»
  refine wpAny_bind (m := someArgs "iter" 1 2 _) (wpAny_of_eq (a := [Value.ref l]) (by first | rfl | kernel_rfl) ?_)
  dsimp only
  exact wpAny_bind (wpAny_pyIter_list hl (wpAny_pure ⟨_, rfl, h⟩))
end
end Mine
end
section
open PySem PySem.W PySem.Calls PyProof.Rows
set_option maxRecDepth 100000
set_option maxHeartbeats 4000000
namespace Mine
theorem at_iter (w : World) : nsIn (hdK w.params) mainGlobals "iter" = some none := by k_is
theorem at_zip (w : World) : nsIn (hdK w.params) mainGlobals "zip" = some none := by k_is
theorem at_heapify (w : World) : nsIn (hdK w.params) mainGlobals "_heapify_max" = some (some (.ref 138)) := by k_is
theorem keep_heapify (w : World) : keepIn (hdK w.params) (.ref 138) = true := by k_is
theorem at_heaprep (w : World) : nsIn (hdK w.params) mainGlobals "_heapreplace_max" = some (some (.ref 131)) := by k_is
theorem keep_heaprep (w : World) : keepIn (hdK w.params) (.ref 131) = true := by k_is
section
variable {prog : Program} {w : World} {mg mb : Str → Option Value} {A : Around} {s : Shared}
/-- a comprehension's list is stored; its frame goes -/
theorem stTo {cn : Str} {cs : Scope} {L a C : Addr} {ccd : Value} {cl : List (Str × Addr)} {y : Str} {v : Value} {h₀ : Heap} {m : Str → Option Value} {news : List (Addr × Obj)} {E : Value → Shared → Prop}
    (F : Fr h₀ L s.heap m) (N : News h₀ L s.heap news) (hC : ∃ mC, s.heap.Ns C mC) (hCL : C ≠ L) (hC0 : h₀.get? C = none) (hCn : ∀ p ∈ news, p.1 ≠ C)
    (hk : cs.kind = .function) (hx : (envX cn cs L a ccd cl).kindOf y = some .local) :
    wpAny (model prog w) A (storeName (envX cn cs L a ccd cl) y v) (fun _ s'' => ∃ h', s'' = { s with heap := h', toks := s.toks + 1 } ∧ (∃ m', h'.Ns C m') ∧ ∀ h'', (∀ b o, b ≠ C → h'.get? b = some o → h''.get? b = some o) →
      Fr h₀ L h'' (fun z => if z = y then some v else m z) ∧ News h₀ L h'' news) E s := by
  obtain ⟨mC, hC⟩ := hC
  refine wpAny_storeName_local hx F.ns (fun h' hn hs => ⟨h', rfl, ⟨mC, hC.sameBut hs hCL⟩, fun h'' hk'' => ?_⟩) (by show (cs.kind == .class || (cs.kind == .module && L != mainGlobals)) = false; rw [hk]; rfl)
  have F' := F.set hn hs
  have N' := N.set hs
  exact ⟨⟨F'.ns.at' fun o e => hk'' _ _ (Ne.symm hCL) e, fun b o e => hk'' _ _ (fun q => by rw [q, hC0] at e; cases e) (F'.keep b o e), F'.above⟩, fun p hp => ⟨hk'' _ _ (hCn p hp) (N' p hp).1, (N' p hp).2⟩⟩

theorem lst_no {xs : List Value} {n : Nat} : (listO xs n).cls ≠ .type "list_iterator" := by show Value.type "list" ≠ _; decide
theorem tup_no {xs : List Value} : (tupO xs).cls ≠ .type "list_iterator" := by show Value.type "tuple" ≠ _; decide
theorem swap23 {h₀ h : Heap} {L : Addr} {p q r : Addr × Obj} {l : List (Addr × Obj)} (N : News h₀ L h (p :: q :: r :: l)) : News h₀ L h (p :: r :: q :: l) :=
  newsC (N _ (.head _)) (newsC (N _ (.tail _ (.tail _ (.head _)))) (newsC (N _ (.tail _ (.head _))) fun x hx => N x (.tail _ (.tail _ (.tail _ hx)))))
/-- a list of two entries, and the entries -/
inductive TwoN (g : Heap) (L : Addr) (h : Heap) (D : Addr) (k : Nat) (kk : Nat → Addr) (e : Nat → Value) (rest : List (Addr × Obj)) (R : Nat → Nat → Prop) : Prop
  | mk (x y : Nat) (X Y : Addr) (tx ty : Tok) (hR : R x y) (nX : D ≠ X) (nY : D ≠ Y) (N : News g L h ((D, listO [.ref X, .ref Y] k) :: (X, tupO [.ref (kk x), .int x tx, e x]) :: (Y, tupO [.ref (kk y), .int y ty, e y]) :: rest))
def FirstTwo (a b : Nat → Int) (x y : Nat) : Prop := ((EE a b 1 0 = true ∧ x = 0 ∧ y = 1) ∨ (EE a b 1 0 = false ∧ x = 1 ∧ y = 0)) ∧ x < 2 ∧ y < 2
/-- where the loop over the third stands -/
inductive NsI (s : Shared) (L D J I X Y : Addr) (x y : Nat) (tx ty : Tok) (k : Nat) (kk : Nat → Addr) (e : Nat → Value) (a b : Nat → Int) (oJ' o : Obj) : Nat → Shared → Prop
  | one (h' : Heap) (tk : Nat) (m' : Str → Option Value) (u : Tok) (F : Fr s.heap L h' m') (g5 : m' "result" = some (.ref D)) (g1 : m' "top" = some (.ref (kk x))) (g2 : m' "order" = some (.int 2 u)) (g3 : m' "_heapreplace" = some (.ref 131))
      (N : News s.heap L h' [(D, listO [.ref X, .ref Y] k), (X, tupO [.ref (kk x), .int x tx, e x]), (Y, tupO [.ref (kk y), .int y ty, e y]), (J, oJ'), (L + 1, o)]) : NsI s L D J I X Y x y tx ty k kk e a b oJ' o 1 { s with heap := h', toks := tk }
  | zero (h' : Heap) (tk : Nat) (m' : Str → Option Value) (n' : Nat) (oJ3 : Obj) (F : Fr s.heap L h' m') (g5 : m' "result" = some (.ref D)) (hit : h'.IsListIter J I 3) (T : TwoN s.heap L h' D n' kk e [(J, oJ3), (L + 1, o)] (Good a b)) :
      NsI s L D J I X Y x y tx ty k kk e a b oJ' o 0 { s with heap := h', toks := tk }

/-- nsmallest(2, three, key=f) -/
theorem sp_nsmallest {I f : Addr} {e : Nat → Value} {kk : Nat → Addr} {a b : Nat → Int} {t : Tok} (G : Gd w mg mb s.heap) (hh : A.handled = none) (hd : A.depth + 4 < recursionLimit) (hu : A.units + 40 < cLine) (hf : FnAt f s.heap)
    (hl : s.heap.IsList I #[e 0, e 1, e 2]) (K : ∀ i, i < 3 → KeyIs s.heap (kk i) (a i) (b i))
    (hkey : ∀ (A' : Around) (s' : Shared) i, i < 3 → A'.handled = none → A'.depth ≤ A.depth + 1 → Ext s.heap s'.heap → wpAny (model prog w) A' (call (.ref f) [e i]) (After s' fun v os => v = .ref (kk i) ∧ os = []) No s') :
    wpAny (model prog w) A (call (.ref 158) [.int 2 t, .ref I] [(Str.ofString "key", .ref f)]) (After s fun v os => ∃ D n, v = .ref D ∧
      os = [(D, listO [e (pick (eLt (a 1) (b 1) (a 0) (b 0) 1 0) (eLt (a 2) (b 2) (a 0) (b 0) 2 0) (eLt (a 2) (b 2) (a 1) (b 1) 2 1)).1, e (pick (eLt (a 1) (b 1) (a 0) (b 0) 1 0) (eLt (a 2) (b 2) (a 0) (b 0) 2 0) (eLt (a 2) (b 2) (a 1) (b 1) 2 1)).2] n)]) No s := by
  refine enterCK (binds := [(Str.ofString "n", .int 2 t), (Str.ofString "iterable", .ref I), (Str.ofString "key", .ref f)]) G (by k_is) (by k_is) (by (first | lia | omega)) (binds_K G.k rfl (by k_is) rfl rfl rfl) (by rfl) (by decide) (fun Kf hKf L h₁ tk cells F N Y => ?_) rfl rfl rfl
  obtain ⟨o, rfl, ho⟩ := Y.one
  have ho : o.data = .cell (some (.ref f)) := ho
  (refine wpAny_execs_cons ?_; with_reducible refine wpAny_If ?_)
  refine wpAny_isTrue_Compare1 (nameX_L F rfl (wpAny_Constant_int (eq_int (wpAny_truthy_bool ?_))))
  rw [if_neg (by decide)]
  refine wpAny_execs_nil ?_
  refine wpAny_execs_cons (wpAny_Try_except ?_)
  (refine wpAny_execs_cons ?_; with_reducible refine wpAny_Assign_Name ?_ ?as2x83; (case as2x83 => with_unfolding_all exact rfl))
  refine Call_ (gnX F G (at_len w) rfl (by decide) (callWith_builtin1 (args_cons (nameX_L F rfl (args_nil ?_)))))
  refine len_list (hl.at fun o e => F.keep _ _ e) (by simp) ?_
  refine storeX_L F N (fun h₂ F N => ?_)
  dsimp only at F N ⊢
  refine wpAny_execs_nil ?_
  dsimp only
  (refine wpAny_execs_cons ?_; with_reducible refine wpAny_If ?_)
  refine wpAny_isTrue_Compare1 (nameX_L F rfl (nameX_L F rfl (ge_int (wpAny_truthy_bool ?_))))
  rw [if_neg (by simp)]
  refine wpAny_execs_nil (wpAny_execs_nil ?_)
  (refine wpAny_execs_cons ?_; with_reducible refine wpAny_If ?_)
  refine wpAny_isTrue_Compare1 (nameX_C N rfl (.head _) ho (Constant_none (is_none_ne (fun h => nomatch h) (wpAny_truthy_bool ?_))))
  rw [if_neg Bool.false_ne_true]
  refine wpAny_execs_nil ?_
  (refine wpAny_execs_cons ?_; with_reducible refine wpAny_Assign_Name ?_ ?as2x86; (case as2x86 => with_unfolding_all exact rfl))
  refine Call_ (gnX F G (at_iter w) rfl (by decide) (callWith_builtin1 (args_cons (nameX_L F rfl (args_nil ?_)))))
  refine call_iter_list (hl.at fun o e => F.keep _ _ e) ?_
  have hJ1 : h₂.objs.size ≠ L + 1 := Nat.ne_of_gt (Heap.lt_size (N _ (.head _)).1)
  have N := N.push F { cls := .type "list_iterator", data := .fields #[.ref I, .int 0 0] }
  have F := F.push { cls := .type "list_iterator", data := .fields #[.ref I, .int 0 0] }
  have hIne : h₂.objs.size ≠ I := fun q => by
    obtain ⟨ol, hol, _⟩ := hl
    have := (N _ (.head _)).2.2
    rw [q, hol] at this; cases this
  refine storeX_L F N (fun h₃ F N => ?_)
  dsimp only at F N ⊢
  generalize h₂.objs.size = J at F N hIne hJ1 ⊢
  have hcellL : L + 1 ≠ L := Nat.ne_of_gt (Nat.lt_succ_self L)
  refine wpAny_execs_cons ?_
  refine compTo3 (cl := [(Str.ofString "key", L + 1)]) (by with_unfolding_all exact rfl) rfl rfl (newEnv_plain (by decide) rfl) (by decide) ?_
  refine Call_ (gnX F G (at_zip w) rfl (by decide) (PyProof.Rows.callWith_type1 (args_cons ?_)))
  refine Call_ (gnX F G (at_range2 w) rfl (by decide) (PyProof.Rows.callWith_type1 (args_cons (nameX_L F rfl (args_nil (call_range_1 ?_))))))
  have hJ : h₃.IsListIter J I 0 := ⟨_, (N _ (.head _)).1, rfl, rfl⟩
  have hI3 : h₃.IsList I #[e 0, e 1, e 2] := hl.at fun o e => F.keep _ _ e
  refine args_cons (nameX_L (F.push _) rfl (args_nil ?_))
  refine call_zipR (l2 := I) (k := 0) (IsRange.new ..) (hJ.at fun o e => Heap.get?_push_of_some _ e) (by decide) (fun h₄ z TI TO i1 x n1 n2 n3 n4 d1 d2 d3 d4 d5 d6 z1 z2 z3 z4 => ?_)
  have x34 : ∀ b o, h₃.get? b = some o → h₄.get? b = some o := fun b o e => x _ _ (Heap.get?_push_of_some _ e)
  have none3 : ∀ (RO : Obj) (q : Addr), Heap.get? (h₃.push RO) q = none → h₃.get? q = none := fun RO q hq => by
    cases e3 : h₃.get? q with
    | none => rfl
    | some o3 => rw [Heap.get?_push_of_some _ e3] at hq; cases hq
  replace n1 := none3 _ _ n1
  replace n2 := none3 _ _ n2
  replace n3 := none3 _ _ n3
  replace n4 := none3 _ _ n4
  clear none3 x
  have hc3' := (N _ (.tail _ (.head _))).1
  have fresh3 : ∀ q, h₃.get? q = none → s.heap.get? q = none ∧ q ≠ L := fun q hq => by
    refine ⟨?_, fun e => ?_⟩
    · cases e : s.heap.get? q with
      | none => rfl
      | some o => rw [F.keep _ _ e] at hq; cases hq
    · obtain ⟨oL, _, _, hoL, _⟩ := F.ns
      rw [e, hoL] at hq; cases hq
  have F := F.keeps x34
  have N := N.grown x34
  have fresh4 : ∀ q, h₄.get? q = none → s.heap.get? q = none ∧ q ≠ L := fun q hq => by
    refine ⟨?_, fun e => ?_⟩
    · cases e : s.heap.get? q with
      | none => rfl
      | some o => rw [F.keep _ _ e] at hq; cases hq
    · obtain ⟨oL, _, _, hoL, _⟩ := F.ns
      rw [e, hoL] at hq; cases hq
  have new_ne : ∀ q c o, h₃.get? q = none → h₃.get? c = some o → q ≠ c := fun q c o hq hc e => by rw [e, hc] at hq; cases hq
  obtain ⟨oJ, hoJ, hJ2⟩ := hJ
  obtain ⟨oI, hoI, hI2⟩ := hI3
  have ZR : ZipR z TI TO i1 J I := ⟨d1, d2, d3, (new_ne _ _ _ n1 hoJ).symm, d4, d5, new_ne _ _ _ n2 hoJ, d6, new_ne _ _ _ n3 hoJ, new_ne _ _ _ n4 hoJ, (new_ne _ _ _ n1 hoI).symm, (new_ne _ _ _ n3 hoI).symm, (new_ne _ _ _ n4 hoI).symm, hIne.symm⟩
  refine wpAny_pyIter_zip z1 ?_
  intro D C cells h₅ h₆ hD hC hDC x45 x56 hC5 hDl hns hX
  dsimp only at hD hC hDC x45 hDl
  rw [hX]
  have lt4 : ∀ q o, h₄.get? q = some o → D ≠ q ∧ C ≠ q := fun q o hq => ⟨fun e => (by rw [e, hq] at hD; cases hD), fun e => (by rw [e, hq] at hC; cases hC)⟩
  have x46 : ∀ b o, h₄.get? b = some o → h₆.get? b = some o := fun b o e => x56 _ _ (x45 _ _ e)
  have hz := lt4 _ _ z1
  have hTI := lt4 _ _ z2
  have hTO := lt4 _ _ z3
  have hi1 := lt4 _ _ z4
  have hJJ := lt4 _ _ (x34 _ _ hoJ)
  have hII := lt4 _ _ (x34 _ _ hoI)
  have hCL : C ≠ L := (fresh4 _ hC).2
  have hw : ∀ q ∈ D :: [z, TO, i1, J, C], s.heap.get? q = none ∧ q ≠ L := by
    exact allC (fresh4 _ hD) (allC (fresh3 _ n1) (allC (fresh3 _ n3) (allC (fresh3 _ n4) (allC ⟨(N _ (.head _)).2.2, (N _ (.head _)).2.1⟩ (allC (fresh4 _ hC) allN)))))
  have hcell : L + 1 ∉ D :: [z, TO, i1, J, C] := by
    have hc3 := lt4 _ _ (N _ (.tail _ (.head _))).1
    have e1 := new_ne _ _ _ n1 hc3'
    have e2 := new_ne _ _ _ n3 hc3'
    have e3 := new_ne _ _ _ n4 hc3'
    exact ninC hc3.1.symm (ninC e1.symm (ninC e2.symm (ninC e3.symm (ninC hJ1.symm (ninC hc3.2.symm ninN)))))
  refine ⟨fun Q E' hq => wpAny_pyIter_zip (x46 _ _ z1) hq, ?_⟩
  refine compLoop3 (n := 2) (fun tk => 0 < tk) (ZSt z TI TO i1 J I #[e 0, e 1, e 2] 2 C) (fun i h => ∃ m t, h.Ns C m ∧ m "elem" = (#[e 0, e 1, e 2] : Array Value)[i]? ∧ ((Str.ofString "i") ≠ (Str.ofString "elem") → m "i" = some (.int i t))) (fun h => h.IsListIter J I 2 ∧ ∃ m, h.Ns C m)
    [z, TI, TO, i1, J, I, C] [z, TO, i1, J, C] (fun i v os => ∃ T t, v = .ref T ∧ os = [(T, tupO [.ref (kk i), .int i t, e i])]) zst_frame zst_live ?t1 ?t2 ?t3 ?t4 ?t5 ?t6 ?t7 ?t8 (by decide)
  case t1 =>
    intro i s' hi hst
    exact zip_turn (cenv := compEnvC _ _ C _) hh ZR (ninC hz.2 (ninC hTI.2 (ninC hTO.2 (ninC hi1.2 (ninC hJJ.2 (ninC hII.2 ninN)))))) rfl rfl (by rfl) (by simp) hi hst
  case t2 =>
    intro s' hst
    exact zip_done hh ZR (ninC hz.2 (ninC hTI.2 (ninC hTO.2 (ninC hi1.2 (ninC hJJ.2 (ninC hII.2 ninN)))))) hst
  case t4 => exact ninC hz.1 (ninC hTI.1 (ninC hTO.1 (ninC hi1.1 (ninC hJJ.1 (ninC hII.1 (ninC hDC ninN))))))
  case t5 => exact ninC hz.1 (ninC hTO.1 (ninC hi1.1 (ninC hJJ.1 (ninC hDC ninN))))
  case t6 => exact ⟨x46 _ _ z1, x46 _ _ z2, ⟨_, _, x46 _ _ z3⟩, x46 _ _ z4, ⟨oJ, x46 _ _ (x34 _ _ hoJ), hJ2⟩, ⟨oI, x46 _ _ (x34 _ _ hoI), hI2⟩, _, hns⟩
  case t7 => exact ⟨0, x56 _ _ hDl⟩
  case t3 =>
    intro i s' hi htk hst hB hx
    obtain ⟨m2, t2, hn2, hm1, hm2⟩ := hB
    have hm2 := hm2 (by decide)
    have hel : m2 "elem" = some (e i) := by
      rw [hm1]
      have : i = 0 ∨ i = 1 := by (first | lia | omega)
      rcases this with rfl | rfl <;> rfl
    have hc1 : s'.heap.get? (L + 1) = some o := hx _ _ hcell (x46 _ _ (N _ (.tail _ (.head _))).1)
    have hxs : Ext s.heap s'.heap := fun b ob eb => hx _ _ (fun q => by rw [(hw b q).1] at eb; cases eb) (x46 _ _ (F.keep _ _ eb))
    have hf' : FnAt f s'.heap := let ⟨q1, q2, q3, q4, q5⟩ := hf; ⟨q1, q2, q3, q4, hxs _ _ q5⟩
    refine Tuple_ (args_cons (Call_ (nmF (c := L + 1) (o := o) rfl hc1 ho (callWith_F hf' (args_cons (nmL hn2 hel (args_nil ⟨hf', ?_⟩)))))))
    refine use (hkey _ _ i (by (first | lia | omega)) hh (by show A.depth + 1 ≤ _; (first | lia | omega)) hxs) ?_
    rintro v os h₈ tk₈ x8 made ⟨rfl, rfl⟩
    refine args_cons (nmL (hn2.keeps x8) hm2 (args_cons (nmL (hn2.keeps x8) hel (args_nil ?_))))
    refine wpAny_newTuple ?_
    refine ⟨_, _, [(h₈.objs.size, tupO [.ref (kk i), .int i t2, e i])], rfl, fun b ob eb => Heap.get?_push_of_some _ (x8 _ _ eb), fun p hp => ?_, ⟨_, t2, rfl, rfl⟩⟩
    rw [List.mem_singleton.mp hp]
    refine ⟨?_, Heap.get?_push_size _ rfl⟩
    cases eb : s'.heap.get? h₈.objs.size with
    | none => rfl
    | some ob => have := x8 _ _ eb; rw [new_none] at this; cases this
  case t8 =>
    intro h₇ tk₇ zs hzl hzF hacc hfin hzo hx7
    obtain ⟨y0, y1, rfl⟩ : ∃ y0 y1, zs = [y0, y1] := len2 hzl
    obtain ⟨T0, t0, hv0, ho0⟩ := hzF 0 y0 rfl
    obtain ⟨T1, t1, hv1, ho1⟩ := hzF 1 y1 rfl
    obtain ⟨a0, b0', c0, d0⟩ := hzo y0 (.head _) (T0, _) (by rw [ho0]; exact .head _)
    obtain ⟨a1, b1', c1, d1'⟩ := hzo y1 (.tail _ (.head _)) (T1, _) (by rw [ho1]; exact .head _)
    obtain ⟨kD, hkD⟩ := hacc
    obtain ⟨⟨oJ', hoJ', hcJ', hdJ'⟩, mC, hmC⟩ := hfin
    have F7 := (show Fr s.heap L h₇ _ from ⟨F.ns.at' fun o e => hx7 _ _ (fun q => (hw L q).2 rfl) (x46 _ _ e), fun b ob eb => hx7 _ _ (fun q => by rw [(hw b q).1] at eb; cases eb) (x46 _ _ (F.keep _ _ eb)), F.above⟩)
    have fresh6 : ∀ q, h₆.get? q = none → s.heap.get? q = none ∧ q ≠ L := fun q hq => by
      have : h₄.get? q = none := by
        cases e4 : h₄.get? q with
        | none => rfl
        | some o4 => rw [x46 _ _ e4] at hq; cases hq
      exact fresh4 _ this
    have N7 : News s.heap L h₇ [(D, listO [.ref T0, .ref T1] kD), (T0, tupO [.ref (kk 0), .int 0 t0, e 0]), (T1, tupO [.ref (kk 1), .int 1 t1, e 1]), (J, oJ'), (L + 1, o)] := by
      rw [List.map_cons, List.map_cons, hv0, hv1] at hkD
      exact newsC ⟨hkD, (hw D (.head _)).2, (hw D (.head _)).1⟩ (newsC ⟨d0, (fresh6 _ c0).2, (fresh6 _ c0).1⟩ (newsC ⟨d1', (fresh6 _ c1).2, (fresh6 _ c1).1⟩
        (newsC ⟨hoJ', (hw J (.tail _ (.tail _ (.tail _ (.tail _ (.head _)))))).2, (hw J (.tail _ (.tail _ (.tail _ (.tail _ (.head _)))))).1⟩ (newsC ⟨hx7 _ _ hcell (x46 _ _ (N _ (.tail _ (.head _))).1), (N _ (.tail _ (.head _))).2⟩ News.nil))))
    have hDT0 : D ≠ T0 := Ne.symm a0
    have hDT1 : D ≠ T1 := Ne.symm a1
    have hne : T0 ≠ J ∧ T1 ≠ J ∧ T0 ≠ C ∧ T1 ≠ C ∧ D ≠ J := by
      simp only [List.mem_cons, List.not_mem_nil, or_false, not_or] at b0' b1'
      exact ⟨b0'.2.2.2.1, b1'.2.2.2.1, b0'.2.2.2.2, b1'.2.2.2.2, hJJ.1⟩
    have hL1 : L + 1 ≠ C ∧ L + 1 ≠ D := by
      simp only [List.mem_cons, List.not_mem_nil, or_false, not_or] at hcell
      exact ⟨hcell.2.2.2.2.2, hcell.1⟩
    have hJC : J ≠ C := Ne.symm hJJ.2
    refine ⟨rfl, ?_⟩
    have hCn : ∀ p ∈ [(D, listO [.ref T0, .ref T1] kD), (T0, tupO [.ref (kk 0), .int 0 t0, e 0]), (T1, tupO [.ref (kk 1), .int 1 t1, e 1]), (J, oJ'), (L + 1, o)], p.1 ≠ C := allC hDC (allC hne.2.2.1 (allC hne.2.2.2.1 (allC hJC (allC hL1.1 allN))))
    refine wpAny_mono (stTo (s := { s with heap := h₇, toks := _ }) F7 N7 ⟨mC, hmC⟩ hCL (hw C (by simp)).1 hCn rfl rfl) ?_ (fun _ _ e => e)
    rintro - s₈ ⟨h₈, rfl, hm8, hk8⟩
    obtain ⟨m8, hm8⟩ := hm8
    refine ⟨m8, hm8, fun h₉ hk9 => ?_⟩
    obtain ⟨F, N⟩ := hk8 h₉ hk9
    clear hk8 hk9 hCn F7 N7 hw hcell fresh3 fresh4 fresh6 hkD hzo hzF hx7 x46 x45 x56 x34 lt4 hz hTI hTO hi1 new_ne ZR hII z1 z2 z3 z4 n1 n2 n3 n4 d1 d2 d3 d4 d5 d6 hns hX hDl hD hC hC5
    obtain ⟨m₂, Fb, e1, e2, e3⟩ : ∃ m₂, Fr s.heap L h₉ m₂ ∧ m₂ "n" = some (.int 2 t) ∧ m₂ "it" = some (.ref J) ∧ m₂ "result" = some (.ref D) := ⟨_, F, rfl, rfl, rfl⟩
    clear F hm8
    have F := Fb
    clear Fb
    dsimp only
    have hDne : ∀ p ∈ [(T0, tupO [.ref (kk 0), .int 0 t0, e 0]), (T1, tupO [.ref (kk 1), .int 1 t1, e 1]), (J, oJ'), (L + 1, o)], p.1 ≠ D := allC a0 (allC a1 (allC hne.2.2.2.2.symm (allC hL1.2 allN)))
    -- not result
    (refine wpAny_execs_cons ?_; with_reducible refine wpAny_If ?_)
    refine wpAny_isTrue_Not (wpAny_isTrue_value (nameX_L F e3 (wpAny_truthy_list (N.isList (.head _)) (by simp) ?_)))
    rw [if_neg (by simp)]
    refine wpAny_execs_nil ?_
    have hD0 : s.heap.get? D = none := (N _ (.head _)).2.2
    have xh : ∀ h', Ext s.heap h' → Ext s.heap (h'.hide D) := fun h' x c oc ec => (Heap.hide_ne _ (fun q => by rw [q, hD0] at ec; cases ec)).trans (x _ _ ec)
    have KE : ∀ h', Ext s.heap h' → ∀ i, i < 3 → KeyIs h' (kk i) (a i) (b i) := fun h' x i hi => (K i hi).keeps x
    -- _heapify_max
    have E0 : EntryIs (h₉.hide D) (.ref T0) (a 0) (b 0) 0 := ⟨T0, kk 0, t0, [e 0], rfl, ⟨_, (Heap.hide_ne _ a0).trans (N _ (.tail _ (.head _))).1, rfl, _, rfl⟩, KE _ (xh _ F.keep) 0 (by decide)⟩
    have E1 : EntryIs (h₉.hide D) (.ref T1) (a 1) (b 1) 1 := ⟨T1, kk 1, t1, [e 1], rfl, ⟨_, (Heap.hide_ne _ a1).trans (N _ (.tail _ (.tail _ (.head _)))).1, rfl, _, rfl⟩, KE _ (xh _ F.keep) 1 (by decide)⟩
    (refine wpAny_execs_cons ?_; with_reducible refine' wpAny_Expr_any ?_ ?i1x88 ?i2x88; (case i1x88 => with_unfolding_all exact rfl); (case i2x88 => with_unfolding_all exact rfl))
    refine Call_ (nmG G F.keep (at_heapify w) (callWith_K (G.ext F.keep).k (keep_heapify w) (args_cons (nameX_L F e3 (args_nil ⟨(G.ext F.keep).k, ?_⟩)))))
    refine useD F N (.head hDne) (sp_heapify (B := A.units + 30) (n := kD) (p := .ref T0) (q := .ref T1) (c := EE a b 1 0) (s := { s with heap := h₉, toks := _ }) (G.ext (xh _ F.keep)) hh (by show A.depth + 1 + 2 < _; (first | lia | omega)) (by show A.units + 3 + 9 ≤ _; (first | lia | omega)) (N _ (.head _)).1
      (fun A' s' hA x => entryLt (E1.keeps x) (E0.keeps x) (by (first | lia | omega)) (by decide))) ?_
    rintro v os h₁₀ tk₁₀ ⟨k₁₀, rfl⟩ hk
    obtain ⟨F, N⟩ := hk _ (.head _)
    clear hk E0 E1
    dsimp only at F N ⊢
    -- the two entries, in the heap's order
    have hTwo : TwoN s.heap L h₁₀ D k₁₀ kk e [(J, oJ'), (L + 1, o)] (FirstTwo a b) := by
      clear F
      cases hb : EE a b 1 0 with
      | true =>
        rw [hb, if_pos rfl] at N
        exact ⟨0, 1, T0, T1, t0, t1, ⟨.inl ⟨hb, rfl, rfl⟩, by decide, by decide⟩, hDT0, hDT1, N⟩
      | false =>
        rw [hb, if_neg Bool.false_ne_true] at N
        exact ⟨1, 0, T1, T0, t1, t0, ⟨.inr ⟨hb, rfl, rfl⟩, by decide, by decide⟩, hDT1, hDT0, swap23 N⟩
    clear N
    obtain ⟨x, y, X, Y, tx, ty, ⟨hxy, hx2, hy2⟩, eL1, eL2, N⟩ := hTwo
    have eL : D ≠ X ∧ D ≠ Y := ⟨eL1, eL2⟩
    clear eL1 eL2
    clear hDne hDT0 hDT1 a0 a1 hv0 hv1 ho0 ho1 b0' b1' c0 c1 d0 d1'
    -- top
    (refine wpAny_execs_cons ?_; with_reducible refine wpAny_Assign_Name ?_ ?as2x89; (case as2x89 => with_unfolding_all exact rfl))
    refine Subscript_ (Subscript_ (nameX_L F e3 (wpAny_Constant_int ?_)))
    refine item_listL (N.isList (.head _)) (by decide) (by decide) (x := .ref X) rfl ?_
    refine wpAny_Constant_int (item_tupleT (l := [.ref (kk x), .int x tx, e x]) (j := 0) ⟨_, (N _ (.tail _ (.head _))).1, rfl, _, rfl⟩ (by decide) (by decide) rfl rfl ?_)
    refine storeX_L F N (fun h₁₁ F N => ?_)
    dsimp only at F N ⊢
    (refine wpAny_execs_cons ?_; with_reducible refine wpAny_Assign_Name ?_ ?as2x90; (case as2x90 => with_unfolding_all exact rfl))
    refine nameX_L F (by exact e1) ?_
    refine storeX_L F N (fun h₁₂ F N => ?_)
    dsimp only at F N ⊢
    (refine wpAny_execs_cons ?_; with_reducible refine wpAny_Assign_Name ?_ ?as2x91; (case as2x91 => with_unfolding_all exact rfl))
    refine nmG G F.keep (at_heaprep w) ?_
    refine storeX_L F N (fun h₁₃ F N => ?_)
    dsimp only at F N ⊢
    obtain ⟨m₃, Fb, g1, ⟨g2t, g2⟩, g3, g4, g5⟩ : ∃ m₃, Fr s.heap L h₁₃ m₃ ∧ m₃ "top" = some (.ref (kk x)) ∧ (∃ u, m₃ "order" = some (.int 2 u)) ∧ m₃ "_heapreplace" = some (.ref 131) ∧ m₃ "it" = some (.ref J) ∧ m₃ "result" = some (.ref D) := ⟨_, F, rfl, ⟨_, rfl⟩, rfl, e2, e3⟩
    clear F e1 e2 e3
    have F := Fb
    clear Fb
    -- the third
    refine wpAny_execs_cons ?_
    refine wpAny_For ?_
    refine nameX_L F g4 ?_
    refine wpAny_pyIter_listiter (l := I) (i := 2) ⟨oJ', (N _ (.tail _ (.tail _ (.tail _ (.head _))))).1, hcJ', hdJ'⟩ ?_
    refine forLoopK (NsI s L D J I X Y x y tx ty k₁₀ kk e a b oJ' o) ?_ 1 (.one h₁₃ _ m₃ _ F g5 g1 g2 g3 N)
    clear F N g1 g2 g3 g4 g5
    rintro P0 X0 k s' hI hP0 hP1 hX0
    have hDJ : D ≠ J := hne.2.2.2.2
    rcases hI with ⟨h', tk', m', g2t, F, g5, g1, g2, g3, N⟩ | ⟨h', tk', m', n', oJ3, F, g5, hit, i, j, P, R, tp, tr, hG, hDP, hDR, N⟩
    · have hJm := N _ (.tail _ (.tail _ (.tail _ (.head _))))
      have hLJ : L ≠ J := Ne.symm hJm.2.1
      refine (Walks.list (prog := prog) (w := w) (A := A.deeper _) hh J I hIne.symm #[e 0, e 1, e 2]).item 2 _ _ _ (by simp) ⟨⟨oJ', hJm.1, hcJ', hdJ'⟩, hl.at fun o eo => F.keep _ _ eo⟩ fun v h₁₄ tk₁₄ hv hst₁ hk₁ => ?_
      have hv : v = e 2 := by simpa using hv.symm
      have hk₁ : ∀ c oc, c ≠ J → h'.get? c = some oc → h₁₄.get? c = some oc := fun c oc hc ec => hk₁ c oc (by simpa using hc) ec
      have F : Fr s.heap L h₁₄ m' := ⟨F.ns.at' fun o eo => hk₁ _ o hLJ eo, fun c oc ec => hk₁ _ _ (fun q => by rw [q, hJm.2.2] at ec; cases ec) (F.keep _ _ ec), F.above⟩
      obtain ⟨oJ3, hoJ3, hcJ3, hdJ3⟩ := hst₁.1
      have cls_ne : ∀ {q : Addr} {oq : Obj}, h'.get? q = some oq → oq.cls ≠ .type "list_iterator" → q ≠ J := fun hq hc e => by
        rw [e, hJm.1] at hq
        exact hc (hcJ' ▸ congrArg Obj.cls (Option.some.inj hq).symm)
      have hneJ : ∀ p ∈ [(D, listO [.ref X, .ref Y] k₁₀), (X, tupO [.ref (kk x), .int x tx, e x]), (Y, tupO [.ref (kk y), .int y ty, e y]), (L + 1, o)], p.1 ≠ J := allC (cls_ne (N _ (.head _)).1 lst_no) (allC (cls_ne (N _ (.tail _ (.head _))).1 tup_no) (allC (cls_ne (N _ (.tail _ (.tail _ (.head _)))).1 tup_no) (allC (Ne.symm hJ1) allN)))
      have up : ∀ {q : Addr} {oq : Obj}, q ≠ J → (h'.get? q = some oq ∧ q ≠ L ∧ s.heap.get? q = none) → (h₁₄.get? q = some oq ∧ q ≠ L ∧ s.heap.get? q = none) := fun hq z => ⟨hk₁ _ _ hq z.1, z.2⟩
      have N : News s.heap L h₁₄ [(D, listO [.ref X, .ref Y] k₁₀), (X, tupO [.ref (kk x), .int x tx, e x]), (Y, tupO [.ref (kk y), .int y ty, e y]), (J, oJ3), (L + 1, o)] :=
        newsC (up (hneJ _ (.head _)) (N _ (.head _))) (newsC (up (hneJ _ (.tail _ (.head _))) (N _ (.tail _ (.head _)))) (newsC (up (hneJ _ (.tail _ (.tail _ (.head _)))) (N _ (.tail _ (.tail _ (.head _))))) (newsC ⟨hoJ3, hJm.2⟩
          (newsC (up (Ne.symm hJ1) (N _ (.tail _ (.tail _ (.tail _ (.tail _ (.head _))))))) News.nil))))
      rw [hv]
      refine hP1 _ _ ?_
      refine assign_Name (storeX_L F N (fun h₁₅ F N => ?_))
      dsimp only at F N ⊢
      have hf' : FnAt f h₁₅ := let ⟨q1, q2, q3, q4, q5⟩ := hf; ⟨q1, q2, q3, q4, F.keep _ _ q5⟩
      (refine wpAny_execs_cons ?_; with_reducible refine wpAny_Assign_Name ?_ ?as2x92; (case as2x92 => with_unfolding_all exact rfl))
      refine Call_ (nameX_C N rfl (.tail _ (.tail _ (.tail _ (.tail _ (.head _))))) ho (callWith_F hf' (args_cons (nameX_L F rfl (args_nil ⟨hf', ?_⟩)))))
      refine useN F N (hkey _ _ 2 (by decide) hh (by show A.depth + 1 ≤ _; (first | lia | omega)) F.keep) ?_
      rintro v2 os h₁₆ tk₁₆ x16 F N ⟨rfl, rfl⟩
      refine storeX_L F N (fun h₁₇ F N => ?_)
      dsimp only at F N ⊢
      rw [List.nil_append] at N
      have hz : A.units + 3 < cLine := by (first | lia | omega)
      (refine wpAny_execs_cons ?_; with_reducible refine wpAny_If ?_)
      refine wpAny_isTrue_Compare1 (nameX_L F rfl (nameX_L F (by exact g1) (key_lt (KE _ F.keep 2 (by decide)) (KE _ F.keep x (by (first | lia | omega))) ?hz prog w _ _ (wpAny_truthy_bool ?_))))
      case hz => exact hz
      rw [kLt_ee a b hx2]
      have g5' := g5
      cases h2x : EE a b 2 x with
      | false =>
        rw [if_neg Bool.false_ne_true]
        refine wpAny_execs_nil (wpAny_execs_nil (hX0 0 _ (by decide) (.zero h₁₇ _ _ k₁₀ oJ3 F g5' ⟨oJ3, (N _ (.tail _ (.tail _ (.tail _ (.head _))))).1, hcJ3, hdJ3⟩ ⟨x, y, X, Y, tx, ty, good_stay a b hxy h2x, eL.1, eL.2, N⟩)))
      | true =>
        rw [if_pos rfl]
        (refine wpAny_execs_cons ?_; with_reducible refine' wpAny_Expr_any ?_ ?i1x94 ?i2x94; (case i1x94 => with_unfolding_all exact rfl); (case i2x94 => with_unfolding_all exact rfl))
        refine Call_ (nameX_L F (by exact g3) (callWith_K (G.ext F.keep).k (keep_heaprep w) (args_cons (nameX_L F (by exact g5') (args_cons (Tuple_ (args_cons (nameX_L F rfl (args_cons (nameX_L F (by exact g2) (args_cons (nameX_L F rfl (args_nil ?_)))))))))))))
        have hDl := Heap.lt_size (N _ (.head _)).1
        refine newTuple_N F N (fun h₁₈ F N => ?_)
        refine args_nil ⟨(G.ext F.keep).k, ?_⟩
        have hZD : (h₁₇.objs.size : Addr) ≠ D := Nat.ne_of_gt hDl
        dsimp only at N ⊢
        generalize h₁₇.objs.size = Z at N hZD ⊢
        have EZ : EntryIs (h₁₈.hide D) (.ref Z) (a 2) (b 2) 2 := ⟨Z, kk 2, g2t, [e 2], rfl, ⟨_, (Heap.hide_ne _ hZD).trans (N _ (.head _)).1, rfl, _, rfl⟩, KE _ (xh _ F.keep) 2 (by decide)⟩
        have EY : EntryIs (h₁₈.hide D) (.ref Y) (a y) (b y) y := ⟨Y, kk y, ty, [e y], rfl, ⟨_, (Heap.hide_ne _ (Ne.symm eL.2)).trans (N _ (.tail _ (.tail _ (.tail _ (.head _))))).1, rfl, _, rfl⟩, KE _ (xh _ F.keep) y (by (first | lia | omega))⟩
        have hDne2 : ∀ p ∈ [(X, tupO [.ref (kk x), .int x tx, e x]), (Y, tupO [.ref (kk y), .int y ty, e y]), (J, oJ3), (L + 1, o)], p.1 ≠ D := allC (Ne.symm eL.1) (allC (Ne.symm eL.2) (allC (Ne.symm hDJ) (allC hL1.2 allN)))
        refine useD F N (.tail hZD (.head hDne2)) (sp_heapreplace (B := A.units + 30) (n := k₁₀) (x0 := .ref X) (p := .ref Z) (q := .ref Y) (c := EE a b y 2) (s := { s with heap := h₁₈, toks := _ }) (G.ext (xh _ F.keep)) (by show A.depth + 1 + 2 < _; (first | lia | omega)) (by show A.units + 3 + 9 ≤ _; (first | lia | omega)) (N _ (.tail _ (.head _))).1
          (fun A' s' hA x => entryLt (EY.keeps x) (EZ.keeps x) (by (first | lia | omega)) (by (first | lia | omega)))) ?_
        rintro v4 os h₁₉ tk₁₉ ⟨k₁₉, rfl⟩ hk
        obtain ⟨F, N⟩ := hk _ (.head _)
        clear hk EZ EY hDne2
        dsimp only at F N ⊢
        have hTwo : TwoN s.heap L h₁₉ D k₁₉ kk e [(J, oJ3), (L + 1, o)] (Good a b) := by
          clear F
          have hg := good_new a b hxy h2x
          cases hb : EE a b y 2 with
          | true =>
            rw [hb, if_pos rfl] at N
            rw [hb, if_pos rfl, if_pos rfl] at hg
            refine ⟨2, y, Z, Y, g2t, ty, hg, Ne.symm hZD, eL.2, newsC (N _ (.tail _ (.head _))) (newsC (N _ (.head _)) (newsC (N _ (.tail _ (.tail _ (.tail _ (.head _))))) fun p hp => N p (.tail _ (.tail _ (.tail _ (.tail _ hp))))))⟩
          | false =>
            rw [hb, if_neg Bool.false_ne_true] at N
            rw [hb, if_neg Bool.false_ne_true, if_neg Bool.false_ne_true] at hg
            refine ⟨y, 2, Y, Z, ty, g2t, hg, eL.2, Ne.symm hZD, newsC (N _ (.tail _ (.head _))) (newsC (N _ (.tail _ (.tail _ (.tail _ (.head _))))) (newsC (N _ (.head _)) fun p hp => N p (.tail _ (.tail _ (.tail _ (.tail _ hp))))))⟩
        clear N
        obtain ⟨i, j, P, R, tp, tr, hG, hDP, hDR, N⟩ := hTwo
        refine wpAny_execs_cons ?_
        refine Assign_Tuple ?_ (by with_unfolding_all exact rfl) (by with_unfolding_all exact rfl)
        refine Subscript_ (nameX_L F (by exact g5') (wpAny_Constant_int ?_))
        refine item_listL (N.isList (.head _)) (by decide) (by decide) (x := .ref P) rfl ?_
        refine assign3 hh ⟨_, (N _ (.tail _ (.head _))).1, rfl, _, rfl⟩ rfl rfl rfl rfl F.ns (fun h₂₀ hn hk20 => ?_)
        have F2 : Fr s.heap L h₂₀ _ := ⟨hn, fun c oc ec => hk20 _ _ (fun q => by
          obtain ⟨oL, _, _, hoL, _⟩ := F.ns
          have : L = c := q.symm
          exact absurd (Nat.lt_of_lt_of_le (Heap.lt_size ec) F.above) (by rw [← this]; exact Nat.lt_irrefl _)) (F.keep _ _ ec), F.above⟩
        have N2 : News s.heap L h₂₀ _ := fun p hp => ⟨hk20 _ _ (N p hp).2.1 (N p hp).1, (N p hp).2⟩
        clear F N hn hk20
        (refine wpAny_execs_cons ?_; with_reducible refine wpAny_AugAssign_Name ?_)
        refine wpAny_loadName_local rfl rfl F2.ns (by exact g2) (wpAny_Constant_int (iadd_int ?_))
        refine storeX_L F2 N2 (fun h₂₁ F N => ?_)
        refine wpAny_execs_nil (wpAny_execs_nil (hX0 0 _ (by decide) (.zero h₂₁ _ _ k₁₉ oJ3 F g5' ⟨oJ3, (N _ (.tail _ (.tail _ (.tail _ (.head _))))).1, hcJ3, hdJ3⟩ ⟨i, j, P, R, tp, tr, hG, hDP, hDR, N⟩)))
    · have hJm := N _ (.tail _ (.tail _ (.tail _ (.head _))))
      have hLJ : L ≠ J := Ne.symm hJm.2.1
      refine (Walks.list (prog := prog) (w := w) (A := A.deeper _) hh J I hIne.symm #[e 0, e 1, e 2]).done _ _ _ ⟨hit, hl.at fun o eo => F.keep _ _ eo⟩ fun h₁₄ tk₁₄ hk₁ => ?_
      have hk₁ : ∀ c oc, c ≠ J → h'.get? c = some oc → h₁₄.get? c = some oc := fun c oc hc ec => hk₁ c oc (by simpa using hc) ec
      have F : Fr s.heap L h₁₄ m' := ⟨F.ns.at' fun o eo => hk₁ _ o hLJ eo, fun c oc ec => hk₁ _ _ (fun q => by rw [q, hJm.2.2] at ec; cases ec) (F.keep _ _ ec), F.above⟩
      obtain ⟨oJ4, hoJ4, hcJ4, -⟩ := hit
      have cls_ne : ∀ {q : Addr} {oq : Obj}, h'.get? q = some oq → oq.cls ≠ .type "list_iterator" → q ≠ J := fun hq hc e => by
        rw [e, hoJ4] at hq
        exact hc (hcJ4 ▸ congrArg Obj.cls (Option.some.inj hq).symm)
      have up : ∀ {q : Addr} {oq : Obj}, oq.cls ≠ .type "list_iterator" → (h'.get? q = some oq ∧ q ≠ L ∧ s.heap.get? q = none) → (h₁₄.get? q = some oq ∧ q ≠ L ∧ s.heap.get? q = none) := fun hc z => ⟨hk₁ _ _ (cls_ne z.1 hc) z.1, z.2⟩
      have N : News s.heap L h₁₄ [(D, listO [.ref P, .ref R] n'), (P, tupO [.ref (kk i), .int i tp, e i]), (R, tupO [.ref (kk j), .int j tr, e j])] :=
        newsC (up lst_no (N _ (.head _))) (newsC (up tup_no (N _ (.tail _ (.head _)))) (newsC (up tup_no (N _ (.tail _ (.tail _ (.head _))))) News.nil))
      refine hP0 _ ?_
      -- result.sort()
      (refine wpAny_execs_cons ?_; with_reducible refine' wpAny_Expr_any ?_ ?i1x96 ?i2x96; (case i1x96 => with_unfolding_all exact rfl); (case i2x96 => with_unfolding_all exact rfl))
      refine MethodCall_ (nameX_L F g5 (kf_method (its := #[.ref P, .ref R]) (n := n') N (.head _) PySem.F.slot_list_sort PySem.F.type_list_sort ?_))
      refine callWith_method0 ?_
      have hUD : UpdF D (W.listOf #[.ref P, .ref R] n') [(D, listO [.ref P, .ref R] n'), (P, tupO [.ref (kk i), .int i tp, e i]), (R, tupO [.ref (kk j), .int j tr, e j])] (fun o' => [(D, o'), (P, tupO [.ref (kk i), .int i tp, e i]), (R, tupO [.ref (kk j), .int j tr, e j])]) := .head (allC (Ne.symm hDP) (allC (Ne.symm hDR) allN))
      refine kat_lsort (vs := [.ref P, .ref R]) F N hUD rfl (by simp) (by simp) (fun ep h₁₅ F N => ?_)
      have EP : EntryIs h₁₅ (.ref P) (a i) (b i) i := ⟨P, kk i, tp, [e i], rfl, ⟨_, (N _ (.tail _ (.head _))).1, rfl, _, rfl⟩, KE _ F.keep i hG.2.1⟩
      have ER : EntryIs h₁₅ (.ref R) (a j) (b j) j := ⟨R, kk j, tr, [e j], rfl, ⟨_, (N _ (.tail _ (.tail _ (.head _)))).1, rfl, _, rfl⟩, KE _ F.keep j hG.2.2.1⟩
      refine kind_entries (P := fun _ => True) (fun v hv => ?_) (by simp) ?_
      · exact allC (P := fun v => ∃ a b i, EntryIs h₁₅ v a b i) ⟨_, _, _, EP⟩ (allC ⟨_, _, _, ER⟩ allN) v hv
      refine kasWp_run (n := 2) (lt := fun i' j' => EE a b (if i' = 0 then i else j) (if j' = 0 then i else j)) (fun i' j' hi' hj' hij C hC => ?_) _ ok2 ?_
      · have : (i' = 0 ∧ j' = 1) ∨ (i' = 1 ∧ j' = 0) := by (first | lia | omega)
        rcases this with ⟨rfl, rfl⟩ | ⟨rfl, rfl⟩
        · exact ask_entry EP ER (by show A.units + 3 + 1 + 1 < _; (first | lia | omega)) (by have := hG.1; (first | lia | omega)) hC
        · exact ask_entry ER EP (by show A.units + 3 + 1 + 1 < _; (first | lia | omega)) (by have := hG.1; (first | lia | omega)) hC
      have er : runB (fun i' j' => EE a b (if i' = 0 then i else j) (if j' = 0 then i else j)) (kas_sort [Value.ref P, .ref R].length) = if EE a b j i then #[1, 0] else #[0, 1] := run2 (lt := fun i' j' => EE a b (if i' = 0 then i else j) (if j' = 0 then i else j)) (by simpa using ee_flip a b hG.1)
      rw [er]
      refine ⟨_, _, F, N, .head (allC (Ne.symm hDP) (allC (Ne.symm hDR) allN)), fun h₁₆ cp F N => ?_⟩
      clear EP ER
      dsimp only at F N ⊢
      have hTwo : TwoN s.heap L h₁₆ D cp kk e [] (fun u v => (u, v) = pickE a b) := by
        clear F
        have hg := hG.2.2.2
        cases hb : EE a b j i with
        | true =>
          rw [hb, if_pos rfl] at hg
          simp only [hb, Nat.one_ne_zero, if_false, if_true] at N
          refine ⟨j, i, R, P, tr, tp, hg, hDR, hDP, swap23 N⟩
        | false =>
          rw [hb, if_neg Bool.false_ne_true] at hg
          simp only [hb, Nat.one_ne_zero, if_false, if_true, Bool.false_eq_true] at N
          exact ⟨i, j, P, R, tp, tr, hg, hDP, hDR, N⟩
      clear N
      obtain ⟨u, v, U, V, tu, tv, huv, hDU, hDV, N⟩ := hTwo
      (refine wpAny_execs_cons ?_; with_reducible refine wpAny_Return_some ?_)
      refine comp3 (cl := []) rfl rfl (newEnv_plain (by decide) rfl) (by decide) ?_
      refine nameX_L F g5 ?_
      refine wpAny_pyIter_list (N.isList (.head _)) ?_
      intro D' C' cells' h₁₇ h₁₈ hD' hC' hDC' x17 x18 hC17 hDl' hns' hX'
      dsimp only at hD' hC' x17 hDl'
      rw [hX']
      have hIt : (h₁₆.push { cls := .type "list_iterator", data := .fields #[.ref D, .int 0 0] }).get? h₁₆.objs.size = some { cls := .type "list_iterator", data := .fields #[.ref D, .int 0 0] } := Heap.get?_push_size _ rfl
      have up16 : ∀ c oc, h₁₆.get? c = some oc → (h₁₆.push { cls := .type "list_iterator", data := .fields #[.ref D, .int 0 0] }).get? c = some oc := fun c oc ec => Heap.get?_push_of_some _ ec
      have hlt : ∀ p ∈ [(D, listO [.ref U, .ref V] cp), (U, tupO [.ref (kk u), .int (u : Nat) tu, e u]), (V, tupO [.ref (kk v), .int (v : Nat) tv, e v])], h₁₆.objs.size ≠ p.1 ∧ D' ≠ p.1 ∧ C' ≠ p.1 := fun p hp => by
        have z := (N p hp).1
        refine ⟨Nat.ne_of_gt (Heap.lt_size z), fun q => ?_, fun q => ?_⟩
        · rw [q, up16 _ _ z] at hD'; cases hD'
        · rw [q, up16 _ _ z] at hC'; cases hC'
      have hID : D' ≠ h₁₆.objs.size ∧ C' ≠ h₁₆.objs.size := ⟨fun q => (by rw [q, hIt] at hD'; cases hD'), fun q => (by rw [q, hIt] at hC'; cases hC')⟩
      have lD := hlt _ (.head _)
      have lU := hlt _ (.tail _ (.head _))
      have lV := hlt _ (.tail _ (.tail _ (.head _)))
      have zD := (N _ (.head _)).1
      have zU := (N _ (.tail _ (.head _))).1
      have zV := (N _ (.tail _ (.tail _ (.head _)))).1
      have hI2n : h₁₆.get? h₁₆.objs.size = none := new_none _
      generalize h₁₆.objs.size = I2 at hIt lD lU lV hID hI2n ⊢
      generalize h₁₆.push { cls := .type "list_iterator", data := .fields #[.ref D, .int 0 0] } = h₁₆' at hIt up16 hD' hC' x17 ⊢
      have x68 : ∀ c oc, h₁₆'.get? c = some oc → h₁₈.get? c = some oc := fun c oc ec => x18 _ _ (x17 _ _ ec)
      have s18 : ∀ c oc, s.heap.get? c = some oc → h₁₈.get? c = some oc ∧ c ≠ D' ∧ c ≠ C' ∧ c ≠ I2 := fun c oc ec => by
        have e0 := F.keep _ _ ec
        have e1 := up16 _ _ e0
        refine ⟨x68 _ _ e1, fun q => ?_, fun q => ?_, fun q => ?_⟩
        · rw [q, hD'] at e1; cases e1
        · rw [q, hC'] at e1; cases e1
        · rw [q, hI2n] at e0; cases e0
      refine ⟨fun Q E' hq => wpAny_pyIter_listiter (l := D) (i := 0) ⟨_, x68 _ _ hIt, rfl, rfl⟩ hq, ?_⟩
      refine compLoop3 (n := 2) (fun tk => 0 < tk) (TSt I2 D U V C' #[.ref (kk u), .int u tu, e u] #[.ref (kk v), .int v tv, e v]) (fun i h => ∃ m, h.Ns C' m ∧ m "elem" = some (if i = 0 then e u else e v)) (fun h => ∃ m, h.Ns C' m) [I2, D, U, V, C'] [I2, C']
        (fun i y os => y = (if i = 0 then e u else e v) ∧ os = []) tst_frame tst_live ?t1 ?t2 ?t3 ?t4 ?t5 ?t6 ?t7 ?t8 (by decide)
      case t1 =>
        intro i s' hi hst
        exact tst_turn (cenv := compEnvC _ _ C' _) (x := if i = 0 then .ref (kk u) else .ref (kk v)) (y := if i = 0 then .int u tu else .int v tv) (z := if i = 0 then e u else e v) hh lD.1 (ninC hID.2 (ninC lD.2.2 (ninC lU.2.2 (ninC lV.2.2 ninN)))) (ninC lU.1 (ninC lV.1 ninN)) rfl rfl rfl (by rfl) hi (by
          have : i = 0 ∨ i = 1 := by (first | lia | omega)
          rcases this with rfl | rfl <;> rfl) hst
      case t2 =>
        intro s' hst
        exact tst_done hh lD.1 (ninC hID.2 (ninC lD.2.2 (ninC lU.2.2 (ninC lV.2.2 ninN)))) hst
      case t3 =>
        intro i s' hi htk hst ⟨m2, hn2, hm2⟩ hx
        exact nmL hn2 hm2 (after0 ⟨rfl, rfl⟩)
      case t4 => exact ninC hID.1 (ninC lD.2.1 (ninC lU.2.1 (ninC lV.2.1 (ninC hDC' ninN))))
      case t5 => exact ninC hID.1 (ninC hDC' ninN)
      case t6 => exact ⟨⟨_, x68 _ _ hIt, rfl, rfl⟩, ⟨_, x68 _ _ (up16 _ _ zD), rfl, _, rfl⟩, ⟨_, x68 _ _ (up16 _ _ zU), rfl, _, rfl⟩, ⟨_, x68 _ _ (up16 _ _ zV), rfl, _, rfl⟩, _, hns'⟩
      case t7 => exact ⟨0, x18 _ _ hDl'⟩
      case t8 =>
        intro h₁₉ tk₁₉ zs hzl hzF hacc hfin hzo hx19
        obtain ⟨y0, y1, rfl⟩ : ∃ y0 y1, zs = [y0, y1] := len2 hzl
        have hv0 := (hzF 0 y0 rfl).1
        have hv1 := (hzF 1 y1 rfl).1
        obtain ⟨kD', hkD'⟩ := hacc
        rw [List.map_cons, List.map_cons, hv0, hv1] at hkD'
        obtain ⟨mC', hmC'⟩ := hfin
        refine ⟨rfl, mC', hmC', fun h₂₀ hk20 => hKf _ _ ?_⟩
        have fin : (u, v) = (pick (eLt (a 1) (b 1) (a 0) (b 0) 1 0) (eLt (a 2) (b 2) (a 0) (b 0) 2 0) (eLt (a 2) (b 2) (a 1) (b 1) 2 1)) := huv
        rw [← fin]
        refine ⟨h₂₀, _, [(D', listO [e u, e v] kD')], rfl, fun c oc ec => ?_, fun p hp => ?_, ⟨D', kD', rfl, rfl⟩⟩
        · obtain ⟨q1, q2, q3, q4⟩ := s18 _ _ ec
          exact hk20 _ _ q3 (hx19 _ _ (by simp [q2, q3, q4]) q1)
        · rw [List.mem_singleton.mp hp]
          refine ⟨?_, hk20 _ _ hDC' hkD'⟩
          cases ec : s.heap.get? D' with
          | none => rfl
          | some oc => exact absurd rfl (s18 _ _ ec).2.1
end
end Mine
end
section
open PySem PySem.W PySem.Calls PyProof.Rows
set_option maxRecDepth 100000
set_option maxHeartbeats 4000000
namespace Mine
section
variable {prog : Program} {w : World} {A : Around} {s : Shared}
abbrev cellO (v : Option Value) : Obj := { cls := .type "cell", data := .cell v }
/-- a comprehension's frame with one cell of its own -/
theorem newEnv_one {scope : Scope} {env : Env} {cl : List (Str × Addr)} {x : Str} (h1 : ∀ n, cellsFrom n scope.names cl = (x, n) :: cl) (h2 : ∀ h : Heap, pushCells h scope.names = h.push (cellO none)) :
    NewEnv prog w A scope env cl (fun C cells h h' => ∃ c, cells = (x, c) :: cl ∧ h.get? c = none ∧ h'.get? c = some (cellO none) ∧ c ≠ C) := by
  intro s Q E h
  simp only [newFunctionEnv, Option.isSome_some, if_true]
  refine wpAny_bind (wpAny_alloc ?_)
  refine wpAny_bind (wpAny_layCells _ (fun name kind cells => by cases hkc : kind == NameKind.cell <;> simp [hkc]) _ _ _ _ ?_)
  rw [h1, h2]
  refine wpAny_bind ?_
  rw [List.forIn_nil]
  refine wpAny_pure (wpAny_pure ?_)
  have hs : (s.heap.push { cls := .type "dict", data := .dict #[] }).objs.size = s.heap.objs.size + 1 := Heap.size_push ..
  refine h s.heap.objs.size ((x, (s.heap.push { cls := .type "dict", data := .dict #[] }).objs.size) :: cl) _ _ (new_none _) ?_ ?_ ⟨_, rfl, ?_, Heap.get?_push_size _ rfl, ?_⟩ rfl rfl
  · exact (Heap.Ns.new s.heap (.type "dict")).keeps fun b o e => Heap.get?_push_of_some _ e
  · exact fun b o e => Heap.get?_push_of_some _ (Heap.get?_push_of_some _ e)
  · exact Heap.get?_none_of_le (by rw [hs]; exact Nat.le_succ _)
  · rw [hs]; exact Nat.ne_of_gt (Nat.lt_succ_self _)

/-- what a comprehension over a list must show whose target is a cell -/
inductive CompOkC (prog : Program) (w : World) (A : Around) (env : Env) (scope : Scope) (cl : List (Str × Addr)) (x : Str) (elt : Expr) (K : Addr → Heap → Nat → Prop) (xv : Value) (s₁ : Shared) : Prop
  | mk (l : Addr) (items : Array Value) (F : Value → Value → List (Addr × Obj) → Prop) (e : xv = .ref l) (hl : s₁.heap.IsList l items) (hsz : items.size ≤ 1000) (hh : A.handled = none)
    (helt : ∀ C c (i : Nat) (v : Value) (s₂ : Shared), items[i]? = some v → (∃ o, s₂.heap.get? c = some o ∧ o.data = .cell (some v)) → Ext s₁.heap s₂.heap → s₁.heap.get? C = none → wpAny (model prog w) A (eval elt (compEnvC scope ((x, c) :: cl) C env)) (After s₂ (F v)) No s₂)
    (hK : ∀ D h' tk (zs : List (Value × List (Addr × Obj))) k, zs.length = items.size → (∀ (j : Nat) (z : Value × List (Addr × Obj)) (v : Value), zs[j]? = some z → items[j]? = some v → F v z.1 z.2) →
      Made s₁.heap h' ((D, listO (zs.map (·.1)) k) :: zs.flatMap (·.2)) → Ext s₁.heap h' → K D h' tk)
/-- the same, the target a local name: tokens are known to be drawn -/
inductive CompOkT (prog : Program) (w : World) (A : Around) (env : Env) (scope : Scope) (cl : List (Str × Addr)) (x : Str) (elt : Expr) (K : Addr → Heap → Nat → Prop) (xv : Value) (s₁ : Shared) : Prop
  | mk (l : Addr) (items : Array Value) (F : Value → Value → List (Addr × Obj) → Prop) (e : xv = .ref l) (hl : s₁.heap.IsList l items) (hsz : items.size ≤ 1000) (hh : A.handled = none)
    (helt : ∀ C (i : Nat) (v : Value) (s₂ : Shared) m₂, items[i]? = some v → s₂.heap.Ns C m₂ → m₂ x = some v → 0 < s₂.toks → Ext s₁.heap s₂.heap → s₁.heap.get? C = none → wpAny (model prog w) A (eval elt (compEnvC scope cl C env)) (After s₂ (F v)) No s₂)
    (hK : ∀ D h' tk (zs : List (Value × List (Addr × Obj))) k, zs.length = items.size → (∀ (j : Nat) (z : Value × List (Addr × Obj)) (v : Value), zs[j]? = some z → items[j]? = some v → F v z.1 z.2) →
      Made s₁.heap h' ((D, listO (zs.map (·.1)) k) :: zs.flatMap (·.2)) → Ext s₁.heap h' → K D h' tk)

/-- the loop of such a comprehension -/
theorem loopC {env : Env} {elt iter : Expr} {x : Str} {px : Pos} {scope : Scope} {cl : List (Str × Addr)} {pos : Pos} {s₁ : Shared} {l : Addr} {items : Array Value} {F : Value → Value → List (Addr × Obj) → Prop} {RR : Value → Addr → Result → Shared → Prop}
    (hkind : scope.kind = .function) (hx : (scope.names.map fun (n, k) => if (k == NameKind.free && env.scope.kind == .function && env.kindOf n == some .cell) then (n, NameKind.cell) else (n, k)).lookup x = some .cell) (hh : A.handled = none) (hl : s₁.heap.IsList l items) (hsz : items.size ≤ 1000)
    (helt : ∀ C c (i : Nat) (v : Value) (s₂ : Shared), items[i]? = some v → (∃ o, s₂.heap.get? c = some o ∧ o.data = .cell (some v)) → Ext s₁.heap s₂.heap → s₁.heap.get? C = none → wpAny (model prog w) A (eval elt (compEnvC scope ((x, c) :: cl) C env)) (After s₂ (F v)) No s₂)
    (hRR : ∀ D C h' tk m' (zs : List (Value × List (Addr × Obj))) k, s₁.heap.get? D = none → s₁.heap.get? C = none → D ≠ C → h'.Ns C m' → zs.length = items.size → (∀ (j : Nat) (z : Value × List (Addr × Obj)) (v : Value), zs[j]? = some z → items[j]? = some v → F v z.1 z.2) →
      (∀ q ∈ (D, listO (zs.map (·.1)) k) :: zs.flatMap (·.2), q.1 ≠ C ∧ s₁.heap.get? q.1 = none ∧ h'.get? q.1 = some q.2) → Ext s₁.heap h' → RR (.ref D) C (.ok .next) { s₁ with heap := h', toks := tk }) :
    ∀ D C cells h₂ h₃, (s₁.heap.push { cls := .type "list_iterator", data := .fields #[.ref l, .int 0 0] }).get? D = none → (s₁.heap.push { cls := .type "list_iterator", data := .fields #[.ref l, .int 0 0] }).get? C = none → D ≠ C → Ext (s₁.heap.push { cls := .type "list_iterator", data := .fields #[.ref l, .int 0 0] }) h₂ → Ext h₂ h₃ → h₂.get? C = none → h₂.get? D = some (listO [] 0) → h₃.Ns C (fun _ => none) →
      (∃ c, cells = (x, c) :: cl ∧ h₂.get? c = none ∧ h₃.get? c = some (cellO none) ∧ c ≠ C) →
      (∀ (Q E' : Value → Shared → Prop), Q (.ref s₁.heap.objs.size) { s₁ with heap := h₃ } → wpAny (model prog w) A (pyIter (.ref s₁.heap.objs.size)) Q E' { s₁ with heap := h₃ }) ∧
      codeAny (model prog w) A (.compLoop (.ListComp elt [⟨.Name x px, iter, [], 0⟩] scope pos) 0 (.ref s₁.heap.objs.size) (.ref D) (compEnvC scope cells C env)) (RR (.ref D) C) { s₁ with heap := h₃ } := by
  rintro D C cells h₂ h₃ hD hC hDC x12 x23 hC2 hD2 hns ⟨c, rfl, hc2, hc3, hcC⟩
  have hIt : (s₁.heap.push { cls := .type "list_iterator", data := .fields #[.ref l, .int 0 0] }).get? s₁.heap.objs.size = some { cls := .type "list_iterator", data := .fields #[.ref l, .int 0 0] } := Heap.get?_push_size _ rfl
  have up : ∀ b o, s₁.heap.get? b = some o → (s₁.heap.push { cls := .type "list_iterator", data := .fields #[.ref l, .int 0 0] }).get? b = some o := fun b o e => Heap.get?_push_of_some _ e
  have hI0 := new_none s₁.heap
  generalize s₁.heap.push { cls := .type "list_iterator", data := .fields #[.ref l, .int 0 0] } = h₁ at hD hC x12 hIt up ⊢
  generalize s₁.heap.objs.size = I at hIt hI0 ⊢
  have x13 : Ext h₁ h₃ := x12.trans x23
  have x03 : Ext s₁.heap h₃ := fun b o e => x13 _ _ (up b o e)
  obtain ⟨ol, hol, hl2⟩ := id hl
  have nn : ∀ {h : Heap} {a b : Addr} {o : Obj}, h.get? a = none → h.get? b = some o → a ≠ b := fun ha hb e => by rw [e, hb] at ha; cases ha
  have hlI : l ≠ I := (nn hI0 hol).symm
  have hDI : D ≠ I := nn hD hIt
  have hCI : C ≠ I := nn hC hIt
  have hDl : D ≠ l := nn hD (up _ _ hol)
  have hCl : C ≠ l := nn hC (up _ _ hol)
  have hcD : c ≠ D := nn hc2 hD2
  have hcI : c ≠ I := nn hc2 (x12 _ _ hIt)
  have hcl : c ≠ l := nn hc2 (x12 _ _ (up _ _ hol))
  have old : ∀ b o, s₁.heap.get? b = some o → b ≠ D ∧ b ≠ I ∧ b ≠ C ∧ b ≠ c := fun b o e => ⟨(nn hD (up _ _ e)).symm, (nn hI0 e).symm, (nn hC (up _ _ e)).symm, (nn hc2 (x12 _ _ (up _ _ e))).symm⟩
  refine ⟨fun Q E' hq => wpAny_pyIter_listiter (l := l) (i := 0) ⟨_, x13 _ _ hIt, rfl, rfl⟩ hq, ?_⟩
  refine compLoop3 (n := items.size) (fun _ => True) (fun i h => h.IsListIter I l i ∧ h.IsList l items ∧ (∃ m, h.Ns C m) ∧ ∃ v, h.IsCell c v) (fun i h => ∃ v, items[i]? = some v ∧ ∃ o, h.get? c = some o ∧ o.data = .cell (some v)) (fun h => ∃ m, h.Ns C m) [I, l, C, c] [I, C, c]
    (fun i y os => ∀ v, items[i]? = some v → F v y os) ?f ?lv ?t ?d ?e ?a1 ?a2 ?a3 ?a4 ?r (by rw [sizeLine_eq]; (first | lia | omega))
  case f =>
    rintro i h h' ⟨b1, b2, ⟨m, b3⟩, v, o, b4, b5⟩ k
    exact ⟨b1.at fun o e => k _ o (by simp) e, b2.at fun o e => k _ o (by simp) e, ⟨m, b3.at' fun o e => k _ o (by simp) e⟩, v, o, k _ o (by simp) b4, b5⟩
  case lv =>
    rintro i h ⟨⟨o1, b1, _⟩, b2, ⟨m, o3, _, _, b3, _⟩, v, o, b4, b5⟩ b hb
    simp only [List.mem_cons, List.not_mem_nil, or_false] at hb
    rcases hb with rfl | rfl | rfl
    · exact ⟨o1, b1⟩
    · exact ⟨o3, b3⟩
    · exact ⟨o, b4⟩
  case t =>
    rintro i s' hi ⟨b1, b2, ⟨m, b3⟩, v0, b4⟩
    refine (Walks.list (prog := prog) (w := w) (A := A) hh I l hlI items).item i _ _ _ hi ⟨b1, b2⟩ fun v h₄ tk hv hst hk => ⟨v, rfl, ?_⟩
    have hk : ∀ b o, b ≠ I → s'.heap.get? b = some o → h₄.get? b = some o := fun b o hb e => hk b o (by simpa using hb) e
    show wpAny _ _ (pure ()) _ _ _
    refine wpAny_pure (wpAny_assign_Name ?_)
    obtain ⟨oc, hoc, hdc⟩ := b4
    refine wpAny_storeName_cell (v₀ := v0) hkind hx (by simp [compEnvC]) ⟨oc, hk _ _ hcI hoc, hdc⟩ fun h₅ hc5 hs5 => ?_
    refine ⟨h₅, tk, rfl, trivial, ⟨hst.1.at fun o e => hs5.extBut _ _ (Ne.symm hcI) e, hst.2.at fun o e => hs5.extBut _ _ (Ne.symm hcl) e, ⟨m, (b3.at' fun o e => hk _ _ hCI e).sameBut hs5 (Ne.symm hcC)⟩, _, hc5⟩, ⟨v, hv, hc5⟩, fun b o hb e => ?_⟩
    simp only [List.mem_cons, List.not_mem_nil, or_false, not_or] at hb
    exact hs5.extBut _ _ hb.2.2 (hk _ _ hb.1 e)
  case d =>
    rintro s' ⟨b1, b2, ⟨m, b3⟩, v0, b4⟩
    refine (Walks.list (prog := prog) (w := w) (A := A) hh I l hlI items).done _ _ _ ⟨b1, b2⟩ fun h₄ tk hk => ⟨rfl, h₄, tk, rfl, ⟨m, b3.at' fun o e => hk _ _ (by simpa using hCI) e⟩, fun b o hb e => ?_⟩
    simp only [List.mem_cons, List.not_mem_nil, or_false, not_or] at hb
    exact hk _ _ (by simpa using hb.1) e
  case e =>
    rintro i s' hi - - ⟨v, hv, hcv⟩ hx'
    have xs : Ext s₁.heap s'.heap := fun b o e => hx' _ _ (by have := old b o e; simp [this]) (x03 _ _ e)
    refine wpAny_mono (helt C c i v s' hv hcv xs ?_) (fun y s'' hy => ?_) fun _ _ f => f
    · cases e : s₁.heap.get? C with
      | none => rfl
      | some o => rw [up _ _ e] at hC; cases hC
    · obtain ⟨h', tk, os, a1, a2, a3, a4⟩ := hy
      exact ⟨h', tk, os, a1, a2, a3, fun v' hv' => by rw [hv] at hv'; cases hv'; exact a4⟩
  case a1 => simp [hDI, hDl, hDC, Ne.symm hcD]
  case a2 => simp [hDI, hDC, Ne.symm hcD]
  case a3 => exact ⟨⟨_, x13 _ _ hIt, rfl, rfl⟩, ⟨ol, x13 _ _ (up _ _ hol), hl2⟩, ⟨_, hns⟩, none, _, hc3, rfl⟩
  case a4 => exact ⟨0, x23 _ _ hD2⟩
  case r =>
    rintro h' tk zs hlen hF ⟨k, hacc⟩ ⟨m', hm'⟩ hzo hx'
    have none0 : ∀ b, h₁.get? b = none → s₁.heap.get? b = none := fun b hb => by
      cases e : s₁.heap.get? b with
      | none => rfl
      | some o => rw [up _ _ e] at hb; cases hb
    refine hRR D C h' tk m' zs k (none0 _ hD) (none0 _ hC) hDC hm' hlen (fun j z v hz hv => hF j z hz v hv) (fun q hq => ?_) fun b o e => hx' _ _ (by have := old b o e; simp [this]) (x03 _ _ e)
    rcases List.mem_cons.mp hq with rfl | hq
    · exact ⟨hDC, none0 _ hD, hacc⟩
    · obtain ⟨z, hz, hq⟩ := List.mem_flatMap.mp hq
      obtain ⟨a, b, c', d⟩ := hzo z hz q hq
      simp only [List.mem_cons, List.not_mem_nil, or_false, not_or] at b
      refine ⟨b.2.1, ?_, d⟩
      cases e : s₁.heap.get? q.1 with
      | none => rfl
      | some o => rw [x03 _ _ e] at c'; cases c'
end
end Mine
end
section
open PySem PySem.W PySem.Calls PyProof.Rows
set_option maxRecDepth 100000
set_option maxHeartbeats 4000000
namespace Mine
section
variable {prog : Program} {w : World} {A : Around} {s : Shared}
/-- a comprehension whose target is a cell of its own -/
theorem compC {E : Value → Shared → Prop} {Q : Value → Shared → Prop} {env : Env} {elt iter : Expr} {x : Str} {px : Pos} {scope : Scope} {cl : List (Str × Addr)} {pos : Pos}
    (hclos : closureFor scope env = pure cl) (hkind : scope.kind = .function) (h1 : ∀ n, cellsFrom n scope.names cl = (x, n) :: cl) (h2 : ∀ h : Heap, pushCells h scope.names = h.push (cellO none))
    (hnames : ∀ y ∈ scope.names, y.2 = .local → scope.names.lookup y.1 = some .local)
    (hx : (scope.names.map fun (n, k) => if (k == NameKind.free && env.scope.kind == .function && env.kindOf n == some .cell) then (n, NameKind.cell) else (n, k)).lookup x = some .cell)
    (h : wpAny (model prog w) A (eval iter env) (fun xv s₁ => CompOkC prog w A env scope cl x elt (fun D h' tk => Q (.ref D) { s₁ with heap := h', toks := tk }) xv s₁) E s)
    (hs : ∀ x, foldedSetIterable iter env x = pure x := by intro _; rfl) :
    wpAny (model prog w) A (eval (.ListComp elt [⟨.Name x px, iter, [], 0⟩] scope pos) env) Q E s := by
  refine comp3 hclos hkind (newEnv_one h1 h2) hnames (wpAny_mono h (fun xv s₁ ok => ?_) fun _ _ e => e) hs
  obtain ⟨l, items, F, rfl, hl, hsz, hh, helt, hK⟩ := ok
  refine wpAny_pyIter_list hl ?_
  refine loopC (RR := fun v C r s' => r = .ok .next ∧ ∃ m', s'.heap.Ns C m' ∧ ∀ h'', (∀ b o, b ≠ C → s'.heap.get? b = some o → h''.get? b = some o) → Q v { s' with heap := h'' }) hkind hx hh hl hsz helt ?_
  intro D C h' tk m' zs k hD hC hDC hm hlen hF hmade hext
  refine ⟨rfl, m', hm, fun h'' hk => hK D h'' tk zs k hlen hF (fun q hq => ?_) fun b o e => hk _ _ (fun z => by rw [z, hC] at e; cases e) (hext b o e)⟩
  obtain ⟨a, b, c⟩ := hmade q hq
  exact ⟨b, hk _ _ a c⟩
/-- the same as the value of an assignment -/
theorem compCTo {E : Value → Shared → Prop} {Q : Flow → Shared → Prop} {env : Env} {elt iter : Expr} {x y : Str} {px py : Pos} {scope : Scope} {cl : List (Str × Addr)} {pos spos : Pos} {h₀ : Heap} {m : Str → Option Value}
    (hsw : swapsWith (.ListComp elt [⟨.Name x px, iter, [], 0⟩] scope pos) (some (.Name y py)) spos.line env = pure true)
    (hclos : closureFor scope env = pure cl) (hkind : scope.kind = .function) (h1 : ∀ n, cellsFrom n scope.names cl = (x, n) :: cl) (h2 : ∀ h : Heap, pushCells h scope.names = h.push (cellO none))
    (hnames : ∀ y ∈ scope.names, y.2 = .local → scope.names.lookup y.1 = some .local)
    (hx : (scope.names.map fun (n, k) => if (k == NameKind.free && env.scope.kind == .function && env.kindOf n == some .cell) then (n, NameKind.cell) else (n, k)).lookup x = some .cell)
    (hy : env.kindOf y = some .local) (hp : (env.scope.kind == .class || (env.scope.kind == .module && env.locals != env.globals)) = false)
    (h : wpAny (model prog w) A (eval iter env) (fun xv s₁ => Fr h₀ env.locals s₁.heap m ∧ CompOkC prog w A env scope cl x elt
      (fun D h' _ => ∀ h'' tk, Fr h₀ env.locals h'' (fun z => if z = y then some (.ref D) else m z) → (∀ b o, b ≠ env.locals → h'.get? b = some o → h''.get? b = some o) → Q .next { s₁ with heap := h'', toks := tk }) xv s₁) E s)
    (hs : ∀ x, foldedSetIterable iter env x = pure x := by intro _; rfl) :
    wpAny (model prog w) A (exec (.Assign [.Name y py] (.ListComp elt [⟨.Name x px, iter, [], 0⟩] scope pos) spos) env) Q E s := by
  refine compTo3 hsw hclos hkind (newEnv_one h1 h2) hnames (wpAny_mono h (fun xv s₁ ok => ?_) fun _ _ e => e) hs
  obtain ⟨F, l, items, F', rfl, hl, hsz, hh, helt, hK⟩ := ok
  refine wpAny_pyIter_list hl ?_
  refine loopC (RR := fun v C r s' => r = .ok .next ∧ wpAny (model prog w) A (storeName env y v) (fun _ s'' => ∃ m', s''.heap.Ns C m' ∧ ∀ h'', (∀ b o, b ≠ C → s''.heap.get? b = some o → h''.get? b = some o) → Q .next { s'' with heap := h'' }) E s') hkind hx hh hl hsz helt ?_
  intro D C h' tk m' zs k hD hC hDC hm hlen hF hmade hext
  have hn := F.ns
  have hLC : env.locals ≠ C := by rintro rfl; obtain ⟨o, _, _, ho, _⟩ := hn; rw [hC] at ho; cases ho
  have F1 := F.keeps hext
  refine ⟨rfl, wpAny_storeName_local hy F1.ns (fun h₂ hn₂ hs₂ => ?_) hp⟩
  refine ⟨m', hm.sameBut hs₂ (Ne.symm hLC), fun h₃ hk₃ => ?_⟩
  have F₂ : Fr h₀ env.locals h₂ (fun z => if z = y then some (.ref D) else m z) := F1.set hn₂ hs₂
  refine hK D (h'.hide C) tk zs k hlen hF (fun q hq => ?_) (fun b o e => (Heap.hide_ne _ (fun z => by rw [z, hC] at e; cases e)).trans (hext b o e)) h₃ _ ⟨F₂.ns.at' fun o e => hk₃ _ _ hLC e, fun b o e => hk₃ b o (fun z => ?_) (F₂.keep b o e), F.above⟩ fun b o hbL e => ?_
  · obtain ⟨a, b, c⟩ := hmade q hq
    exact ⟨b, (Heap.hide_ne _ a).trans c⟩
  · rw [z] at e; have := F.keep _ _ e; rw [hC] at this; cases this
  · have hbC : b ≠ C := fun z => by rw [z, Heap.hide_self] at e; cases e
    exact hk₃ b o hbC (hs₂.extBut b o hbL (Heap.of_hide e))
end
end Mine
end
section
open PySem PySem.W PySem.Calls PyProof.Rows
set_option maxRecDepth 100000
set_option maxHeartbeats 4000000
namespace Mine
section
variable {prog : Program} {w : World} {A : Around} {s : Shared}
/-- the loop of a comprehension over a list, its target a local name -/
theorem loopT {env : Env} {elt iter : Expr} {x : Str} {px : Pos} {scope : Scope} {cl : List (Str × Addr)} {pos : Pos} {s₁ : Shared} {l : Addr} {items : Array Value} {F : Value → Value → List (Addr × Obj) → Prop} {RR : Value → Addr → Result → Shared → Prop}
    (hkind : scope.kind = .function) (hx : scope.names.lookup x = some .local) (hh : A.handled = none) (hl : s₁.heap.IsList l items) (hsz : items.size ≤ 1000)
    (helt : ∀ C (i : Nat) (v : Value) (s₂ : Shared) m₂, items[i]? = some v → s₂.heap.Ns C m₂ → m₂ x = some v → 0 < s₂.toks → Ext s₁.heap s₂.heap → s₁.heap.get? C = none → wpAny (model prog w) A (eval elt (compEnvC scope cl C env)) (After s₂ (F v)) No s₂)
    (hRR : ∀ D C h' tk m' (zs : List (Value × List (Addr × Obj))) k, s₁.heap.get? D = none → s₁.heap.get? C = none → D ≠ C → h'.Ns C m' → zs.length = items.size → (∀ (j : Nat) (z : Value × List (Addr × Obj)) (v : Value), zs[j]? = some z → items[j]? = some v → F v z.1 z.2) →
      (∀ q ∈ (D, listO (zs.map (·.1)) k) :: zs.flatMap (·.2), q.1 ≠ C ∧ s₁.heap.get? q.1 = none ∧ h'.get? q.1 = some q.2) → Ext s₁.heap h' → RR (.ref D) C (.ok .next) { s₁ with heap := h', toks := tk }) :
    ∀ D C cells h₂ h₃, (s₁.heap.push { cls := .type "list_iterator", data := .fields #[.ref l, .int 0 0] }).get? D = none → (s₁.heap.push { cls := .type "list_iterator", data := .fields #[.ref l, .int 0 0] }).get? C = none → D ≠ C → Ext (s₁.heap.push { cls := .type "list_iterator", data := .fields #[.ref l, .int 0 0] }) h₂ → Ext h₂ h₃ → h₂.get? C = none → h₂.get? D = some (listO [] 0) → h₃.Ns C (fun _ => none) →
      cells = cl →
      (∀ (Q E' : Value → Shared → Prop), Q (.ref s₁.heap.objs.size) { s₁ with heap := h₃ } → wpAny (model prog w) A (pyIter (.ref s₁.heap.objs.size)) Q E' { s₁ with heap := h₃ }) ∧
      codeAny (model prog w) A (.compLoop (.ListComp elt [⟨.Name x px, iter, [], 0⟩] scope pos) 0 (.ref s₁.heap.objs.size) (.ref D) (compEnvC scope cells C env)) (RR (.ref D) C) { s₁ with heap := h₃ } := by
  rintro D C cells h₂ h₃ hD hC hDC x12 x23 hC2 hD2 hns rfl
  have hIt : (s₁.heap.push { cls := .type "list_iterator", data := .fields #[.ref l, .int 0 0] }).get? s₁.heap.objs.size = some { cls := .type "list_iterator", data := .fields #[.ref l, .int 0 0] } := Heap.get?_push_size _ rfl
  have up : ∀ b o, s₁.heap.get? b = some o → (s₁.heap.push { cls := .type "list_iterator", data := .fields #[.ref l, .int 0 0] }).get? b = some o := fun b o e => Heap.get?_push_of_some _ e
  have hI0 := new_none s₁.heap
  generalize s₁.heap.push { cls := .type "list_iterator", data := .fields #[.ref l, .int 0 0] } = h₁ at hD hC x12 hIt up ⊢
  generalize s₁.heap.objs.size = I at hIt hI0 ⊢
  have x13 : Ext h₁ h₃ := x12.trans x23
  have x03 : Ext s₁.heap h₃ := fun b o e => x13 _ _ (up b o e)
  obtain ⟨ol, hol, hl2⟩ := id hl
  have nn : ∀ {h : Heap} {a b : Addr} {o : Obj}, h.get? a = none → h.get? b = some o → a ≠ b := fun ha hb e => by rw [e, hb] at ha; cases ha
  have hlI : l ≠ I := (nn hI0 hol).symm
  have hDI : D ≠ I := nn hD hIt
  have hCI : C ≠ I := nn hC hIt
  have hDl : D ≠ l := nn hD (up _ _ hol)
  have hCl : C ≠ l := nn hC (up _ _ hol)
  have old : ∀ b o, s₁.heap.get? b = some o → b ≠ D ∧ b ≠ I ∧ b ≠ C := fun b o e => ⟨(nn hD (up _ _ e)).symm, (nn hI0 e).symm, (nn hC (up _ _ e)).symm⟩
  refine ⟨fun Q E' hq => wpAny_pyIter_listiter (l := l) (i := 0) ⟨_, x13 _ _ hIt, rfl, rfl⟩ hq, ?_⟩
  refine compLoop3 (n := items.size) (fun tk => 0 < tk) (fun i h => h.IsListIter I l i ∧ h.IsList l items ∧ ∃ m, h.Ns C m) (fun i h => ∃ v m, items[i]? = some v ∧ h.Ns C m ∧ m x = some v) (fun h => ∃ m, h.Ns C m) [I, l, C] [I, C]
    (fun i y os => ∀ v, items[i]? = some v → F v y os) ?f ?lv ?t ?d ?e ?a1 ?a2 ?a3 ?a4 ?r (by rw [sizeLine_eq]; (first | lia | omega))
  case f =>
    rintro i h h' ⟨b1, b2, ⟨m, b3⟩⟩ k
    exact ⟨b1.at fun o e => k _ o (by simp) e, b2.at fun o e => k _ o (by simp) e, ⟨m, b3.at' fun o e => k _ o (by simp) e⟩⟩
  case lv =>
    rintro i h ⟨⟨o1, b1, _⟩, b2, ⟨m, o3, _, _, b3, _⟩⟩ b hb
    simp only [List.mem_cons, List.not_mem_nil, or_false] at hb
    rcases hb with rfl | rfl
    · exact ⟨o1, b1⟩
    · exact ⟨o3, b3⟩
  case t =>
    rintro i s' hi ⟨b1, b2, ⟨m, b3⟩⟩
    refine (Walks.list (prog := prog) (w := w) (A := A) hh I l hlI items).item i _ _ _ hi ⟨b1, b2⟩ fun v h₄ tk hv hst hk => ⟨v, rfl, ?_⟩
    have hk : ∀ b o, b ≠ I → s'.heap.get? b = some o → h₄.get? b = some o := fun b o hb e => hk b o (by simpa using hb) e
    show wpAny _ _ (pure ()) _ _ _
    refine wpAny_pure (wpAny_assign_Name ?_)
    refine wpAny_storeName_local (lookup_relabel_local hx) (b3.at' fun o e => hk _ _ hCI e) (fun h₅ hn5 hs5 => ?_) (by simp [compEnvC, relabel, hkind])
    have hs5 : Heap.SameBut C h₄ h₅ := hs5
    refine ⟨h₅, tk + 1, rfl, Nat.succ_pos _, ⟨hst.1.at fun o e => hs5.extBut _ _ (Ne.symm hCI) e, hst.2.at fun o e => hs5.extBut _ _ (Ne.symm hCl) e, ⟨_, hn5⟩⟩, ⟨v, _, hv, hn5, by simp⟩, fun b o hb e => ?_⟩
    simp only [List.mem_cons, List.not_mem_nil, or_false, not_or] at hb
    exact hs5.extBut _ _ hb.2 (hk _ _ hb.1 e)
  case d =>
    rintro s' ⟨b1, b2, ⟨m, b3⟩⟩
    refine (Walks.list (prog := prog) (w := w) (A := A) hh I l hlI items).done _ _ _ ⟨b1, b2⟩ fun h₄ tk hk => ⟨rfl, h₄, tk, rfl, ⟨m, b3.at' fun o e => hk _ _ (by simpa using hCI) e⟩, fun b o hb e => ?_⟩
    simp only [List.mem_cons, List.not_mem_nil, or_false, not_or] at hb
    exact hk _ _ (by simpa using hb.1) e
  case e =>
    rintro i s' hi htk - ⟨v, m, hv, hn, hm⟩ hx'
    have xs : Ext s₁.heap s'.heap := fun b o e => hx' _ _ (by have := old b o e; simp [this]) (x03 _ _ e)
    refine wpAny_mono (helt C i v s' m hv hn hm htk xs ?_) (fun y s'' hy => ?_) fun _ _ f => f
    · cases e : s₁.heap.get? C with
      | none => rfl
      | some o => rw [up _ _ e] at hC; cases hC
    · obtain ⟨h', tk, os, a1, a2, a3, a4⟩ := hy
      exact ⟨h', tk, os, a1, a2, a3, fun v' hv' => by rw [hv] at hv'; cases hv'; exact a4⟩
  case a1 => simp [hDI, hDl, hDC]
  case a2 => simp [hDI, hDC]
  case a3 => exact ⟨⟨_, x13 _ _ hIt, rfl, rfl⟩, ⟨ol, x13 _ _ (up _ _ hol), hl2⟩, ⟨_, hns⟩⟩
  case a4 => exact ⟨0, x23 _ _ hD2⟩
  case r =>
    rintro h' tk zs hlen hF ⟨k, hacc⟩ ⟨m', hm'⟩ hzo hx'
    have none0 : ∀ b, h₁.get? b = none → s₁.heap.get? b = none := fun b hb => by
      cases e : s₁.heap.get? b with
      | none => rfl
      | some o => rw [up _ _ e] at hb; cases hb
    refine hRR D C h' tk m' zs k (none0 _ hD) (none0 _ hC) hDC hm' hlen (fun j z v hz hv => hF j z hz v hv) (fun q hq => ?_) fun b o e => hx' _ _ (by have := old b o e; simp [this]) (x03 _ _ e)
    rcases List.mem_cons.mp hq with rfl | hq
    · exact ⟨hDC, none0 _ hD, hacc⟩
    · obtain ⟨z, hz, hq⟩ := List.mem_flatMap.mp hq
      obtain ⟨a, b, c', d⟩ := hzo z hz q hq
      simp only [List.mem_cons, List.not_mem_nil, or_false, not_or] at b
      refine ⟨b.2, ?_, d⟩
      cases e : s₁.heap.get? q.1 with
      | none => rfl
      | some o => rw [x03 _ _ e] at c'; cases c'
/-- such a comprehension -/
theorem compT {E : Value → Shared → Prop} {Q : Value → Shared → Prop} {env : Env} {elt iter : Expr} {x : Str} {px : Pos} {scope : Scope} {cl : List (Str × Addr)} {pos : Pos}
    (hclos : closureFor scope env = pure cl) (hkind : scope.kind = .function) (hcell : ∀ z ∈ scope.names, z.2 ≠ .cell)
    (hnames : ∀ y ∈ scope.names, y.2 = .local → scope.names.lookup y.1 = some .local) (hx : scope.names.lookup x = some .local)
    (h : wpAny (model prog w) A (eval iter env) (fun xv s₁ => CompOkT prog w A env scope cl x elt (fun D h' tk => Q (.ref D) { s₁ with heap := h', toks := tk }) xv s₁) E s)
    (hs : ∀ x, foldedSetIterable iter env x = pure x := by intro _; rfl) :
    wpAny (model prog w) A (eval (.ListComp elt [⟨.Name x px, iter, [], 0⟩] scope pos) env) Q E s := by
  refine comp3 hclos hkind (newEnv_plain hcell hkind) hnames (wpAny_mono h (fun xv s₁ ok => ?_) fun _ _ e => e) hs
  obtain ⟨l, items, F', rfl, hl, hsz, hh, helt, hK⟩ := ok
  refine wpAny_pyIter_list hl ?_
  refine loopT (RR := fun v C r s' => r = .ok .next ∧ ∃ m', s'.heap.Ns C m' ∧ ∀ h'', (∀ b o, b ≠ C → s'.heap.get? b = some o → h''.get? b = some o) → Q v { s' with heap := h'' }) hkind hx hh hl hsz helt ?_
  intro D C h' tk m' zs k hD hC hDC hm hlen hF hmade hext
  refine ⟨rfl, m', hm, fun h'' hk => hK D h'' tk zs k hlen hF (fun q hq => ?_) fun b o e => hk _ _ (fun z => by rw [z, hC] at e; cases e) (hext b o e)⟩
  obtain ⟨a, b, c⟩ := hmade q hq
  exact ⟨b, hk _ _ a c⟩
end
end Mine
end
section
open PySem PySem.W PySem.Calls PyProof.Rows
set_option maxRecDepth 100000
set_option maxHeartbeats 4000000
namespace Mine
/-- the law's own body and scope, out of the row -/
def lawBody : List Stmt := match PySem.Challenge.pw_ik0164_01.main.body.getLast? with | some (.FunctionDef _ _ body _ _ _ _ _ _ _) => body | _ => []
def lawScope : Scope := match PySem.Challenge.pw_ik0164_01.main.body.getLast? with | some (.FunctionDef _ _ _ _ _ _ scope _ _ _) => scope | _ => { kind := .module, names := [], isGenerator := false, isCoroutine := false }
theorem at_rows (w : World) : nsIn (hdK w.params) mainGlobals "_law_rows" = some (some (.ref 163)) := by k_is
theorem keep_rows (w : World) : keepIn (hdK w.params) (.ref 163) = true := by k_is
theorem at_word (w : World) : nsIn (hdK w.params) mainGlobals "_law_word" = some (some (.ref 168)) := by k_is
theorem keep_word (w : World) : keepIn (hdK w.params) (.ref 168) = true := by k_is
section
variable {prog : Program} {w : World} {mg mb : Str → Option Value} {A : Around} {s : Shared}
/-- how the law ends -/
def Done (g : Heap) (s : Shared) (f : Flow) (s' : Shared) : Prop := f = .ret (.bool true) ∧ ∃ h' tk, s' = { s with heap := h', toks := tk } ∧ Ext g h' ∧ GrownAt 112 h' ∧ GrownAt 209 h'
def BB (L : Addr) (h : Heap) : Heap := (h.hide L).hide (L + 4)
theorem bb_get {L : Addr} {h : Heap} {b : Addr} {o : Obj} (e : (BB L h).get? b = some o) : h.get? b = some o ∧ b ≠ L ∧ b ≠ L + 4 := by
  have e1 := Heap.of_hide e
  refine ⟨Heap.of_hide e1, fun q => ?_, fun q => ?_⟩
  · rw [q, Heap.hide_self] at e1; cases e1
  · unfold BB at e; rw [q, Heap.hide_self] at e; cases e
theorem bb_of {L : Addr} {h : Heap} {b : Addr} {o : Obj} (e : h.get? b = some o) (h1 : b ≠ L) (h2 : b ≠ L + 4) : (BB L h).get? b = some o :=
  (Heap.hide_ne _ h2).trans ((Heap.hide_ne _ h1).trans e)
theorem bb_keep {L : Addr} {h h' : Heap} (k : ∀ b o, b ≠ L → b ≠ L + 4 → h.get? b = some o → h'.get? b = some o) : Ext (BB L h) (BB L h') := fun b o e =>
  let ⟨a, b1, b2⟩ := bb_get e; bb_of (k _ _ b1 b2 a) b1 b2
theorem bb_ext {L : Addr} {h h' : Heap} (k : Ext h h') : Ext (BB L h) (BB L h') := bb_keep fun b o _ _ e => k b o e
theorem bb_in {L : Addr} {h : Heap} : Ext (BB L h) h := fun _ _ e => (bb_get e).1
/-- a local name is stored -/
theorem stB {g : Heap} {L a : Addr} {m : Str → Option Value} {cn : Str} {cs : Scope} {ccd : Value} {cl : List (Str × Addr)} {x : Str} {v : Value} {M : Model} {E : Value → Shared → Prop} {Q : Unit → Shared → Prop} (F : Fr g L s.heap m)
    (h : ∀ h', Fr g L h' (fun y => if y = x then some v else m y) → Ext (BB L s.heap) (BB L h') → Q () { s with heap := h', toks := s.toks + 1 })
    (hk : cs.kind = .function := by rfl) (hx : (envX cn cs L a ccd cl).kindOf x = some .local := by rfl) : wpAny M A (storeName (envX cn cs L a ccd cl) x v) Q E s :=
  wpAny_storeName_local hx F.ns (fun h' hn hs => h h' (F.set hn hs) (bb_keep fun b o h1 _ e => hs.extBut b o h1 e)) (by show (cs.kind == .class || (cs.kind == .module && L != mainGlobals)) = false; rw [hk]; rfl)

/-- what the law has laid and never changes again -/
inductive RowsAt (r : Nat → List Nat) (a : Addr) (h : Heap) : Prop
  | mk (o : Obj) (D : Addr) (t0 t1 t2 : Tok) (e : h.get? a = some o) (d : o.data = .cell (some (.ref D))) (l : h.IsList D #[.str (S (r 0)) t0, .str (S (r 1)) t1, .str (S (r 2)) t2])
inductive WordsAt (r : Nat → List Nat) (a : Addr) (h : Heap) : Prop
  | mk (o : Obj) (D : Addr) (t0 t1 t2 : Tok) (e : h.get? a = some o) (d : o.data = .cell (some (.ref D))) (l : h.IsList D #[.str (S (word (r 0))) t0, .str (S (word (r 1))) t1, .str (S (word (r 2))) t2])
inductive ItemsAt (r : Nat → List Nat) (a : Addr) (h : Heap) : Prop
  | mk (o : Obj) (D : Addr) (P : Nat → Addr) (ps : Nat → List Value) (e : h.get? a = some o) (d : o.data = .cell (some (.ref D))) (l : h.IsList D #[.ref (P 0), .ref (P 1), .ref (P 2)])
    (p : ∀ i, i < 3 → h.IsList (P i) (ps i).toArray ∧ Paired (partV .none) (parts (word (r i))) (ps i))
structure LS (r : Nat → List Nat) (L : Addr) (h : Heap) : Prop where
  rows : RowsAt r (L + 1) h
  words : WordsAt r (L + 2) h
  items : ItemsAt r (L + 3) h
theorem LS.keeps {r : Nat → List Nat} {L : Addr} {h h' : Heap} (X : LS r L h) (k : Ext h h') : LS r L h' where
  rows := let ⟨o, D, t0, t1, t2, a, b, c⟩ := X.rows; ⟨o, D, t0, t1, t2, k _ _ a, b, c.at fun o e => k _ o e⟩
  words := let ⟨o, D, t0, t1, t2, a, b, c⟩ := X.words; ⟨o, D, t0, t1, t2, k _ _ a, b, c.at fun o e => k _ o e⟩
  items := let ⟨o, D, P, ps, a, b, c, d⟩ := X.items; ⟨o, D, P, ps, k _ _ a, b, c.at fun o e => k _ o e, fun i hi => ⟨(d i hi).1.at fun o e => k _ o e, (d i hi).2⟩⟩
theorem grown_keeps {P : Addr} {h h' : Heap} (X : GrownAt P h) (k : Ext h h') : GrownAt P h' := let ⟨ps, e⟩ := X; ⟨ps, k _ _ e⟩

/-- a cell is set; the ledger goes on -/
theorem news_cell {g h h' : Heap} {L c : Addr} {m : Str → Option Value} {news : List (Addr × Obj)} {o : Obj} {up : Obj → List (Addr × Obj)} {v : Option Value} (F : Fr g L h m) (N : News g L h news) (U : UpdF c o news up)
    (k : ∀ b ob, b ≠ c → h.get? b = some ob → h'.get? b = some ob) (hc : h'.IsCell c v) : Fr g L h' m ∧ ∃ o', o'.data = .cell v ∧ News g L h' (up o') := by
  obtain ⟨o', ho', hd'⟩ := hc
  obtain ⟨pre, post, rfl, hg, a, b⟩ := U.split
  have z := N (c, o) (List.mem_append_right _ (.head _))
  refine ⟨⟨F.ns.at' fun ob e => k _ _ (Ne.symm z.2.1) e, fun b ob e => k _ _ (fun q => by rw [q, z.2.2] at e; cases e) (F.keep _ _ e), F.above⟩, o', hd', ?_⟩
  rw [hg]
  intro p hp
  rcases List.mem_append.mp hp with hp | hp
  · have q := N p (List.mem_append_left _ hp)
    exact ⟨k _ _ (a p hp) q.1, q.2⟩
  · rcases List.mem_cons.mp hp with rfl | hp
    · exact ⟨ho', z.2⟩
    · have q := N p (List.mem_append_right _ (.tail _ hp))
      exact ⟨k _ _ (b p hp) q.1, q.2⟩
theorem news_made {g h h' : Heap} {L : Addr} {m : Str → Option Value} {news os : List (Addr × Obj)} (F : Fr g L h m) (N : News g L h news) (x : Ext h h') (mk : Made h h' os) : News g L h' (os ++ news) := fun p hp => by
  rcases List.mem_append.mp hp with hp | hp
  · obtain ⟨a, b⟩ := mk p hp
    refine ⟨b, fun e => ?_, ?_⟩
    · obtain ⟨oL, _, _, hoL, _⟩ := F.ns
      rw [e, hoL] at a; cases a
    · cases e : g.get? p.1 with
      | none => rfl
      | some o => rw [F.keep _ _ e] at a; cases a
  · exact ⟨x _ _ (N p hp).1, (N p hp).2⟩
end
end Mine
end
section
open PySem PySem.W PySem.Calls PyProof.Rows
set_option maxRecDepth 100000
set_option maxHeartbeats 4000000
namespace Mine
section
variable {prog : Program} {w : World} {mg mb : Str → Option Value} {A : Around} {s : Shared}
theorem isl {g h : Heap} {L D : Addr} {vs : List Value} {n : Nat} {news : List (Addr × Obj)} (N : News g L h news) (hm : (D, listO vs n) ∈ news) : h.IsList D vs.toArray := ⟨_, (N _ hm).1, rfl, _, rfl⟩
theorem islB {g h : Heap} {L D : Addr} {vs : List Value} {n : Nat} {news : List (Addr × Obj)} (N : News g L h news) (hm : (D, listO vs n) ∈ news) (h4 : D ≠ L + 1 + 1 + 1 + 1) : (BB L h).IsList D vs.toArray := ⟨_, bb_of (N _ hm).1 (N _ hm).2.1 h4, rfl, _, rfl⟩
/-- rows, words, items -/
theorem law_A {sc : Scope} {bd : List Stmt} (hsc : sc = lawScope) (hbd : bd = lawBody) {g : Heap} {L fa I : Addr} {vals : List Value} {ns : List Int} {o1 o2 o3 o4 : Obj} {m : Str → Option Value}
    (G : Gd w mg mb g) (hh : A.handled = none) (hd : A.depth + 20 < recursionLimit) (hu : A.units + 300 < cLine)
    (hI : g.IsList I vals.toArray) (hi : IntsAre vals ns) (hn : ns.length ≤ 1000) (F : Fr g L s.heap m) (hm : m "script" = some (.ref I))
    (N : News g L s.heap [(L + 1 + 1 + 1 + 1, o4), (L + 1 + 1 + 1, o3), (L + 1 + 1, o2), (L + 1, o1), (112, tabObj #[]), (209, tabObj #[])]) (hlt : 112 < L ∧ 209 < L)
    (d1 : o1.data = .cell none) (d2 : o2.data = .cell none) (d3 : o3.data = .cell none) (d4 : o4.data = .cell none)
    (hnext : ∀ (r : Nat → List Nat) (h' : Heap) (tk : Nat) (o4 : Obj), (∀ i, i < 3 → r i ≠ [] ∧ rowOk (r i)) → Fr g L h' m → LS r L (BB L h') → News g L h' [(L + 1 + 1 + 1 + 1, o4), (112, tabObj #[]), (209, tabObj #[])] → o4.data = .cell none →
      wpAny (model prog w) (A.deeper (envOfC (Str.ofString "law") lawScope L fa (.ref 211))) (execs (lawBody.drop 3) (envOfC (Str.ofString "law") lawScope L fa (.ref 211))) (Done g { s with heap := h', toks := tk }) No { s with heap := h', toks := tk }) :
    wpAny (model prog w) (A.deeper (envOfC (Str.ofString "law") sc L fa (.ref 211))) (execs bd (envOfC (Str.ofString "law") sc L fa (.ref 211))) (Done g s) No s := by
  conv at hsc => rhs; whnf
  conv at hbd => rhs; whnf
  subst hsc hbd
  (refine wpAny_execs_cons ?_; with_reducible refine wpAny_Assign_Name ?_ ?as2x98; (case as2x98 => with_unfolding_all exact rfl))
  refine Call_ (nmG G F.keep (at_rows w) (callWith_K (G.ext F.keep).k (keep_rows w) (args_cons (nameX_L F hm (args_nil ⟨(G.ext F.keep).k, ?_⟩)))))
  refine use (sp_rows (G.ext F.keep) hh (by show A.depth + 1 < _; (first | lia | omega)) (hI.at fun o e => F.keep _ _ e) hi hn) ?_
  rintro v os h₁ tk₁ x mk ⟨Dr, kr, vsR, rws, rfl, rfl, hR, hR3, hrw⟩
  obtain ⟨r0, r1, r2, rfl⟩ : ∃ a b c, rws = [a, b, c] := len3 hR3
  obtain ⟨t0, t1, t2, rfl⟩ : ∃ t0 t1 t2, vsR = [.str (S r0) t0, .str (S r1) t1, .str (S r2) t2] := by
    cases hR with | cons _ t0 hR => cases hR with | cons _ t1 hR => cases hR with | cons _ t2 hR => cases hR; exact ⟨t0, t1, t2, rfl⟩
  have nn : ∀ {h : Heap} {a b : Addr} {o : Obj}, h.get? a = none → h.get? b = some o → a ≠ b := fun ha hb e => by rw [e, hb] at ha; cases ha
  have hDr0 := (mk _ (.head _)).1
  have n14 := nn hDr0 (N _ (.head _)).1
  have n13 := nn hDr0 (N _ (.tail _ (.head _))).1
  have n12 := nn hDr0 (N _ (.tail _ (.tail _ (.head _)))).1
  have n11 := nn hDr0 (N _ (.tail _ (.tail _ (.tail _ (.head _))))).1
  have N := news_made F N x mk
  have F := F.keeps x
  have a1 : (112 : Addr) ≠ L + 1 ∧ (112 : Addr) ≠ L + 1 + 1 ∧ (112 : Addr) ≠ L + 1 + 1 + 1 := by
    obtain ⟨q, -⟩ := hlt
    exact ⟨Nat.ne_of_lt (Nat.lt_succ_of_lt q), Nat.ne_of_lt (Nat.lt_succ_of_lt (Nat.lt_succ_of_lt q)), Nat.ne_of_lt (Nat.lt_succ_of_lt (Nat.lt_succ_of_lt (Nat.lt_succ_of_lt q)))⟩
  have a2 : (209 : Addr) ≠ L + 1 ∧ (209 : Addr) ≠ L + 1 + 1 ∧ (209 : Addr) ≠ L + 1 + 1 + 1 := by
    obtain ⟨-, q⟩ := hlt
    exact ⟨Nat.ne_of_lt (Nat.lt_succ_of_lt q), Nat.ne_of_lt (Nat.lt_succ_of_lt (Nat.lt_succ_of_lt q)), Nat.ne_of_lt (Nat.lt_succ_of_lt (Nat.lt_succ_of_lt (Nat.lt_succ_of_lt q)))⟩
  have a3 : (L + 1 : Addr) ≠ L + 1 + 1 ∧ (L + 1 : Addr) ≠ L + 1 + 1 + 1 ∧ (L + 1 + 1 : Addr) ≠ L + 1 + 1 + 1 := ⟨Nat.ne_of_lt (by (first | lia | omega)), Nat.ne_of_lt (by (first | lia | omega)), Nat.ne_of_lt (by (first | lia | omega))⟩
  have a4 : (L + 1 + 1 + 1 + 1 : Addr) ≠ L + 1 ∧ (L + 1 + 1 + 1 + 1 : Addr) ≠ L + 1 + 1 ∧ (L + 1 + 1 + 1 + 1 : Addr) ≠ L + 1 + 1 + 1 := ⟨Nat.ne_of_gt (by (first | lia | omega)), Nat.ne_of_gt (by (first | lia | omega)), Nat.ne_of_gt (by (first | lia | omega))⟩
  refine storeX_C F N ?b1 (.tail n11 (.tail a4.1 (.tail (Ne.symm a3.2.1) (.tail (Ne.symm a3.1) (.head (allC a1.1 (allC a2.1 allN))))))) d1 ?_ ?b2 ?b3
  case b1 => exact rfl
  case b2 => exact rfl
  case b3 => exact rfl
  intro h₂ o1' F N d1'
  dsimp only [List.cons_append, List.nil_append] at N ⊢
  -- words
  (refine wpAny_execs_cons ?_; with_reducible refine wpAny_Assign_Name ?_ ?as2x99; (case as2x99 => with_unfolding_all exact rfl))
  refine compT (cl := []) rfl rfl (by decide) (by decide) rfl ?_
  refine nameX_C N rfl (.tail _ (.tail _ (.tail _ (.tail _ (.head _))))) d1' ?_
  refine ⟨Dr, _, (fun v y os => ∀ l t, v = .str (S l) t → os = [] ∧ ∃ u, y = .str (S (word l)) u), rfl, N.isList (.head _), by simp, hh, ?_, ?_⟩
  · intro C i v s₂ m₂ hv hn2 hm2 htk hx2 hC
    obtain ⟨l, t, rfl, hl⟩ : ∃ l t, v = .str (S l) t ∧ l ∈ [r0, r1, r2] := by (refine at3 (P := fun i v => ∃ l t, v = .str (S l) t ∧ l ∈ [r0, r1, r2]) hv ?_ ?_ ?_); (exact ⟨r0, t0, rfl, .head _⟩); (exact ⟨r1, t1, rfl, .tail _ (.head _)⟩); (exact ⟨r2, t2, rfl, .tail _ (.tail _ (.head _))⟩)
    have hk2 : Ext g s₂.heap := fun b o e => hx2 _ _ (F.keep _ _ e)
    refine Call_ (nmG G hk2 (at_word w) (callWith_K (G.ext hk2).k (keep_word w) (args_cons (nmL hn2 hm2 (args_nil ⟨(G.ext hk2).k, ?_⟩)))))
    refine wpAny_mono (sp_word (G.ext hk2) hh (by show A.depth + 1 + 1 < _; (first | lia | omega)) (fun c hc => .inl ((hrw l hl).2.1 c hc)) (hrw l hl).1 (by have := (hrw l hl).2.2; (first | lia | omega))) (fun y s' hy => ?_) fun _ _ f => f
    obtain ⟨h', tk, os, b1, b2, b3, rfl, u, rfl⟩ := hy
    refine ⟨h', tk, [], b1, b2, b3, fun l' t' e => ?_⟩
    injection e with e1 e2
    have : l = l' := by have := congrArg Str.cps e1; simpa using this
    exact ⟨rfl, u, by rw [this]⟩
  intro Dw h₃ tk₃ zs kw hlen hF mk3 hx3
  obtain ⟨z0, z1, z2, rfl⟩ : ∃ a b c, zs = [a, b, c] := len3 hlen
  obtain ⟨e0, u0, f0⟩ := hF 0 z0 _ rfl rfl r0 t0 rfl
  obtain ⟨e1, u1, f1⟩ := hF 1 z1 _ rfl rfl r1 t1 rfl
  obtain ⟨e2, u2, f2⟩ := hF 2 z2 _ rfl rfl r2 t2 rfl
  have em : [z0, z1, z2].flatMap (·.2) = [] := by simp [e0, e1, e2]
  have em1 : [z0, z1, z2].map (·.1) = [.str (S (word r0)) u0, .str (S (word r1)) u1, .str (S (word r2)) u2] := by simp [f0, f1, f2]
  rw [em, em1] at mk3
  clear em em1 hF e0 e1 e2 f0 f1 f2 hlen
  have hDw0 := (mk3 _ (.head _)).1
  have w14 := nn hDw0 (N _ (.tail _ (.head _))).1
  have w13 := nn hDw0 (N _ (.tail _ (.tail _ (.head _)))).1
  have w12 := nn hDw0 (N _ (.tail _ (.tail _ (.tail _ (.head _))))).1
  have N := news_made F N hx3 mk3
  have F := F.keeps hx3
  dsimp only [List.cons_append, List.nil_append] at N ⊢
  refine storeX_C F N ?b1 (.tail w12 (.tail n12 (.tail a4.2.1 (.tail (Ne.symm a3.2.2) (.head (allC a3.1 (allC a1.2.1 (allC a2.2.1 allN)))))))) d2 ?_ ?b2 ?b3
  case b1 => exact rfl
  case b2 => exact rfl
  case b3 => exact rfl
  clear N F
  intro h₄ o2' F N d2'
  dsimp only at N ⊢
  -- items
  (refine wpAny_execs_cons ?_; with_reducible refine wpAny_Assign_Name ?_ ?as2x100; (case as2x100 => with_unfolding_all exact rfl))
  refine compT (cl := []) rfl rfl (by decide) (by decide) rfl ?_
  refine nameX_C N rfl (.tail _ (.tail _ (.tail _ (.tail _ (.head _))))) d2' ?_
  refine ⟨Dw, _, (fun v y os => ∀ l t, v = .str (S l) t → ∃ D n vs, y = .ref D ∧ os = [(D, listO vs n)] ∧ Paired (partV .none) (parts l) vs), rfl, N.isList (.head _), by simp, hh, ?_, ?_⟩
  · intro C i v s₂ m₂ hv hn2 hm2 htk hx2 hC
    obtain ⟨l, t, r, rfl, hl, rfl⟩ : ∃ l t r, v = .str (S l) t ∧ r ∈ [r0, r1, r2] ∧ l = word r := by (refine at3 (P := fun i v => ∃ l t r, v = .str (S l) t ∧ r ∈ [r0, r1, r2] ∧ l = word r) hv ?_ ?_ ?_); (exact ⟨_, u0, r0, rfl, .head _, rfl⟩); (exact ⟨_, u1, r1, rfl, .tail _ (.head _), rfl⟩); (exact ⟨_, u2, r2, rfl, .tail _ (.tail _ (.head _)), rfl⟩)
    have hk2 : Ext g s₂.heap := fun b o e => hx2 _ _ (F.keep _ _ e)
    refine Call_ (nmG G hk2 (at_translate w) (callWith_K (G.ext hk2).k (keep_translate w) (args_cons (nmL hn2 hm2 (args_cons (Constant_none (args_cons (Constant_str (args_nil ⟨(G.ext hk2).k, ?_⟩)))))))))
    have hwl := word_len r
    have hwr := wr_len r
    have hrl := (hrw r hl).2.2
    refine use (sp_parse (s := { s₂ with toks := _ }) (G.ext hk2) hh (by show A.depth + 1 + 1 < _; (first | lia | omega)) (word_sign (fun c hc => .inl ((hrw r hl).2.1 c hc))) (by (first | lia | omega)) (.inl rfl)) ?_
    rintro v' os h' tk' x' mk' ⟨D, n, vs, rfl, rfl, P⟩
    refine ⟨h', tk', _, rfl, x', mk', fun l' t' e => ⟨D, n, vs, rfl, rfl, ?_⟩⟩
    injection e with e1 e2
    have : word r = l' := by have := congrArg Str.cps e1; simpa using this
    rw [← this]; exact P
  intro Di h₅ tk₅ zs ki hlen hF mk5 hx5
  obtain ⟨z0, z1, z2, rfl⟩ : ∃ a b c, zs = [a, b, c] := len3 hlen
  obtain ⟨P0, c0, ps0, f0, e0, pp0⟩ := hF 0 z0 _ rfl rfl _ u0 rfl
  obtain ⟨P1, c1, ps1, f1, e1, pp1⟩ := hF 1 z1 _ rfl rfl _ u1 rfl
  obtain ⟨P2, c2, ps2, f2, e2, pp2⟩ := hF 2 z2 _ rfl rfl _ u2 rfl
  have em : [z0, z1, z2].flatMap (·.2) = [(P0, listO ps0 c0), (P1, listO ps1 c1), (P2, listO ps2 c2)] := by simp [e0, e1, e2]
  have em1 : [z0, z1, z2].map (·.1) = [.ref P0, .ref P1, .ref P2] := by simp [f0, f1, f2]
  rw [em, em1] at mk5
  clear em em1 hF e0 e1 e2 f0 f1 f2 hlen
  have z3 := (N _ (.tail _ (.tail _ (.tail _ (.head _))))).1
  have i3 := nn (mk5 _ (.head _)).1 z3
  have p03 := nn (mk5 _ (.tail _ (.head _))).1 z3
  have p13 := nn (mk5 _ (.tail _ (.tail _ (.head _)))).1 z3
  have p23 := nn (mk5 _ (.tail _ (.tail _ (.tail _ (.head _))))).1 z3
  have z4 := (N _ (.tail _ (.tail _ (.head _)))).1
  have i4 := nn (mk5 _ (.head _)).1 z4
  have p04 := nn (mk5 _ (.tail _ (.head _))).1 z4
  have p14 := nn (mk5 _ (.tail _ (.tail _ (.head _)))).1 z4
  have p24 := nn (mk5 _ (.tail _ (.tail _ (.tail _ (.head _))))).1 z4
  have N := news_made F N hx5 mk5
  have F := F.keeps hx5
  dsimp only [List.cons_append, List.nil_append] at N ⊢
  refine storeX_C F N ?b1 (.tail i3 (.tail p03 (.tail p13 (.tail p23 (.tail w13 (.tail n13 (.tail a4.2.2 (.head (allC a3.2.2 (allC a3.2.1 (allC a1.2.2 (allC a2.2.2 allN)))))))))))) d3 ?_ ?b2 ?b3
  case b1 => exact rfl
  case b2 => exact rfl
  case b3 => exact rfl
  clear N F
  intro h₆ o3' F N d3'
  dsimp only at N ⊢
  have bx : ∀ b o, (b, o) ∈ [(Di, listO [.ref P0, .ref P1, .ref P2] ki), (P0, listO ps0 c0), (P1, listO ps1 c1), (P2, listO ps2 c2), (Dw, listO [.str (S (word r0)) u0, .str (S (word r1)) u1, .str (S (word r2)) u2] kw), (Dr, listO [.str (S r0) t0, .str (S r1) t1, .str (S r2) t2] kr),
      (L + 1 + 1 + 1 + 1, o4), (L + 1 + 1 + 1, o3'), (L + 1 + 1, o2'), (L + 1, o1'), (112, tabObj #[]), (209, tabObj #[])] → b ≠ L + 1 + 1 + 1 + 1 → (BB L h₆).get? b = some o := fun b o hm h4 => bb_of (N _ hm).1 (N _ hm).2.1 h4
  refine hnext (fun i => if i = 0 then r0 else if i = 1 then r1 else r2) h₆ _ o4 ?_ F ⟨?_, ?_, ?_⟩ ?_ d4
  · exact all3 (hrw r0 (.head _)) (hrw r1 (.tail _ (.head _))) (hrw r2 (.tail _ (.tail _ (.head _))))
  · exact ⟨o1', Dr, t0, t1, t2, bx (L + 1) o1' (.tail _ (.tail _ (.tail _ (.tail _ (.tail _ (.tail _ (.tail _ (.tail _ (.tail _ (.head _)))))))))) (Ne.symm a4.1), d1', islB N (vs := [.str (S r0) t0, .str (S r1) t1, .str (S r2) t2]) (n := kr) (.tail _ (.tail _ (.tail _ (.tail _ (.tail _ (.head _)))))) n14⟩
  · exact ⟨o2', Dw, u0, u1, u2, bx (L + 1 + 1) o2' (.tail _ (.tail _ (.tail _ (.tail _ (.tail _ (.tail _ (.tail _ (.tail _ (.head _))))))))) (Ne.symm a4.2.1), d2', islB N (vs := [.str (S (word r0)) u0, .str (S (word r1)) u1, .str (S (word r2)) u2]) (n := kw) (.tail _ (.tail _ (.tail _ (.tail _ (.head _))))) w14⟩
  · refine ⟨o3', Di, (fun i => if i = 0 then P0 else if i = 1 then P1 else P2), (fun i => if i = 0 then ps0 else if i = 1 then ps1 else ps2), bx (L + 1 + 1 + 1) o3' (.tail _ (.tail _ (.tail _ (.tail _ (.tail _ (.tail _ (.tail _ (.head _)))))))) (Ne.symm a4.2.2), d3', islB N (vs := [.ref P0, .ref P1, .ref P2]) (n := ki) (.head _) i4, all3 ?y0 ?y1 ?y2⟩
    case y0 => exact ⟨islB N (vs := ps0) (n := c0) (.tail _ (.head _)) p04, pp0⟩
    case y1 => exact ⟨islB N (vs := ps1) (n := c1) (.tail _ (.tail _ (.head _))) p14, pp1⟩
    case y2 => exact ⟨islB N (vs := ps2) (n := c2) (.tail _ (.tail _ (.tail _ (.head _)))) p24, pp2⟩
  · exact newsC (N _ (.tail _ (.tail _ (.tail _ (.tail _ (.tail _ (.tail _ (.head _)))))))) (newsC (N _ (.tail _ (.tail _ (.tail _ (.tail _ (.tail _ (.tail _ (.tail _ (.tail _ (.tail _ (.tail _ (.head _)))))))))))) (newsC (N _ (.tail _ (.tail _ (.tail _ (.tail _ (.tail _ (.tail _ (.tail _ (.tail _ (.tail _ (.tail _ (.tail _ (.head _))))))))))))) News.nil))
end
end Mine
end
section
open PySem PySem.W PySem.Calls PyProof.Rows
set_option maxRecDepth 100000
set_option maxHeartbeats 4000000
namespace Mine
section
variable {prog : Program} {w : World} {mg mb : Str → Option Value} {A : Around} {s : Shared}
/-- a lambda without cells is called -/
theorem lam_call {R : Value → List (Addr × Obj) → Prop} {name qual : Str} {params : Arguments} {body : Expr} {scope : Scope} {pm ctv : Value} {c' f : Addr} {vs : List Value} {binds : List (Str × Value)}
    (hlim : s.heap.NoLimit) (hf : s.heap.get? f = some (kla_obj name qual params body scope [] pm c' ctv)) (hcd : s.heap.CodeRec (.ref c') qual) (hd : A.depth < recursionLimit)
    (hbind : bindArgs (kla_fn name qual params body scope [] pm (.ref c') ctv) ⟨vs, []⟩ = pure binds) (hloc : ∀ y ∈ binds, scope.names.lookup y.1 = some .local)
    (h : ∀ L h₁, Fr s.heap L h₁ (fun y => binds.reverse.lookup y) → wpAny (model prog w) (A.deeper (envX qual scope L f (.ref c') [])) (eval body (envX qual scope L f (.ref c') []))
      (After s R) No { s with heap := h₁, toks := s.toks + binds.length })
    (hco : scope.isCoroutine = false) (hgen : scope.isGenerator = false) (hk : scope.kind = .function) (hcell : ∀ x ∈ scope.names, x.2 ≠ .cell) :
    wpAny (model prog w) A (call (.ref f) vs) (After s R) No s := by
  refine wpAny_call (kla_callFunE hd hf rfl hco hgen rfl hcd ?_)
  rw [hbind]
  refine wpAny_pure (wpAny_newFunctionEnv hcell hloc (fun h₁ hns hsb => ⟨hlim.fresh _ hsb, ?_⟩) hk)
  show codeAny _ _ (.expr body (envX qual scope s.heap.objs.size f (.ref c') [])) _ _
  have hk₁ : ∀ b o, s.heap.get? b = some o → h₁.get? b = some o := fun b o e => hsb.extBut b o (Nat.ne_of_lt (Heap.lt_size e)) (Heap.get?_push_of_some _ e)
  exact kla_codeExpr (wpAny_mono (h s.heap.objs.size h₁ ⟨hns, hk₁, Nat.le_refl _⟩) (fun v s' hv => hv) fun _ _ e => e.elim)

theorem nones_of {ps : List (Option Nat)} {vs : List Value} (P : Paired (partV .none) ps vs) : (vs.filter (· == .none)).length = nones ps ∧ vs.length = ps.length ∧ ∀ v ∈ vs, v = .none ∨ ∃ x t, v = .str x t := by
  induction P with
  | nil => exact ⟨rfl, rfl, fun _ h => nomatch h⟩
  | cons e tt ih =>
    rename_i p v ps vs
    obtain ⟨i1, i2, i3⟩ := ih
    cases p with
    | none =>
      have e : v = .none := e
      subst e
      refine ⟨?_, by simp [i2], fun x hx => ?_⟩
      · rw [List.filter_cons_of_pos (by rfl), List.length_cons, i1]; simp [nones]
      · rcases List.mem_cons.mp hx with rfl | hx
        · exact .inl rfl
        · exact i3 x hx
    | some c =>
      obtain ⟨t, rfl⟩ := e
      refine ⟨?_, by simp [i2], fun x hx => ?_⟩
      · rw [List.filter_cons_of_neg (by simp), i1]; simp [nones]
      · rcases List.mem_cons.mp hx with rfl | hx
        · exact .inr ⟨_, _, rfl⟩
        · exact i3 x hx
/-- the figures of a row -/
def aa (r : Nat → List Nat) (i : Nat) : Int := (starsN (r i) : Int) - (wr (r i)).length - 8
def bb (r : Nat → List Nat) (i : Nat) : Int := (runs false (r i) : Nat)

theorem LS.keepsT {r : Nat → List Nat} {L : Addr} {h h' : Heap} (X : LS r L h) (k : ∀ b o, o ≠ tabObj #[] → h.get? b = some o → h'.get? b = some o) : LS r L h' := by
  have kc : ∀ b o v, o.data = .cell v → h.get? b = some o → h'.get? b = some o := fun b o v hd e => k b o (fun q => by rw [q] at hd; cases hd) e
  have kl : ∀ b (items : Array Value), h.IsList b items → h'.IsList b items := fun b items ⟨o, e, hc, n, hd⟩ => ⟨o, k b o (fun q => by rw [q] at hd; cases hd) e, hc, n, hd⟩
  exact { rows := let ⟨o, D, t0, t1, t2, a, b, c⟩ := X.rows; ⟨o, D, t0, t1, t2, kc _ _ _ b a, b, kl _ _ c⟩
          words := let ⟨o, D, t0, t1, t2, a, b, c⟩ := X.words; ⟨o, D, t0, t1, t2, kc _ _ _ b a, b, kl _ _ c⟩
          items := let ⟨o, D, P, ps, a, b, c, d⟩ := X.items; ⟨o, D, P, ps, kc _ _ _ b a, b, kl _ _ c, fun i hi => ⟨kl _ _ (d i hi).1, (d i hi).2⟩⟩ }
/-- a lambda is made; its table grows -/
theorem lam_made {g : Heap} {L a c P : Addr} {m : Str → Option Value} {cn : Str} {cs : Scope} {ccd : Value} {cl : List (Str × Addr)} {p : Program} {loose : List Str} {mean : ExcName → Option Value} {qual : Str} {params : Arguments} {body : Expr} {scope : Scope} {pos : Pos} {line : Nat}
    {M : Model} {E Q : Value → Shared → Prop} (F : Fr g L s.heap m) (hP : s.heap.get? P = some (tabObj #[])) (hP0 : g.get? P = none) (T : Top p loose mean mg mb g) (C : CodeHd g c P) (hcd : ccd = .ref c) (hcl : closureFor scope (envX cn cs L a ccd cl) = pure [])
    (h : ∀ f c' ctv h' tk, (∀ b o, b ≠ P → s.heap.get? b = some o → h'.get? b = some o) → h'.get? f = some (kla_obj "<lambda>" qual params body scope [] ((mg "__name__").getD .none) c' ctv) → h'.CodeRec (.ref c') qual → GrownAt P h' → Q (.ref f) { s with heap := h', toks := tk }) :
    wpAny M A (makeFunction "<lambda>" qual params (.expr body) scope (envX cn cs L a ccd cl) [] [] [] pos line) Q E s := by
  obtain ⟨bm, ob, b1, b2, b3, b4, b5, b6⟩ := T.bmain
  have hgP : mainGlobals ≠ P := fun q => by
    obtain ⟨o, es, ep, e, hd, _⟩ := T.g
    rw [q, hP0] at e; cases e
  have hbP : bm ≠ P := fun q => by rw [q, hP0] at b3; cases b3
  have hbG : bm ≠ mainGlobals := fun q => by
    obtain ⟨o, es, ep, e, hd, _⟩ := T.g
    rw [q, e] at b3; cases b3; rw [hd] at b6; cases b6
  refine kla_makeFunction (mg := mg) hcl rfl (T.g.keeps F.keep) hcd (C.keeps F.keep) hP True.intro rfl hgP ⟨bm, ob, b1, b2, hbG, hbP, F.keep _ _ b3, b4, b5, b6⟩ fun c' ctv h' tk hx hge hlt hrec htb => ?_
  refine h _ c' ctv _ tk (fun b o hb e => Heap.get?_push_of_some _ (hx b o hb e)) (Heap.get?_push_size _ rfl) ?_ ⟨_, Heap.get?_push_of_some _ htb⟩
  obtain ⟨c₂, oc, vs, t, e2, hoc, r⟩ := hrec
  exact ⟨c₂, oc, vs, t, e2, Heap.get?_push_of_some _ hoc, r⟩
end
end Mine
end
section
open PySem PySem.W PySem.Calls PyProof.Rows
set_option maxRecDepth 100000
set_option maxHeartbeats 4000000
namespace Mine
theorem at_ns (w : World) : nsIn (hdK w.params) mainGlobals "nsmallest" = some (some (.ref 158)) := by k_is
theorem keep_ns (w : World) : keepIn (hdK w.params) (.ref 158) = true := by k_is
theorem at_count (w : World) : nsIn (hdK w.params) mainGlobals "_law_count" = some (some (.ref 188)) := by k_is
theorem keep_count (w : World) : keepIn (hdK w.params) (.ref 188) = true := by k_is
/-- the list of the two least -/
inductive LeastIs (r : Nat → List Nat) (D : Addr) (h : Heap) : Prop
  | mk (u v : Nat) (Tu Tv Ku Kv : Addr) (tu tv : Tok) (e : (u, v) = pickE (aa r) (bb r)) (hu : u < 3) (hv : v < 3) (l : h.IsList D #[.ref Tu, .ref Tv])
    (a : h.IsTuple Tu #[.ref Ku, .int (u : Nat) tu]) (b : KeyIs h Ku (aa r u) (bb r u)) (c : h.IsTuple Tv #[.ref Kv, .int (v : Nat) tv]) (d : KeyIs h Kv (aa r v) (bb r v))
theorem LeastIs.keeps {r : Nat → List Nat} {D : Addr} {h h' : Heap} (X : LeastIs r D h) (k : Ext h h') : LeastIs r D h' := by
  obtain ⟨u, v, Tu, Tv, Ku, Kv, tu, tv, a, b, c, d, ⟨o1, e1, q1⟩, f, ⟨o2, e2, q2⟩, g⟩ := X
  exact ⟨u, v, Tu, Tv, Ku, Kv, tu, tv, a, b, c, d.at fun o e => k _ o e, ⟨o1, k _ _ e1, q1⟩, f.keeps k, ⟨o2, k _ _ e2, q2⟩, g.keeps k⟩
/-- three entries, as made -/
inductive Ent3 (r : Nat → List Nat) (zs : List (Value × List (Addr × Obj))) : Prop
  | mk (T0 K0 T1 K1 T2 K2 : Addr) (a0 b0 c0 a1 b1 c1 a2 b2 c2 : Tok)
    (em : zs.flatMap (·.2) = [(T0, tupO [.ref K0, .int (0 : Nat) c0]), (K0, tupO [.int (aa r 0) a0, .int (bb r 0) b0]), (T1, tupO [.ref K1, .int (1 : Nat) c1]), (K1, tupO [.int (aa r 1) a1, .int (bb r 1) b1]), (T2, tupO [.ref K2, .int (2 : Nat) c2]), (K2, tupO [.int (aa r 2) a2, .int (bb r 2) b2])])
    (em1 : zs.map (·.1) = [.ref T0, .ref T1, .ref T2])
theorem ent3 {r : Nat → List Nat} {vs' : List Value} {zs : List (Value × List (Addr × Obj))} (hlen : vs'.length = 3) (hP : ∀ (j : Nat) v, vs'[j]? = some v → j < 3 ∧ ∃ u, v = .int (0 + (j : Int) * 1) u)
    (hF : Paired (fun v (z : Value × List (Addr × Obj)) => ∀ (i : Nat) t, v = .int i t → i < 3 → ∃ T K t1 t2 t3, z.1 = .ref T ∧ z.2 = [(T, tupO [.ref K, .int i t3]), (K, tupO [.int (aa r i) t1, .int (bb r i) t2])]) (vs'.filter fun _ => true) zs) : Ent3 r zs := by
  obtain ⟨v0, v1, v2, rfl⟩ := len3 hlen
  obtain ⟨-, x0, rfl⟩ := hP 0 v0 rfl
  obtain ⟨-, x1, rfl⟩ := hP 1 v1 rfl
  obtain ⟨-, x2, rfl⟩ := hP 2 v2 rfl
  simp only [List.filter_cons_of_pos, List.filter_nil] at hF
  cases hF with | cons f0 hF => cases hF with | cons f1 hF => cases hF with | cons f2 hF =>
  cases hF
  obtain ⟨T0, K0, a0, b0, c0, q0, e0⟩ := f0 0 x0 (by simp) (by decide)
  obtain ⟨T1, K1, a1, b1, c1, q1, e1⟩ := f1 1 x1 (by simp) (by decide)
  obtain ⟨T2, K2, a2, b2, c2, q2, e2⟩ := f2 2 x2 (by simp) (by decide)
  exact ⟨T0, K0, T1, K1, T2, K2, a0, b0, c0, a1, b1, c1, a2, b2, c2, by simp [e0, e1, e2], by simp [q0, q1, q2]⟩
theorem pickE_lt (a b : Nat → Int) : (pickE a b).1 < 3 ∧ (pickE a b).2 < 3 := by
  unfold pickE pick
  repeat' split
  all_goals exact ⟨by decide, by decide⟩
section
variable {prog : Program} {w : World} {mg mb : Str → Option Value} {A : Around} {s : Shared}
/-- a local name is stored; the ledger and what is hidden go on -/
theorem stBN {g : Heap} {L a : Addr} {m : Str → Option Value} {news : List (Addr × Obj)} {cn : Str} {cs : Scope} {ccd : Value} {cl : List (Str × Addr)} {x : Str} {v : Value} {M : Model} {E : Value → Shared → Prop} {Q : Unit → Shared → Prop} (F : Fr g L s.heap m) (N : News g L s.heap news)
    (h : ∀ h', Fr g L h' (fun y => if y = x then some v else m y) → News g L h' news → Ext (BB L s.heap) (BB L h') → Q () { s with heap := h', toks := s.toks + 1 })
    (hk : cs.kind = .function := by rfl) (hx : (envX cn cs L a ccd cl).kindOf x = some .local := by rfl) : wpAny M A (storeName (envX cn cs L a ccd cl) x v) Q E s :=
  wpAny_storeName_local hx F.ns (fun h' hn hs => h h' (F.set hn hs) (N.set hs) (bb_keep fun b o h1 _ e => hs.extBut b o h1 e)) (by show (cs.kind == .class || (cs.kind == .module && L != mainGlobals)) = false; rw [hk]; rfl)
/-- least -/
theorem law_B {sc : Scope} {bd : List Stmt} (hsc : sc = lawScope) (hbd : bd = lawBody.drop 3) {g : Heap} {L fa : Addr} {o4 : Obj} {m : Str → Option Value} {r : Nat → List Nat} {p : Program} {loose : List Str} {mean : ExcName → Option Value}
    (G : Gd w mg mb g) (T : Top p loose mean mg mb g) (CH : CodeHd g 211 209) (hh : A.handled = none) (hd : A.depth + 20 < recursionLimit) (hu : A.units + 300 < cLine)
    (hr : ∀ i, i < 3 → r i ≠ [] ∧ rowOk (r i)) (F : Fr g L s.heap m) (X : LS r L (BB L s.heap)) (N : News g L s.heap [(L + 1 + 1 + 1 + 1, o4), (112, tabObj #[]), (209, tabObj #[])]) (hlt : (112 : Addr) ≠ L + 1 + 1 + 1 + 1 ∧ (209 : Addr) ≠ L + 1 + 1 + 1 + 1)
    (hnext : ∀ (h' : Heap) (tk : Nat) (m' : Str → Option Value) (Dl : Addr), Fr g L h' m' → m' "least" = some (.ref Dl) → LS r L (BB L h') → GrownAt 112 (BB L h') → GrownAt 209 (BB L h') → LeastIs r Dl (BB L h') → News g L h' [(L + 1 + 1 + 1 + 1, o4)] →
      wpAny (model prog w) (A.deeper (envOfC (Str.ofString "law") lawScope L fa (.ref 211))) (execs (lawBody.drop 4) (envOfC (Str.ofString "law") lawScope L fa (.ref 211))) (Done g { s with heap := h', toks := tk }) No { s with heap := h', toks := tk }) :
    wpAny (model prog w) (A.deeper (envOfC (Str.ofString "law") sc L fa (.ref 211))) (execs bd (envOfC (Str.ofString "law") sc L fa (.ref 211))) (Done g s) No s := by
  conv at hsc => rhs; whnf
  conv at hbd => rhs; whnf
  subst hsc hbd
  (refine wpAny_execs_cons ?_; with_reducible refine wpAny_Assign_Name ?_ ?as2x101; (case as2x101 => with_unfolding_all exact rfl))
  refine wpAny_Call_Name_kw ?_
  refine nmG G F.keep (at_ns w) ?_
  refine callWith_KW (G.ext F.keep).k (keep_ns w) ?hall ?_
  case hall => exact rfl
  refine args_cons (wpAny_Constant_int (args_cons ?_))
  refine comp (cl := [(Str.ofString "items", L + 1 + 1 + 1)]) rfl (by decide) rfl (by decide) rfl ?_
  refine Call_ (gnX F G (at_range w) rfl (by decide) (PyProof.Rows.callWith_type1 (args_cons (wpAny_Constant_int (args_nil (call_range_1 ?_))))))
  refine ⟨3, _, (fun _ => true), (fun v y os => ∀ (i : Nat) t, v = .int i t → i < 3 → ∃ T K t1 t2 t3, y = .ref T ∧ os = [(T, tupO [.ref K, .int i t3]), (K, tupO [.int (aa r i) t1, .int (bb r i) t2])]), Iters.bound (iters_range (A := A.deeper _) (a := 0) (b := 3) (c := 1) (n := 3) hh (IsRange.new ..) (by decide) (by decide)), ?_, ?_, ?_, ?_⟩
  · rw [sizeLine_eq]; (first | lia | omega)
  · intro C i v s₂ m₂ hP hn hm hx hC
    exact tests0
  · intro C i v s₂ m₂ hP hp hn hm hx hC
    obtain ⟨hi, u, rfl⟩ := hP
    have ei : (0 + (i : Int) * 1) = (i : Int) := by (first | lia | omega)
    rw [ei] at hm ⊢
    have hx2 : Ext s.heap s₂.heap := fun b o e => hx b o (Heap.get?_push_of_some _ e)
    obtain ⟨o3, Di, P, ps, q1, q2, q3, q4⟩ := (X.keeps (bb_in (L := L))).items
    have hk2 : Ext g s₂.heap := fun b o e => hx2 _ _ (F.keep _ _ e)
    have hIt : (#[Value.ref (P 0), .ref (P 1), .ref (P 2)].toList)[i]? = some (.ref (P i)) := by
      have : i = 0 ∨ i = 1 ∨ i = 2 := by (first | lia | omega)
      rcases this with rfl | rfl | rfl <;> rfl
    refine Tuple_ (args_cons ?_)
    refine Call_ (nmG G hk2 (at_count w) (callWith_K (G.ext hk2).k (keep_count w) (args_cons (Subscript_ (nmF (c := L + 1 + 1 + 1) rfl (hx2 _ _ q1) q2 (nmL hn hm ?_))))))
    refine item_listL (l := [.ref (P 0), .ref (P 1), .ref (P 2)]) (q3.at fun o e => hx2 _ o e) (by (first | lia | omega)) (by (first | lia | omega)) (x := .ref (P i)) (by simpa using hIt) ?_
    refine args_nil ⟨(G.ext hk2).k, ?_⟩
    obtain ⟨c1, c2, c3⟩ := nones_of (q4 i hi).2
    have hpl := parts_len (word (r i))
    have hwl := word_len (r i)
    have hwr := wr_len (r i)
    have hrl := (hr i hi).2.2
    refine use (sp_count (G.ext hk2) hh (by show A.depth + 1 < _; (first | lia | omega)) ((q4 i hi).1.at fun o e => hx2 _ o e) (by rw [c2]; (first | lia | omega)) c3) ?_
    rintro v os h₃ tk₃ x3 mk3 ⟨K, t1, t2, rfl, rfl⟩
    refine args_cons (nmL (hn.keeps x3) hm (args_nil ?_))
    refine wpAny_newTuple ?_
    obtain ⟨w1, w2⟩ := count_word (r := r i) (fun c hc => .inl ((hr i hi).2.1 c hc))
    rw [c1, c2, w1] at mk3
    have wa : ((runs false (r i) : Nat) : Int) - ((parts (word (r i))).length : Nat) = aa r i := by rw [w1] at w2; exact w2
    rw [wa] at mk3
    refine ⟨_, _, [(h₃.objs.size, tupO [.ref K, .int i u]), (K, tupO [.int (aa r i) t1, .int (bb r i) t2])], rfl, fun b o e => Heap.get?_push_of_some _ (x3 _ _ e), allC ⟨?_, Heap.get?_push_size _ rfl⟩ (allC ⟨(mk3 _ (.head _)).1, Heap.get?_push_of_some _ (mk3 _ (.head _)).2⟩ allN), fun i' t' e' hi' => ?_⟩
    · cases e : s₂.heap.get? h₃.objs.size with
      | none => rfl
      | some o => exact nomatch (new_none h₃).symm.trans (x3 _ _ e)
    · injection e' with e1 e2
      have : i = i' := by (first | lia | omega)
      subst this
      exact ⟨_, K, t1, t2, u, rfl, rfl⟩
  intro D h₄ tk₄ vs' zs kD hlen hP hF mk4 hx4
  obtain ⟨T0, K0, T1, K1, T2, K2, a0, b0, c0, a1, b1, c1, a2, b2, c2, em, em1⟩ := ent3 hlen hP hF
  rw [em, em1] at mk4
  clear em em1 hP hlen hF
  have N4 := news_made (F.push _) (N.pushKeep _) hx4 mk4
  have F4 := (F.push _).keeps hx4
  have X4 := X.keeps (bb_ext (L := L) (h' := h₄) fun b o e => hx4 _ _ (Heap.get?_push_of_some _ e))
  dsimp only [List.cons_append, List.nil_append] at N4 ⊢
  refine args_nil ?_
  have hpn0 : ∀ q ∈ [D, T0, K0, T1, K1, T2, K2], Heap.get? (s.heap.push _) q = none := allC (mk4 _ (.head _)).1 (allC (mk4 _ (.tail _ (.head _))).1 (allC (mk4 _ (.tail _ (.tail _ (.head _)))).1 (allC (mk4 _ (.tail _ (.tail _ (.tail _ (.head _))))).1 (allC (mk4 _ (.tail _ (.tail _ (.tail _ (.tail _ (.head _)))))).1
    (allC (mk4 _ (.tail _ (.tail _ (.tail _ (.tail _ (.tail _ (.head _))))))).1 (allC (mk4 _ (.tail _ (.tail _ (.tail _ (.tail _ (.tail _ (.tail _ (.head _)))))))).1 allN))))))
  have hpn : ∀ q oq, q ∈ [D, T0, K0, T1, K1, T2, K2] → s.heap.get? q = some oq → False := fun q oq hq e => nomatch (Heap.get?_push_of_some _ e).symm.trans (hpn0 q hq)
  clear hpn0
  have hn9 : ∀ q, q ∈ [D, T0, K0, T1, K1, T2, K2] → q ≠ (209 : Addr) ∧ q ≠ (112 : Addr) ∧ q ≠ L + 1 + 1 + 1 + 1 := fun q hq => ⟨fun e => hpn q _ hq (e ▸ (N _ (.tail _ (.tail _ (.head _)))).1), fun e => hpn q _ hq (e ▸ (N _ (.tail _ (.head _))).1), fun e => hpn q _ hq (e ▸ (N _ (.head _)).1)⟩
  clear hpn mk4 hx4 F N X
  -- the lambda
  have h209 := N4 (209, tabObj #[]) (.tail _ (.tail _ (.tail _ (.tail _ (.tail _ (.tail _ (.tail _ (.tail _ (.tail _ (.head _))))))))))
  refine kws_cons (kla_eval rfl (lam_made F4 h209.1 h209.2.2 T CH rfl rfl ?_))
  intro f c' ctv h₅ tk₅ k5 hf5 hcd5 hg5
  have F : Fr g L h₅ m := ⟨F4.ns.at' fun o e => k5 _ _ (Ne.symm h209.2.1) e, fun b o e => k5 _ _ (fun q => by rw [q, h209.2.2] at e; cases e) (F4.keep _ _ e), F4.above⟩
  have hb9 : ∀ b o, o ≠ tabObj #[] → (BB L h₄).get? b = some o → (BB L h₅).get? b = some o := fun b o ho e => by
    obtain ⟨e1, e2, e3⟩ := bb_get e
    refine bb_of (k5 _ _ (fun q => ?_) e1) e2 e3
    rw [q, h209.1] at e1
    exact ho (Option.some.inj e1).symm
  have X5 := X4.keepsT hb9
  have N5 : ∀ b o, b ≠ (209 : Addr) → (b, o) ∈ [(D, listO [.ref T0, .ref T1, .ref T2] kD), (T0, tupO [.ref K0, .int (0 : Nat) c0]), (K0, tupO [.int (aa r 0) a0, .int (bb r 0) b0]), (T1, tupO [.ref K1, .int (1 : Nat) c1]), (K1, tupO [.int (aa r 1) a1, .int (bb r 1) b1]), (T2, tupO [.ref K2, .int (2 : Nat) c2]), (K2, tupO [.int (aa r 2) a2, .int (bb r 2) b2]), (L + 1 + 1 + 1 + 1, o4), (112, tabObj #[]), (209, tabObj #[])] → h₅.get? b = some o := fun b o hb hm => k5 _ _ hb (N4 _ hm).1
  have zD := N5 D _ (hn9 D (.head _)).1 (.head _)
  have zT0 := N5 T0 _ (hn9 T0 (.tail _ (.head _))).1 (.tail _ (.head _))
  have zK0 := N5 K0 _ (hn9 K0 (.tail _ (.tail _ (.head _)))).1 (.tail _ (.tail _ (.head _)))
  have zT1 := N5 T1 _ (hn9 T1 (.tail _ (.tail _ (.tail _ (.head _))))).1 (.tail _ (.tail _ (.tail _ (.head _))))
  have zK1 := N5 K1 _ (hn9 K1 (.tail _ (.tail _ (.tail _ (.tail _ (.head _)))))).1 (.tail _ (.tail _ (.tail _ (.tail _ (.head _)))))
  have zT2 := N5 T2 _ (hn9 T2 (.tail _ (.tail _ (.tail _ (.tail _ (.tail _ (.head _))))))).1 (.tail _ (.tail _ (.tail _ (.tail _ (.tail _ (.head _))))))
  have zK2 := N5 K2 _ (hn9 K2 (.tail _ (.tail _ (.tail _ (.tail _ (.tail _ (.tail _ (.head _)))))))).1 (.tail _ (.tail _ (.tail _ (.tail _ (.tail _ (.tail _ (.head _)))))))
  have z4 : News g L h₅ [(L + 1 + 1 + 1 + 1, o4)] := fun q hq => by
    rw [List.mem_singleton.mp hq]
    have := N4 (L + 1 + 1 + 1 + 1, o4) (.tail _ (.tail _ (.tail _ (.tail _ (.tail _ (.tail _ (.tail _ (.head _))))))))
    exact ⟨k5 _ _ (Ne.symm hlt.2) this.1, this.2⟩
  have zne : ∀ q ∈ [D, T0, K0, T1, K1, T2, K2], q ≠ L := allC (N4 _ (.head _)).2.1 (allC (N4 _ (.tail _ (.head _))).2.1 (allC (N4 _ (.tail _ (.tail _ (.head _)))).2.1 (allC (N4 _ (.tail _ (.tail _ (.tail _ (.head _))))).2.1 (allC (N4 _ (.tail _ (.tail _ (.tail _ (.tail _ (.head _)))))).2.1
    (allC (N4 _ (.tail _ (.tail _ (.tail _ (.tail _ (.tail _ (.head _))))))).2.1 (allC (N4 _ (.tail _ (.tail _ (.tail _ (.tail _ (.tail _ (.tail _ (.head _)))))))).2.1 allN))))))
  have g112 := N4 (112, tabObj #[]) (.tail _ (.tail _ (.tail _ (.tail _ (.tail _ (.tail _ (.tail _ (.tail _ (.head _)))))))))
  have g112' := k5 _ _ (show (112 : Addr) ≠ 209 by decide) g112.1
  clear N5 hb9 X4 k5
  refine kws_nil ?_
  refine ⟨(G.ext F.keep).k, ?_⟩
  have KI : ∀ i, i < 3 → KeyIs h₅ (if i = 0 then K0 else if i = 1 then K1 else K2) (aa r i) (bb r i) := all3 ⟨_, _, _, zK0, rfl, _, rfl⟩ ⟨_, _, _, zK1, rfl, _, rfl⟩ ⟨_, _, _, zK2, rfl, _, rfl⟩
  have TI : ∀ i, i < 3 → ∃ ti, h₅.get? (if i = 0 then T0 else if i = 1 then T1 else T2) = some (tupO [.ref (if i = 0 then K0 else if i = 1 then K1 else K2), .int (i : Nat) ti]) := all3 ⟨_, zT0⟩ ⟨_, zT1⟩ ⟨_, zT2⟩
  refine use (sp_nsmallest (I := D) (f := f) (e := fun i => .ref (if i = 0 then T0 else if i = 1 then T1 else T2)) (kk := fun i => if i = 0 then K0 else if i = 1 then K1 else K2) (a := aa r) (b := bb r) (G.ext F.keep) hh (by show A.depth + 1 + 4 < _; (first | lia | omega)) (by show A.units + 3 + 40 < _; (first | lia | omega)) ⟨_, _, _, _, hf5⟩ ⟨_, zD, rfl, _, rfl⟩ KI ?_) ?_
  · intro A' s' i hi hh' hdep hx
    obtain ⟨ti, hti⟩ := TI i hi
    refine lam_call ((G.ext F.keep).lim.keeps hx) (hx _ _ hf5) ?_ ?_ (binds := [(Str.ofString "pair", .ref (if i = 0 then T0 else if i = 1 then T1 else T2))]) rfl (locs rfl) (fun L' h₁ F' => ?_) rfl rfl rfl (by decide)
    · obtain ⟨c₂, oc, vs, t, e2, hoc, rr⟩ := hcd5
      exact ⟨c₂, oc, vs, t, e2, hx _ _ hoc, rr⟩
    · have : A'.depth ≤ A.depth + 1 + 1 := hdep
      (first | lia | omega)
    · refine Subscript_ (nameX_L F' rfl (wpAny_Constant_int ?_))
      refine item_tupleT (l := [.ref (if i = 0 then K0 else if i = 1 then K1 else K2), .int (i : Nat) ti]) (j := 0) ⟨_, F'.keep _ _ (hx _ _ hti), rfl, _, rfl⟩ (by decide) (by decide) rfl rfl ?_
      exact afterF F' News.nil [] (fun _ h => nomatch h) ⟨rfl, rfl⟩
  rintro v os h₆ tk₆ x6 mk6 ⟨Dl, nl, rfl, rfl⟩
  have N6 := news_made F z4 x6 mk6
  have n4 : Dl ≠ L + 1 + 1 + 1 + 1 := fun q => by
    have h2 := (mk6 _ (.head _)).1
    rw [q] at h2
    exact absurd (h2.symm.trans (z4 _ (.head _)).1) (by simp)
  have F6 := F.keeps x6
  dsimp only [List.cons_append, List.nil_append] at N6 ⊢
  refine stBN F6 N6 (fun h₇ F N x7 => ?_)
  dsimp only at F N ⊢
  have x57 : Ext (BB L h₅) (BB L h₇) := (bb_ext x6).trans x7
  have n9 : (209 : Addr) ≠ L := h209.2.1
  have n12 : (112 : Addr) ≠ L := g112.2.1
  obtain ⟨pl1, pl2⟩ := pickE_lt (aa r) (bb r)
  have bT : ∀ q o, q ∈ [D, T0, K0, T1, K1, T2, K2] → h₅.get? q = some o → (BB L h₇).get? q = some o := fun q o hq e => x57 _ _ (bb_of e (zne q hq) (hn9 q hq).2.2)
  have KB : ∀ i, i < 3 → KeyIs (BB L h₇) (if i = 0 then K0 else if i = 1 then K1 else K2) (aa r i) (bb r i) := all3 ⟨_, _, _, bT K0 _ (.tail _ (.tail _ (.head _))) zK0, rfl, _, rfl⟩ ⟨_, _, _, bT K1 _ (.tail _ (.tail _ (.tail _ (.tail _ (.head _))))) zK1, rfl, _, rfl⟩ ⟨_, _, _, bT K2 _ (.tail _ (.tail _ (.tail _ (.tail _ (.tail _ (.tail _ (.head _))))))) zK2, rfl, _, rfl⟩
  have TB : ∀ i, i < 3 → ∃ ti, (BB L h₇).get? (if i = 0 then T0 else if i = 1 then T1 else T2) = some (tupO [.ref (if i = 0 then K0 else if i = 1 then K1 else K2), .int (i : Nat) ti]) := all3 ⟨_, bT T0 _ (.tail _ (.head _)) zT0⟩ ⟨_, bT T1 _ (.tail _ (.tail _ (.tail _ (.head _)))) zT1⟩ ⟨_, bT T2 _ (.tail _ (.tail _ (.tail _ (.tail _ (.tail _ (.head _)))))) zT2⟩
  obtain ⟨tu, htu⟩ := TB _ pl1
  obtain ⟨tv, htv⟩ := TB _ pl2
  have h4e : (L + 1 + 1 + 1 + 1 : Addr) = L + 4 := rfl
  refine hnext h₇ _ _ Dl F rfl (X5.keeps x57) (grown_keeps ⟨_, bb_of g112' n12 hlt.1⟩ x57) ?_ ⟨(pickE (aa r) (bb r)).1, (pickE (aa r) (bb r)).2, _, _, _, _, tu, tv, rfl, pl1, pl2, ⟨_, bb_of (N _ (.head _)).1 (N _ (.head _)).2.1 n4, rfl, _, rfl⟩, ⟨_, htu, rfl, _, rfl⟩, KB _ pl1, ⟨_, htv, rfl, _, rfl⟩, KB _ pl2⟩ (fun q hq => N q (.tail _ hq))
  obtain ⟨pg, hpg⟩ := hg5
  exact grown_keeps ⟨pg, bb_of hpg n9 hlt.2⟩ x57
end
end Mine
end
section
open PySem PySem.W PySem.Calls PyProof.Rows
set_option maxRecDepth 100000
set_option maxHeartbeats 4000000
namespace Mine
theorem partV_inj {p q : Option Nat} {v : Value} (h1 : partV .none p v) (h2 : partV .none q v) : p = q := by
  cases p with
  | none =>
    have h1 : v = .none := h1
    cases q with
    | none => rfl
    | some d => obtain ⟨t, h2⟩ := h2; rw [h1] at h2; cases h2
  | some c =>
    obtain ⟨t, h1⟩ := h1
    cases q with
    | none => have h2 : v = .none := h2; rw [h1] at h2; cases h2
    | some d =>
      obtain ⟨u, h2⟩ := h2
      rw [h1] at h2
      injection h2 with h2 _
      have := congrArg Str.cps h2
      simp at this
      rw [this]
theorem paired_inj : ∀ {ps qs : List (Option Nat)} {vs : List Value}, Paired (partV .none) ps vs → Paired (partV .none) qs vs → ps = qs
  | _, _, _, .nil, .nil => rfl
  | _, _, _, .cons a b, .cons c d => by rw [partV_inj a c, paired_inj b d]
theorem isList_inj {h : Heap} {a : Addr} {xs ys : Array Value} (x : h.IsList a xs) (y : h.IsList a ys) : xs = ys := by
  obtain ⟨o, e1, -, n, d1⟩ := x
  obtain ⟨o', e2, -, n', d2⟩ := y
  rw [e1] at e2; cases e2
  rw [d1] at d2
  injection d2
/-- a row of three truths, as made -/
theorem row3 (x : Nat → List Nat) (b : Nat → Bool) {t0 t1 t2 : Tok} {zs : List (Value × List (Addr × Obj))}
    (hF : Paired (fun (v : Value) (z : Value × List (Addr × Obj)) => ∀ j, j < 3 → (∃ t, v = .str (S (x j)) t) → z.2 = [] ∧ z.1 = .bool (b j)) [Value.str (S (x 0)) t0, Value.str (S (x 1)) t1, Value.str (S (x 2)) t2] zs) :
    zs.flatMap (·.2) = [] ∧ zs.map (·.1) = [.bool (b 0), .bool (b 1), .bool (b 2)] := by
  cases hF with | cons f0 hF => cases hF with | cons f1 hF => cases hF with | cons f2 hF =>
  cases hF
  have f0 := f0 0 (by decide) ⟨_, rfl⟩
  have f1 := f1 1 (by decide) ⟨_, rfl⟩
  have f2 := f2 2 (by decide) ⟨_, rfl⟩
  exact ⟨by simp [f0.1, f1.1, f2.1], by simp [f0.2, f1.2, f2.2]⟩
/-- three rows of a table, as made -/
inductive Tab3 (tb : Nat → Nat → Bool) (zs : List (Value × List (Addr × Obj))) : Prop
  | mk (R0 R1 R2 : Addr) (k0 k1 k2 : Nat)
    (em : zs.flatMap (·.2) = [(R0, listO [.bool (tb 0 0), .bool (tb 0 1), .bool (tb 0 2)] k0), (R1, listO [.bool (tb 1 0), .bool (tb 1 1), .bool (tb 1 2)] k1), (R2, listO [.bool (tb 2 0), .bool (tb 2 1), .bool (tb 2 2)] k2)])
    (em1 : zs.map (·.1) = [.ref R0, .ref R1, .ref R2])
theorem tab3 {tb : Nat → Nat → Bool} {zs : List (Value × List (Addr × Obj))} (hlen : zs.length = 3) (h : ∀ i z, zs[i]? = some z → i < 3 → ∃ R k, z.1 = .ref R ∧ z.2 = [(R, listO [.bool (tb i 0), .bool (tb i 1), .bool (tb i 2)] k)]) : Tab3 tb zs := by
  obtain ⟨y0, y1, y2, rfl⟩ := len3 hlen
  obtain ⟨R0, k0, a0, e0⟩ := h 0 y0 rfl (by decide)
  obtain ⟨R1, k1, a1, e1⟩ := h 1 y1 rfl (by decide)
  obtain ⟨R2, k2, a2, e2⟩ := h 2 y2 rfl (by decide)
  exact ⟨R0, R1, R2, k0, k1, k2, by simp [e0, e1, e2], by simp [a0, a1, a2]⟩
/-- a table of truth values -/
def TabIs (tb : Nat → Nat → Bool) (D : Addr) (h : Heap) : Prop := ∃ R : Nat → Addr, h.IsList D #[.ref (R 0), .ref (R 1), .ref (R 2)] ∧ ∀ i, i < 3 → h.IsList (R i) #[.bool (tb i 0), .bool (tb i 1), .bool (tb i 2)]
theorem TabIs.keeps {tb : Nat → Nat → Bool} {D : Addr} {h h' : Heap} (X : TabIs tb D h) (k : Ext h h') : TabIs tb D h' := let ⟨R, a, b⟩ := X; ⟨R, a.at fun o e => k _ o e, fun i hi => (b i hi).at fun o e => k _ o e⟩
def tkT (r : Nat → List Nat) (i j : Nat) : Bool := takes (parts (word (r i))) (word (r j))
theorem tk_hold {r : Nat → List Nat} (hr : ∀ i, i < 3 → r i ≠ [] ∧ rowOk (r i)) {i j : Nat} (hi : i < 3) (hj : j < 3) : tkT r i j = hold (r i) (r j) := by
  have := takes_hold false (r i) (r j) (hr i hi).2.1 (hr j hj).2.1
  rw [fills_false] at this
  exact this
theorem pickE_ee {a b : Nat → Int} {u v : Nat} (h : (u, v) = pickE a b) : u ≠ v ∧ EE a b u v = true := by
  have f1 := ee_flip a b (i := 0) (j := 1) (by decide)
  have f2 := ee_flip a b (i := 0) (j := 2) (by decide)
  have f3 := ee_flip a b (i := 1) (j := 2) (by decide)
  have ok := ee_ok a b
  unfold pickE pick at h
  unfold okO at ok
  cases h10 : EE a b 1 0 <;> cases h20 : EE a b 2 0 <;> cases h21 : EE a b 2 1 <;> simp [h10, h20, h21] at h ok f1 f2 f3 <;> (obtain ⟨rfl, rfl⟩ := h; simp [*])
/-- of the two least the first takes the second only if the second takes the first -/
theorem tk_back {r : Nat → List Nat} (hr : ∀ i, i < 3 → r i ≠ [] ∧ rowOk (r i)) {u v : Nat} (hu : u < 3) (hv : v < 3) (h : (u, v) = pickE (aa r) (bb r)) (ht : tkT r u v = true) : tkT r v u = true := by
  rw [tk_hold hr hu hv] at ht
  rw [tk_hold hr hv hu]
  obtain ⟨hne, he⟩ := pickE_ee h
  obtain ⟨-, w1⟩ := wr_stars (r u) (fun c hc => .inl ((hr u hu).2.1 c hc))
  obtain ⟨-, w2⟩ := wr_stars (r v) (fun c hc => .inl ((hr v hv).2.1 c hc))
  refine back ht ?_
  unfold EE eLt kLt aa bb at he
  repeat' split at he
  all_goals simp only [decide_eq_true_eq] at he
  all_goals (first | lia | omega)
section
variable {prog : Program} {w : World} {mg mb : Str → Option Value} {A : Around} {s : Shared}
theorem bb_keepL {L : Addr} {h h' : Heap} (k : ∀ b o, b ≠ L → h.get? b = some o → h'.get? b = some o) : Ext (BB L h) (BB L h') := bb_keep fun b o h1 _ e => k b o h1 e
theorem newsL {g h h' : Heap} {L : Addr} {news : List (Addr × Obj)} (N : News g L h news) (k : ∀ b o, b ≠ L → h.get? b = some o → h'.get? b = some o) : News g L h' news := fun p hp => ⟨k _ _ (N p hp).2.1 (N p hp).1, (N p hp).2⟩
end
end Mine
end
section
open PySem PySem.W PySem.Calls PyProof.Rows
set_option maxRecDepth 100000
set_option maxHeartbeats 4000000
namespace Mine
def h0 : Heap := { objs := #[] }
theorem h0_none (b : Addr) : h0.get? b = none := Heap.get?_none_of_le (Nat.zero_le _)
/-- all that stands, but the locals -/
def allObjN (h : Heap) (L : Addr) : List (Addr × Obj) := (List.range h.objs.size).filterMap fun b => if b = L then none else (h.get? b).map fun o => (b, o)
theorem allN_of {h : Heap} {L b : Addr} {o : Obj} (hb : b ≠ L) (e : h.get? b = some o) : (b, o) ∈ allObjN h L := by
  unfold allObjN
  rw [List.mem_filterMap]
  exact ⟨b, List.mem_range.mpr (Heap.lt_size e), by rw [if_neg hb, e]; rfl⟩
theorem allN_get {h : Heap} {L : Addr} {p : Addr × Obj} (hp : p ∈ allObjN h L) : p.1 ≠ L ∧ h.get? p.1 = some p.2 := by
  unfold allObjN at hp
  obtain ⟨b, -, e⟩ := List.mem_filterMap.mp hp
  by_cases hb : b = L
  · rw [if_pos hb] at e; cases e
  · rw [if_neg hb] at e
    cases q : h.get? b with
    | none => rw [q] at e; cases e
    | some o =>
      rw [q] at e
      cases e
      exact ⟨hb, q⟩
theorem newsAll {h : Heap} {L : Addr} : News h0 L h (allObjN h L) := fun p hp => ⟨(allN_get hp).2, (allN_get hp).1, h0_none _⟩
theorem frAll {g h : Heap} {L : Addr} {m : Str → Option Value} (F : Fr g L h m) : Fr h0 L h m := ⟨F.ns, fun b o e => (by rw [h0_none] at e; cases e), Nat.zero_le _⟩
section
variable {prog : Program} {w : World} {A : Around} {s : Shared} {E : Value → Shared → Prop}
/-- sorted() of three entries -/
theorem sorted_three {g : Heap} {L l : Addr} {m : Str → Option Value} {e : Nat → Value} {a b : Nat → Int} {Q : Value → Shared → Prop} (F : Fr g L s.heap m) (hl : s.heap.IsList l #[e 0, e 1, e 2]) (hE : ∀ i, i < 3 → EntryIs s.heap (e i) (a i) (b i) i) (hE' : ∀ i, i < 3 → ∀ h', (∀ c o, c ≠ L → s.heap.get? c = some o → h'.get? c = some o) → EntryIs h' (e i) (a i) (b i) i) (hu : A.units + 10 < cLine)
    (h : ∀ D' c h' z, Fr g L h' m → (∀ c o, c ≠ L → s.heap.get? c = some o → h'.get? c = some o) → s.heap.get? D' = none → h'.get? D' = some (listO [e (pickE a b).1, e (pickE a b).2, z] c) → Q (.ref D') { s with heap := h' }) :
    wpAny (model prog w) A (call (.builtin "sorted") [.ref l]) Q E s := by
  refine kat_sorted (vs := [e 0, e 1, e 2]) (frAll F) newsAll hl (by simp) (by simp) (fun D ep h₁ F1 N1 hlt => ?_)
  have keep1 : ∀ c o, c ≠ L → s.heap.get? c = some o → h₁.get? c = some o := fun c o hc ec => (N1 _ (.tail _ (allN_of hc ec))).1
  have EE1 := fun i hi => hE' i hi h₁ keep1
  refine kind_entries (P := fun _ => True) (fun v hv => ?_) (by simp) ?_
  · simp only [List.mem_cons, List.not_mem_nil, or_false] at hv
    rcases hv with rfl | rfl | rfl
    · exact ⟨_, _, _, EE1 0 (by decide)⟩
    · exact ⟨_, _, _, EE1 1 (by decide)⟩
    · exact ⟨_, _, _, EE1 2 (by decide)⟩
  have hget : ∀ i, i < 3 → ([e 0, e 1, e 2] : List Value).getD i .none = e i := fun i hi => by
    have : i = 0 ∨ i = 1 ∨ i = 2 := by (first | lia | omega)
    rcases this with rfl | rfl | rfl <;> rfl
  refine kasWp_run (n := 3) (lt := fun i j => EE a b i j) (fun i j hi hj hij C hC => ?_) _ ok3 ?_
  · refine ask_entry (hget i hi ▸ EE1 i hi) (hget j hj ▸ EE1 j hj) (by show A.units + 1 + 1 + 1 < _; (first | lia | omega)) (by (first | lia | omega)) hC
  obtain ⟨z, hz⟩ := run3 (lt := fun i j => EE a b i j) (fun i j _ _ hij => ee_flip a b hij) (ee_ok a b)
  have hz' : (runB (fun i j => EE a b i j) (kas_sort [e 0, e 1, e 2].length)).toList = [(pickE a b).1, (pickE a b).2, z] := hz
  rw [hz']
  obtain ⟨p1, p2⟩ := pickE_lt a b
  refine ⟨_, _, F1, N1, .head (fun p hp => Nat.ne_of_lt (hlt p hp)), fun h₂ c F2 N2 => ?_⟩
  have keep2 : ∀ c o, c ≠ L → s.heap.get? c = some o → h₂.get? c = some o := fun c o hc ec => (N2 _ (.tail _ (allN_of hc ec))).1
  have zD := N2 _ (.head _)
  refine h D c h₂ (([e 0, e 1, e 2] : List Value).getD z .none) ⟨F2.ns, fun c o ec => keep2 _ _ (fun q => ?_) (F.keep _ _ ec), F.above⟩ keep2 ?_ ?_
  · exact absurd (Nat.lt_of_lt_of_le (Heap.lt_size ec) F.above) (by rw [q]; exact Nat.lt_irrefl _)
  · cases ec : s.heap.get? D with
    | none => rfl
    | some o => exact absurd (hlt _ (allN_of zD.2.1 ec)) (Nat.lt_irrefl _)
  · have := zD.1
    simp only [List.map_cons, List.map_nil, hget _ p1, hget _ p2] at this
    exact this
end
end Mine
end
section
open PySem PySem.W PySem.Calls PyProof.Rows
set_option maxRecDepth 100000
set_option maxHeartbeats 4000000
namespace Mine
theorem at_takes (w : World) : nsIn (hdK w.params) mainGlobals "_law_takes" = some (some (.ref 193)) := by k_is
theorem keep_takes (w : World) : keepIn (hdK w.params) (.ref 193) = true := by k_is
section
variable {prog : Program} {w : World} {mg mb : Str → Option Value} {A : Around} {s : Shared}
/-- an item of a list that an expression gave -/
theorem item_listT {value slice : Expr} {a : Addr} {l : List Value} {k : Int} {u : Tok} {x : Value} {E Q : Value → Shared → Prop} (hl : s.heap.IsList a l.toArray) (h0 : 0 ≤ k) (hfit : k < 2 ^ 63) (hx : l[k.toNat]? = some x) (h : Q x s)
    (hs : subscripted slice false (.ref a) (.int k u) = operate [.ref a, .int k u] (getItem (.ref a) (.int k u)) := by with_unfolding_all rfl) :
    wpAny (model prog w) A (subscriptTail value slice (.ref a) (.int k u)) Q E s :=
  tail_any hl.typeIs slot_list_getitem.lookup (wpAny_getItem_list (x := x) hl h0 hfit (by simpa using hx) h) hs
/-- table, first, second, the first question -/
theorem law_C {sc : Scope} {bd : List Stmt} (hsc : sc = lawScope) (hbd : bd = lawBody.drop 4) {g : Heap} {L fa Dl : Addr} {o4 : Obj} {m : Str → Option Value} {r : Nat → List Nat}
    (G : Gd w mg mb g) (hh : A.handled = none) (hd : A.depth + 20 < recursionLimit) (hu : A.units + 300 < cLine)
    (hr : ∀ i, i < 3 → r i ≠ [] ∧ rowOk (r i)) (F : Fr g L s.heap m) (hm : m "least" = some (.ref Dl)) (X : LS r L (BB L s.heap)) (g1 : GrownAt 112 (BB L s.heap)) (g2 : GrownAt 209 (BB L s.heap)) (Y : LeastIs r Dl (BB L s.heap)) (N : News g L s.heap [(L + 1 + 1 + 1 + 1, o4)])
    (hnext : ∀ (h' : Heap) (tk : Nat) (m' : Str → Option Value) (Dt : Addr), Fr g L h' m' → m' "least" = some (.ref Dl) → m' "table" = some (.ref Dt) → LS r L (BB L h') → GrownAt 112 (BB L h') → GrownAt 209 (BB L h') → LeastIs r Dl (BB L h') → TabIs (tkT r) Dt (BB L h') → News g L h' [(L + 1 + 1 + 1 + 1, o4)] →
      wpAny (model prog w) (A.deeper (envOfC (Str.ofString "law") lawScope L fa (.ref 211))) (execs (lawBody.drop 8) (envOfC (Str.ofString "law") lawScope L fa (.ref 211))) (Done g { s with heap := h', toks := tk }) No { s with heap := h', toks := tk }) :
    wpAny (model prog w) (A.deeper (envOfC (Str.ofString "law") sc L fa (.ref 211))) (execs bd (envOfC (Str.ofString "law") sc L fa (.ref 211))) (Done g s) No s := by
  conv at hsc => rhs; whnf
  conv at hbd => rhs; whnf
  subst hsc hbd
  obtain ⟨o3, Di, P, ps, q1, q2, q3, q4⟩ := X.items
  obtain ⟨ow, Dw, w0, w1, w2, r1, r2, r3⟩ := X.words
  refine wpAny_execs_cons ?_
  refine compCTo (h₀ := g) (m := m) (cl := [(Str.ofString "words", L + 1 + 1)]) (by with_unfolding_all exact rfl) rfl rfl (fun _ => rfl) (fun _ => rfl) (by decide) rfl rfl rfl ?_
  refine nmF (c := L + 1 + 1 + 1) rfl (bb_get q1).1 q2 ?_
  refine ⟨F, Di, _, (fun v y os => ∀ i, i < 3 → v = .ref (P i) → ∃ R k, y = .ref R ∧ os = [(R, listO [.bool (tkT r i 0), .bool (tkT r i 1), .bool (tkT r i 2)] k)]), rfl, q3.at fun o e => (bb_get e).1, by simp, hh, ?_, ?_⟩
  · intro C c i0 v s₂ hv ⟨oc, hoc, hdc⟩ hx hC
    obtain ⟨hi0, rfl⟩ : i0 < 3 ∧ v = .ref (P i0) := by (refine at3 (P := fun i0 v => i0 < 3 ∧ v = .ref (P i0)) hv ?_ ?_ ?_); (exact ⟨by decide, rfl⟩); (exact ⟨by decide, rfl⟩); (exact ⟨by decide, rfl⟩)
    have hxb : ∀ b o, (BB L s.heap).get? b = some o → s₂.heap.get? b = some o := fun b o e => hx _ _ (bb_get e).1
    have hk2 : Ext g s₂.heap := fun b o e => hx _ _ (F.keep _ _ e)
    refine comp (cl := [(Str.ofString "parts", c)]) rfl (by decide) rfl (by decide) rfl ?_
    refine nmF (c := L + 1 + 1) rfl (hxb _ _ r1) r2 ?_
    refine ⟨_, _, (fun _ => true), (fun v y os => ∀ j, j < 3 → (∃ t, v = .str (S (word (r j))) t) → os = [] ∧ y = .bool (tkT r i0 j)), iters_list hh (r3.at fun o e => hxb _ o e), ?_, ?_, ?_, ?_⟩
    · rw [sizeLine_eq]; simp
    · intro C' i v s₃ m₃ hP hn hm3 hx3 hC'
      exact tests0
    · intro C' i v s₃ m₃ hP hp hn hm3 hx3 hC'
      obtain ⟨l, t, rfl, hl⟩ : ∃ l t, v = .str (S l) t ∧ l.length ≤ 5000 := by
        have hle : ∀ j, j < 3 → (word (r j)).length ≤ 5000 := fun j hj => by
          have := word_len (r j); have := wr_len (r j); have := (hr j hj).2.2; (first | lia | omega)
        (refine at3 (P := fun i v => ∃ l t, v = .str (S l) t ∧ l.length ≤ 5000) hP ?_ ?_ ?_); (exact ⟨_, w0, rfl, hle 0 (by decide)⟩); (exact ⟨_, w1, rfl, hle 1 (by decide)⟩); (exact ⟨_, w2, rfl, hle 2 (by decide)⟩)
      have hk3 : Ext g s₃.heap := hk2.trans hx3
      have hpl := parts_len (word (r i0))
      have hwl := word_len (r i0)
      have hwr := wr_len (r i0)
      have hrl := (hr i0 hi0).2.2
      refine Call_ (nmG G hk3 (at_takes w) (callWith_K (G.ext hk3).k (keep_takes w) (args_cons (nmF (c := c) rfl (hx3 _ _ hoc) hdc (args_cons (nmL hn hm3 (args_nil ⟨(G.ext hk3).k, ?_⟩)))))))
      refine wpAny_mono (sp_takes (G.ext hk3) hh (by show A.depth + 1 < _; (first | lia | omega)) (by show A.units + 3 + 200 < _; (first | lia | omega)) ((q4 i0 hi0).1.at fun o e => hx3 _ o (hxb _ _ e)) (q4 i0 hi0).2 (by (first | lia | omega)) hl) (fun y s' hy => ?_) fun _ _ f => f
      obtain ⟨h', tk, os, b1, b2, b3, rfl, rfl⟩ := hy
      refine ⟨h', tk, [], b1, b2, b3, fun j hj ⟨t', e⟩ => ⟨rfl, ?_⟩⟩
      injection e with e _
      have : l = word (r j) := by have := congrArg Str.cps e; simpa using this
      rw [this]; rfl
    · intro R h' tk vs zs k hlen hP hF mk hx'
      have ev := items_eq (l := [.str (S (word (r 0))) w0, .str (S (word (r 1))) w1, .str (S (word (r 2))) w2]) hlen hP
      subst ev
      obtain ⟨em, em1⟩ := row3 (fun j => word (r j)) (fun j => tkT r i0 j) hF
      rw [em, em1] at mk
      refine ⟨h', _, _, rfl, hx', mk, fun i hi e => ?_⟩
      injection e with e
      have hpp : ps i = ps i0 := by
        have h1 := (q4 i hi).1
        have h2 := (q4 i0 hi0).1
        rw [← e] at h1
        simpa using isList_inj h1 h2
      have hpe : parts (word (r i)) = parts (word (r i0)) := paired_inj ((q4 i hi).2) (hpp ▸ (q4 i0 hi0).2)
      have htk : ∀ j, tkT r i j = tkT r i0 j := fun j => by unfold tkT; rw [hpe]
      exact ⟨R, k, rfl, by rw [htk, htk, htk]⟩
  intro Dt h₁ tk₁ zs kt hlen hF mk hx h₂ tk₂ F2 k2
  obtain ⟨R0, R1, R2, k0, k1, k2', em, em1⟩ := tab3 (tb := tkT r) hlen (fun i z hz hi => hF i z (.ref (P i)) hz (all3 (P := fun i => (#[.ref (P 0), .ref (P 1), .ref (P 2)] : Array Value)[i]? = some (.ref (P i))) rfl rfl rfl i hi) i hi rfl)
  rw [em, em1] at mk
  have k12 : ∀ b o, b ≠ L → s.heap.get? b = some o → h₂.get? b = some o := fun b o hb e => k2 _ _ hb (hx _ _ e)
  have xb := bb_keepL (L := L) k12
  have mkb : ∀ q o, (q, o) ∈ [(Dt, listO [.ref R0, .ref R1, .ref R2] kt), (R0, listO [.bool (tkT r 0 0), .bool (tkT r 0 1), .bool (tkT r 0 2)] k0), (R1, listO [.bool (tkT r 1 0), .bool (tkT r 1 1), .bool (tkT r 1 2)] k1), (R2, listO [.bool (tkT r 2 0), .bool (tkT r 2 1), .bool (tkT r 2 2)] k2')] → (BB L h₂).get? q = some o := fun q o hm => by
    obtain ⟨a, b⟩ := mk _ hm
    have n1 : q ≠ L := fun e => by
      obtain ⟨oL, _, _, hoL, _⟩ := F.ns
      rw [e] at a
      exact absurd (a.symm.trans hoL) (by simp)
    have n2 : q ≠ L + 1 + 1 + 1 + 1 := fun e => by
      rw [e] at a
      exact absurd (a.symm.trans (N _ (.head _)).1) (by simp)
    exact bb_of (k2 _ _ n1 b) n1 n2
  have TT : TabIs (tkT r) Dt (BB L h₂) := ⟨fun i => if i = 0 then R0 else if i = 1 then R1 else R2, ⟨_, mkb _ _ (.head _), rfl, _, rfl⟩, all3 ⟨_, mkb _ _ (.tail _ (.head _)), rfl, _, rfl⟩ ⟨_, mkb _ _ (.tail _ (.tail _ (.head _))), rfl, _, rfl⟩ ⟨_, mkb _ _ (.tail _ (.tail _ (.tail _ (.head _)))), rfl, _, rfl⟩⟩
  have X2 := X.keeps xb
  have Y2 := Y.keeps xb
  have G1 := grown_keeps g1 xb
  have G2 := grown_keeps g2 xb
  have N2 := newsL N k12
  have hm2 : (fun z => if z = Str.ofString "table" then some (Value.ref Dt) else m z) (Str.ofString "least") = some (.ref Dl) := hm
  clear hF mk em em1 mkb xb k12 k2 hx hlen F N X Y g1 g2 q1 q2 q3 q4 r1 r2 r3
  obtain ⟨u, v, Tu, Tv, Ku, Kv, tu, tv, huv, hu3, hv3, l1, l2, l3, l4, l5⟩ := id Y2
  dsimp only
  (refine wpAny_execs_cons ?_; with_reducible refine wpAny_Assign_Name ?_ ?as2x102; (case as2x102 => with_unfolding_all exact rfl))
  refine Subscript_ (Subscript_ (nameX_L F2 hm2 (wpAny_Constant_int ?_)))
  refine item_listL (l := [.ref Tu, .ref Tv]) (l1.at fun o e => (bb_get e).1) (by decide) (by decide) (x := .ref Tu) rfl ?_
  refine wpAny_Constant_int (item_tupleT (l := [.ref Ku, .int (u : Nat) tu]) (j := 1) ?_ (by decide) (by decide) rfl rfl ?_)
  · obtain ⟨o, ho, q⟩ := l2; exact ⟨o, (bb_get ho).1, q⟩
  refine stBN F2 N2 (fun h₃ F N x3 => ?_)
  (refine wpAny_execs_cons ?_; with_reducible refine wpAny_Assign_Name ?_ ?as2x103; (case as2x103 => with_unfolding_all exact rfl))
  refine Subscript_ (Subscript_ (nameX_L F (by exact hm) (wpAny_Constant_int ?_)))
  have Y3 := Y2.keeps x3
  have l1' : h₃.IsList Dl #[.ref Tu, .ref Tv] := l1.at fun o e => (bb_get (x3 _ _ e)).1
  refine item_listL (l := [.ref Tu, .ref Tv]) l1' (by decide) (by decide) (x := .ref Tv) rfl ?_
  refine wpAny_Constant_int (item_tupleT (l := [.ref Kv, .int (v : Nat) tv]) (j := 1) ?_ (by decide) (by decide) rfl rfl ?_)
  · obtain ⟨o, ho, q⟩ := l4; exact ⟨o, (bb_get (x3 _ _ ho)).1, q⟩
  refine stBN F N (fun h₄ F N x4 => ?_)
  dsimp only at F ⊢
  have x24 := x3.trans x4
  obtain ⟨m', Fb, e1, e2, ⟨t3, e3⟩, ⟨t4, e4⟩⟩ : ∃ m', Fr g L h₄ m' ∧ m' "least" = some (.ref Dl) ∧ m' "table" = some (.ref Dt) ∧ (∃ t, m' "first" = some (.int (u : Nat) t)) ∧ (∃ t, m' "second" = some (.int (v : Nat) t)) := ⟨_, F, hm, rfl, ⟨_, rfl⟩, ⟨_, rfl⟩⟩
  clear F
  have F := Fb
  have TT4 := TT.keeps x24
  have fin : ∀ tk, wpAny (model prog w) (A.deeper (envOfC (Str.ofString "law") lawScope L fa (.ref 211))) (execs (lawBody.drop 8) (envOfC (Str.ofString "law") lawScope L fa (.ref 211))) (Done g { s with heap := h₄, toks := tk }) No { s with heap := h₄, toks := tk } := fun tk =>
    hnext h₄ tk m' Dt F e1 e2 (X2.keeps x24) (grown_keeps G1 x24) (grown_keeps G2 x24) (Y2.keeps x24) TT4 N
  obtain ⟨R, t1, t2⟩ := TT4
  have t1 : h₄.IsList Dt #[.ref (R 0), .ref (R 1), .ref (R 2)] := t1.at fun o e => (bb_get e).1
  have t2 : ∀ i, i < 3 → h₄.IsList (R i) #[.bool (tkT r i 0), .bool (tkT r i 1), .bool (tkT r i 2)] := fun i hi => (t2 i hi).at fun o e => (bb_get e).1
  have hR : ∀ i : Nat, i < 3 → ([Value.ref (R 0), .ref (R 1), .ref (R 2)] : List Value)[((i : Nat) : Int).toNat]? = some (.ref (R i)) := fun i hi => by
    have : i = 0 ∨ i = 1 ∨ i = 2 := by (first | lia | omega)
    rcases this with rfl | rfl | rfl <;> rfl
  have hB : ∀ i j : Nat, j < 3 → ([Value.bool (tkT r i 0), .bool (tkT r i 1), .bool (tkT r i 2)] : List Value)[((j : Nat) : Int).toNat]? = some (.bool (tkT r i j)) := fun i j hj => by
    have : j = 0 ∨ j = 1 ∨ j = 2 := by (first | lia | omega)
    rcases this with rfl | rfl | rfl <;> rfl
  (refine wpAny_execs_cons ?_; with_reducible refine wpAny_If ?_)
  refine isTrue_and (wpAny_isTrue_value ?_)
  refine Subscript_ (Subscript_ (nameX_L F e2 (nameX_L F e3 ?_)))
  refine item_listL (l := [.ref (R 0), .ref (R 1), .ref (R 2)]) t1 (by (first | lia | omega)) (by (first | lia | omega)) (hR u hu3) ?_
  refine nameX_L F e4 ?_
  refine item_listT (l := [.bool (tkT r u 0), .bool (tkT r u 1), .bool (tkT r u 2)]) (t2 u hu3) (by (first | lia | omega)) (by (first | lia | omega)) (hB u v hv3) ?_
  refine wpAny_truthy_bool ?_
  cases ht : tkT r u v with
  | false =>
    rw [if_neg Bool.false_ne_true, if_neg Bool.false_ne_true]
    exact wpAny_execs_nil (fin _)
  | true =>
    rw [if_pos rfl]
    refine isTrue_and (wpAny_isTrue_Not (wpAny_isTrue_value ?_))
    refine Subscript_ (Subscript_ (nameX_L F e2 (nameX_L F e4 ?_)))
    refine item_listL (l := [.ref (R 0), .ref (R 1), .ref (R 2)]) t1 (by (first | lia | omega)) (by (first | lia | omega)) (hR v hv3) ?_
    refine nameX_L F e3 ?_
    refine item_listT (l := [.bool (tkT r v 0), .bool (tkT r v 1), .bool (tkT r v 2)]) (t2 v hv3) (by (first | lia | omega)) (by (first | lia | omega)) (hB v u hu3) ?_
    refine wpAny_truthy_bool ?_
    rw [tk_back hr hu3 hv3 huv ht]
    rw [if_neg (by decide), if_neg Bool.false_ne_true]
    exact wpAny_execs_nil (fin _)
end
end Mine
end
section
open PySem PySem.W PySem.Calls PyProof.Rows
set_option maxRecDepth 100000
set_option maxHeartbeats 4000000
namespace Mine
theorem at_open (w : World) : nsIn (hdK w.params) mainGlobals "_law_open" = some (some (.ref 183)) := by k_is
theorem keep_open (w : World) : keepIn (hdK w.params) (.ref 183) = true := by k_is
theorem at_sorted (w : World) : nsIn (hdK w.params) mainGlobals "sorted" = some none := by k_is
section
variable {prog : Program} {w : World} {mg mb : Str → Option Value} {A : Around} {s : Shared}
/-- the two least, sorted -/
theorem law_D {sc : Scope} {bd : List Stmt} (hsc : sc = lawScope) (hbd : bd = lawBody.drop 8) {g : Heap} {L fa Dl Dt : Addr} {o4 : Obj} {m : Str → Option Value} {r : Nat → List Nat}
    (G : Gd w mg mb g) (hh : A.handled = none) (hd : A.depth + 20 < recursionLimit) (hu : A.units + 300 < cLine)
    (hr : ∀ i, i < 3 → r i ≠ [] ∧ rowOk (r i)) (F : Fr g L s.heap m) (hm : m "least" = some (.ref Dl)) (hm2 : m "table" = some (.ref Dt)) (X : LS r L (BB L s.heap)) (g1 : GrownAt 112 (BB L s.heap)) (g2 : GrownAt 209 (BB L s.heap)) (Y : LeastIs r Dl (BB L s.heap)) (TT : TabIs (tkT r) Dt (BB L s.heap)) (N : News g L s.heap [(L + 1 + 1 + 1 + 1, o4)])
    (hnext : ∀ (h' : Heap) (tk : Nat), Fr g L h' m → LS r L (BB L h') → GrownAt 112 (BB L h') → GrownAt 209 (BB L h') → TabIs (tkT r) Dt (BB L h') → News g L h' [(L + 1 + 1 + 1 + 1, o4)] →
      wpAny (model prog w) (A.deeper (envOfC (Str.ofString "law") lawScope L fa (.ref 211))) (execs (lawBody.drop 9) (envOfC (Str.ofString "law") lawScope L fa (.ref 211))) (Done g { s with heap := h', toks := tk }) No { s with heap := h', toks := tk }) :
    wpAny (model prog w) (A.deeper (envOfC (Str.ofString "law") sc L fa (.ref 211))) (execs bd (envOfC (Str.ofString "law") sc L fa (.ref 211))) (Done g s) No s := by
  conv at hsc => rhs; whnf
  conv at hbd => rhs; whnf
  subst hsc hbd
  obtain ⟨oR, DR, t0, t1, t2, r1, r2, r3⟩ := X.rows
  (refine wpAny_execs_cons ?_; with_reducible refine wpAny_If ?_)
  refine wpAny_isTrue_Compare1 (nameX_L F hm ?_)
  refine Subscript_ (Call_ (gnX F G (at_sorted w) rfl (by decide) (callWith_builtin1 (args_cons ?_))))
  refine comp (cl := [(Str.ofString "rows", L + 1)]) rfl (by decide) rfl (by decide) rfl ?_
  refine Call_ (gnX F G (at_range w) rfl (by decide) (PyProof.Rows.callWith_type1 (args_cons (wpAny_Constant_int (args_nil (call_range_1 ?_))))))
  refine ⟨3, _, (fun _ => true), (fun v y os => ∀ (i : Nat) t, v = .int i t → i < 3 → ∃ T K t1 t2 t3, y = .ref T ∧ os = [(T, tupO [.ref K, .int i t3]), (K, tupO [.int (aa r i) t1, .int (bb r i) t2])]), Iters.bound (iters_range (A := A.deeper _) (a := 0) (b := 3) (c := 1) (n := 3) hh (IsRange.new ..) (by decide) (by decide)), ?_, ?_, ?_, ?_⟩
  · rw [sizeLine_eq]; (first | lia | omega)
  · intro C i v s₂ m₂ hP hn hm hx hC
    exact tests0
  · intro C i v s₂ m₂ hP hp hn hm hx hC
    obtain ⟨hi, u, rfl⟩ := hP
    have ei : (0 + (i : Int) * 1) = (i : Int) := by (first | lia | omega)
    rw [ei] at hm ⊢
    have hx2 : Ext s.heap s₂.heap := fun b o e => hx b o (Heap.get?_push_of_some _ e)
    have hk2 : Ext g s₂.heap := fun b o e => hx2 _ _ (F.keep _ _ e)
    obtain ⟨ti, hIt⟩ : ∃ ti, ([Value.str (S (r 0)) t0, .str (S (r 1)) t1, .str (S (r 2)) t2] : List Value)[((i : Nat) : Int).toNat]? = some (.str (S (r i)) ti) := by
      have : i = 0 ∨ i = 1 ∨ i = 2 := by (first | lia | omega)
      rcases this with rfl | rfl | rfl <;> exact ⟨_, rfl⟩
    refine Tuple_ (args_cons ?_)
    refine Call_ (nmG G hk2 (at_open w) (callWith_K (G.ext hk2).k (keep_open w) (args_cons (Subscript_ (nmF (c := L + 1) rfl (hx2 _ _ (bb_get r1).1) r2 (nmL hn hm ?_))))))
    refine item_listL (l := [.str (S (r 0)) t0, .str (S (r 1)) t1, .str (S (r 2)) t2]) (r3.at fun o e => hx2 _ o (bb_get e).1) (by (first | lia | omega)) (by (first | lia | omega)) hIt ?_
    refine args_nil ⟨(G.ext hk2).k, ?_⟩
    have hrl := (hr i hi).2.2
    refine use (sp_open (G.ext hk2) hh (by show A.depth + 1 + 1 < _; (first | lia | omega)) (hr i hi).2.1 (by (first | lia | omega))) ?_
    rintro v os h₃ tk₃ x3 mk3 ⟨K, t1, t2, rfl, rfl⟩
    refine args_cons (nmL (hn.keeps x3) hm (args_nil ?_))
    refine wpAny_newTuple ?_
    have wb : ((runsN (r i) : Nat) : Int) = bb r i := by show ((runsN (r i) : Nat) : Int) = ((runs false (r i) : Nat) : Int); rw [← runsN_runs (r i)]; rfl
    have wa : ((stars (r i) : Nat) : Int) - (wr (r i)).length - 8 = aa r i := rfl
    rw [wb, wa] at mk3
    refine ⟨_, _, [(h₃.objs.size, tupO [.ref K, .int i u]), (K, tupO [.int (aa r i) t1, .int (bb r i) t2])], rfl, fun b o e => Heap.get?_push_of_some _ (x3 _ _ e), allC ⟨?_, Heap.get?_push_size _ rfl⟩ (allC ⟨(mk3 _ (.head _)).1, Heap.get?_push_of_some _ (mk3 _ (.head _)).2⟩ allN), fun i' t' e' hi' => ?_⟩
    · cases e : s₂.heap.get? h₃.objs.size with
      | none => rfl
      | some o => exact nomatch (new_none h₃).symm.trans (x3 _ _ e)
    · injection e' with e1 e2
      have : i = i' := by (first | lia | omega)
      subst this
      exact ⟨_, K, t1, t2, u, rfl, rfl⟩
  intro D h₄ tk₄ vs' zs kD hlen hP hF mk4 hx4
  obtain ⟨T0, K0, T1, K1, T2, K2, a0, b0, c0, a1, b1, c1, a2, b2, c2, em, em1⟩ := ent3 hlen hP hF
  rw [em, em1] at mk4
  clear em em1 hP hlen
  have N4 := news_made (F.push _) (N.pushKeep _) hx4 mk4
  have F4 := (F.push _).keeps hx4
  have x4 : Ext (BB L s.heap) (BB L h₄) := bb_ext (L := L) (h' := h₄) fun b o e => hx4 _ _ (Heap.get?_push_of_some _ e)
  dsimp only [List.cons_append, List.nil_append] at N4 ⊢
  refine args_nil ?_
  have TI : ∀ i, i < 3 → ∃ (K : Addr) (ti ta tb : Tok), ∀ h' : Heap, (∀ c o, c ≠ L → h₄.get? c = some o → h'.get? c = some o) → h'.IsTuple (if i = 0 then T0 else if i = 1 then T1 else T2) #[.ref K, .int (i : Nat) ti] ∧ h'.IsTuple K #[.int (aa r i) ta, .int (bb r i) tb] := all3 ⟨K0, c0, a0, b0, fun h' k => ⟨⟨_, k _ _ (N4 _ (.tail _ (.head _))).2.1 (N4 _ (.tail _ (.head _))).1, rfl, _, rfl⟩, ⟨_, k _ _ (N4 _ (.tail _ (.tail _ (.head _)))).2.1 (N4 _ (.tail _ (.tail _ (.head _)))).1, rfl, _, rfl⟩⟩⟩ ⟨K1, c1, a1, b1, fun h' k => ⟨⟨_, k _ _ (N4 _ (.tail _ (.tail _ (.tail _ (.head _))))).2.1 (N4 _ (.tail _ (.tail _ (.tail _ (.head _))))).1, rfl, _, rfl⟩, ⟨_, k _ _ (N4 _ (.tail _ (.tail _ (.tail _ (.tail _ (.head _)))))).2.1 (N4 _ (.tail _ (.tail _ (.tail _ (.tail _ (.head _)))))).1, rfl, _, rfl⟩⟩⟩ ⟨K2, c2, a2, b2, fun h' k => ⟨⟨_, k _ _ (N4 _ (.tail _ (.tail _ (.tail _ (.tail _ (.tail _ (.head _))))))).2.1 (N4 _ (.tail _ (.tail _ (.tail _ (.tail _ (.tail _ (.head _))))))).1, rfl, _, rfl⟩, ⟨_, k _ _ (N4 _ (.tail _ (.tail _ (.tail _ (.tail _ (.tail _ (.tail _ (.head _)))))))).2.1 (N4 _ (.tail _ (.tail _ (.tail _ (.tail _ (.tail _ (.tail _ (.head _)))))))).1, rfl, _, rfl⟩⟩⟩
  have EI : ∀ i, i < 3 → ∀ h' : Heap, (∀ c o, c ≠ L → h₄.get? c = some o → h'.get? c = some o) → EntryIs h' (.ref (if i = 0 then T0 else if i = 1 then T1 else T2)) (aa r i) (bb r i) i := fun i hi h' k => by
    obtain ⟨K, ti, ta, tb, hT⟩ := TI i hi
    obtain ⟨hT1, hT2⟩ := hT h' k
    exact ⟨_, K, ti, [], rfl, hT1, ⟨_, _, hT2⟩⟩
  refine sorted_three (e := fun i => .ref (if i = 0 then T0 else if i = 1 then T1 else T2)) (a := aa r) (b := bb r) F4 ⟨_, (N4 _ (.head _)).1, rfl, _, rfl⟩ (fun i hi => EI i hi _ fun _ _ _ e => e) EI (by show A.units + 3 + 10 < _; (first | lia | omega)) (fun Ds cs h₅ zl F5 k5 hD0 hDs => ?_)
  have N5 := newsL N4 k5
  have x5 := x4.trans (bb_keepL (L := L) k5)
  obtain ⟨u, v, Tu, Tv, Ku, Kv, tu, tv, huv, hu3, hv3, l1, l2, ⟨ta1, ta2, l3⟩, l4, ⟨tb1, tb2, l5⟩⟩ := Y.keeps (x5.trans (bb_in (L := L)))
  have eu : (pickE (aa r) (bb r)).1 = u := by rw [← huv]
  have ev : (pickE (aa r) (bb r)).2 = v := by rw [← huv]
  rw [eu, ev] at hDs
  obtain ⟨Ju, ju1, ju2, ju3, hJu⟩ := TI u hu3
  obtain ⟨Jv, jv1, jv2, jv3, hJv⟩ := TI v hv3
  obtain ⟨hu1, hu2⟩ := hJu h₅ k5
  obtain ⟨hv1, hv2⟩ := hJv h₅ k5
  have X5 := X.keeps x5
  have G1 := grown_keeps g1 x5
  have G2 := grown_keeps g2 x5
  have T5 := TT.keeps x5
  have N6 : News g L h₅ [(L + 1 + 1 + 1 + 1, o4)] := fun p hp => by
    rw [List.mem_singleton.mp hp]
    exact N5 _ (by simp)
  clear TI EI N4 N5 N F4 mk4 hF hx4 x4 hJu hJv
  refine wpAny_Slice (evalPart_none_step (evalPart_some_step (wpAny_Constant_int (evalPart_none_step ?_))))
  refine sub_list (items := #[.ref (if u = 0 then T0 else if u = 1 then T1 else T2), .ref (if v = 0 then T0 else if v = 1 then T1 else T2), zl]) ⟨_, hDs, rfl, _, rfl⟩ .none (.int 2 _) .none (by simp) ?_ (by rw [sizeLine_eq]; simp) (by with_unfolding_all rfl)
  rw [show ((2 : Int)) = ((2 : Nat) : Int) from rfl, slicePick_upto']
  have x6 : ∀ (o1 o2 : Obj), Ext h₅ ((h₅.push o1).push o2) := fun o1 o2 b o e => Heap.get?_push_of_some _ (Heap.get?_push_of_some _ e)
  have tupk : ∀ {h h' : Heap} {a : Addr} {xs : Array Value}, h.IsTuple a xs → Ext h h' → h'.IsTuple a xs := fun ⟨o, e, q⟩ k => ⟨o, k _ _ e, q⟩
  have rd : ∀ {h : Heap} {T K : Addr} {i : Nat} {x1 x2 x3 : Tok} {p q : Int}, h.IsTuple T #[.ref K, .int (i : Nat) x1] → h.IsTuple K #[.int p x2, .int q x3] → Reads h (.ref T) (.tuple [.tuple [.int p, .int q], .int (i : Nat)]) [] := by
    rintro h T K i x1 x2 x3 p q ⟨o1, e1, d1, n1, f1⟩ ⟨o2, e2, d2, n2, f2⟩
    exact reads_tuple_at e1 d1 f1 (ReadsAll.cons (reads_tuple_at e2 d2 f2 (ReadsAll.cons (.int _ _) (ReadsAll.cons (.int _ _) .nil))) (ReadsAll.cons (.int _ _) .nil))
  obtain ⟨ol, le, lc, ln, ld⟩ := l1
  refine ne_dataH (da := .list [.tuple [.tuple [.int (aa r u), .int (bb r u)], .int (u : Nat)], .tuple [.tuple [.int (aa r v), .int (bb r v)], .int (v : Nat)]]) (db := .list [.tuple [.tuple [.int (aa r u), .int (bb r u)], .int (u : Nat)], .tuple [.tuple [.int (aa r v), .int (bb r v)], .int (v : Nat)]])
    (reads_list_at (x6 _ _ _ _ le) lc ld (ReadsAll.cons (rd (tupk l2 (x6 _ _)) (tupk l3 (x6 _ _))) (ReadsAll.cons (rd (tupk l4 (x6 _ _)) (tupk l5 (x6 _ _))) .nil)))
    (reads_list_at (Heap.get?_push_at (Heap.size_push ..).symm rfl) rfl rfl (ReadsAll.cons (rd (tupk hu1 (x6 _ _)) (tupk hu2 (x6 _ _))) (ReadsAll.cons (rd (tupk hv1 (x6 _ _)) (tupk hv2 (x6 _ _))) .nil)))
    (by rfl) (by rfl) (by show A.units + 3 + 64 < _; (first | lia | omega)) ?_
  rw [PySem.SeqAt.eqv_refl _ (by rfl)]
  refine wpAny_truthy_bool ?_
  rw [if_neg (by decide)]
  have x7 : ∀ (o1 o2 : Obj), Ext (BB L h₅) (BB L ((h₅.push o1).push o2)) := fun o1 o2 => bb_ext (x6 o1 o2)
  refine wpAny_execs_nil (hnext _ _ (F5.keeps (x6 _ _)) (X5.keeps (x7 _ _)) (grown_keeps G1 (x7 _ _)) (grown_keeps G2 (x7 _ _)) (T5.keeps (x7 _ _)) (N6.grown (x6 _ _)))
end
end Mine
end
section
open PySem PySem.W PySem.Calls PyProof.Rows
set_option maxRecDepth 100000
set_option maxHeartbeats 4000000
namespace Mine
theorem at_told (w : World) : nsIn (hdK w.params) mainGlobals "_law_well_told" = some (some (.ref 207)) := by k_is
theorem keep_told (w : World) : keepIn (hdK w.params) (.ref 207) = true := by k_is
section
variable {prog : Program} {w : World} {mg mb : Str → Option Value} {A : Around} {s : Shared}
/-- every word is well told -/
theorem law_E {sc : Scope} {bd : List Stmt} (hsc : sc = lawScope) (hbd : bd = lawBody.drop 9) {g : Heap} {L fa Dt : Addr} {o4 : Obj} {m : Str → Option Value} {r : Nat → List Nat}
    (G : Gd w mg mb g) (hh : A.handled = none) (hd : A.depth + 20 < recursionLimit) (hu : A.units + 300 < cLine)
    (hr : ∀ i, i < 3 → r i ≠ [] ∧ rowOk (r i)) (F : Fr g L s.heap m) (X : LS r L (BB L s.heap)) (g1 : GrownAt 112 (BB L s.heap)) (g2 : GrownAt 209 (BB L s.heap)) (TT : TabIs (tkT r) Dt (BB L s.heap)) (N : News g L s.heap [(L + 1 + 1 + 1 + 1, o4)])
    (hnext : ∀ (h' : Heap) (tk : Nat), Fr g L h' m → LS r L (BB L h') → GrownAt 112 (BB L h') → GrownAt 209 (BB L h') → TabIs (tkT r) Dt (BB L h') → News g L h' [(L + 1 + 1 + 1 + 1, o4)] →
      wpAny (model prog w) (A.deeper (envOfC (Str.ofString "law") lawScope L fa (.ref 211))) (execs (lawBody.drop 10) (envOfC (Str.ofString "law") lawScope L fa (.ref 211))) (Done g { s with heap := h', toks := tk }) No { s with heap := h', toks := tk }) :
    wpAny (model prog w) (A.deeper (envOfC (Str.ofString "law") sc L fa (.ref 211))) (execs bd (envOfC (Str.ofString "law") sc L fa (.ref 211))) (Done g s) No s := by
  conv at hsc => rhs; whnf
  conv at hbd => rhs; whnf
  subst hsc hbd
  obtain ⟨oR, DR, t0, t1, t2, r1, r2, r3⟩ := X.rows
  obtain ⟨ow, Dw, w0, w1, w2, y1, y2, y3⟩ := X.words
  obtain ⟨o3, Di, P, ps, q1, q2, q3, q4⟩ := X.items
  (refine wpAny_execs_cons ?_; with_reducible refine wpAny_If ?_)
  refine wpAny_isTrue_Compare1 ?_
  refine comp (cl := [(Str.ofString "words", L + 1 + 1), (Str.ofString "rows", L + 1), (Str.ofString "items", L + 1 + 1 + 1)]) rfl (by decide) rfl (by decide) rfl ?_
  refine Call_ (gnX F G (at_range w) rfl (by decide) (PyProof.Rows.callWith_type1 (args_cons (wpAny_Constant_int (args_nil (call_range_1 ?_))))))
  refine ⟨3, _, (fun _ => false), (fun v y os => True), Iters.bound (iters_range (A := A.deeper _) (a := 0) (b := 3) (c := 1) (n := 3) hh (IsRange.new ..) (by decide) (by decide)), ?_, ?_, ?_, ?_⟩
  · rw [sizeLine_eq]; (first | lia | omega)
  · intro C i v s₂ m₂ hP hn hm hx hC
    obtain ⟨hi, u, rfl⟩ := hP
    have ei : (0 + (i : Int) * 1) = (i : Int) := by (first | lia | omega)
    rw [ei] at hm
    have hx2 : Ext s.heap s₂.heap := fun b o e => hx b o (Heap.get?_push_of_some _ e)
    have hxb : ∀ b o, (BB L s.heap).get? b = some o → s₂.heap.get? b = some o := fun b o e => hx2 _ _ (bb_get e).1
    have hk2 : Ext g s₂.heap := fun b o e => hx2 _ _ (F.keep _ _ e)
    obtain ⟨ti, hIt⟩ : ∃ ti, ([Value.str (S (r 0)) t0, .str (S (r 1)) t1, .str (S (r 2)) t2] : List Value)[((i : Nat) : Int).toNat]? = some (.str (S (r i)) ti) := by
      have : i = 0 ∨ i = 1 ∨ i = 2 := by (first | lia | omega)
      rcases this with rfl | rfl | rfl <;> exact ⟨_, rfl⟩
    obtain ⟨wi, hWt⟩ : ∃ ti, ([Value.str (S (word (r 0))) w0, .str (S (word (r 1))) w1, .str (S (word (r 2))) w2] : List Value)[((i : Nat) : Int).toNat]? = some (.str (S (word (r i))) ti) := by
      have : i = 0 ∨ i = 1 ∨ i = 2 := by (first | lia | omega)
      rcases this with rfl | rfl | rfl <;> exact ⟨_, rfl⟩
    have hPt : ([Value.ref (P 0), .ref (P 1), .ref (P 2)] : List Value)[((i : Nat) : Int).toNat]? = some (.ref (P i)) := by
      have : i = 0 ∨ i = 1 ∨ i = 2 := by (first | lia | omega)
      rcases this with rfl | rfl | rfl <;> rfl
    refine tests1 (wpAny_isTrue_Not (wpAny_isTrue_value ?_))
    refine Call_ (nmG G hk2 (at_told w) (callWith_K (G.ext hk2).k (keep_told w) (args_cons ?_)))
    refine Subscript_ (nmF (c := L + 1) rfl (hxb _ _ r1) r2 (nmL hn hm ?_))
    refine item_listL (l := [.str (S (r 0)) t0, .str (S (r 1)) t1, .str (S (r 2)) t2]) (r3.at fun o e => hxb _ o e) (by (first | lia | omega)) (by (first | lia | omega)) hIt ?_
    refine args_cons ?_
    refine Subscript_ (nmF (c := L + 1 + 1) rfl (hxb _ _ y1) y2 (nmL hn hm ?_))
    refine item_listL (l := [.str (S (word (r 0))) w0, .str (S (word (r 1))) w1, .str (S (word (r 2))) w2]) (y3.at fun o e => hxb _ o e) (by (first | lia | omega)) (by (first | lia | omega)) hWt ?_
    refine args_cons ?_
    refine Subscript_ (nmF (c := L + 1 + 1 + 1) rfl (hxb _ _ q1) q2 (nmL hn hm ?_))
    refine item_listL (l := [.ref (P 0), .ref (P 1), .ref (P 2)]) (q3.at fun o e => hxb _ o e) (by (first | lia | omega)) (by (first | lia | omega)) hPt ?_
    refine args_nil ⟨(G.ext hk2).k, ?_⟩
    have hrl := (hr i hi).2.2
    refine use (sp_told (G.ext hk2) hh (by show A.depth + 1 + 4 < _; (first | lia | omega)) (hr i hi).2.1 (by (first | lia | omega)) ((q4 i hi).1.at fun o e => hxb _ o e) (q4 i hi).2) ?_
    rintro v os h₃ tk₃ x3 mk3 ⟨rfl, rfl⟩
    exact wpAny_truthy_bool ⟨rfl, keepsI x3⟩
  · intro C i v s₂ m₂ hP hp
    cases hp
  intro D h₄ tk₄ vs' zs kD hlen hP hF mk4 hx4
  have hz : zs = [] := by
    have e : vs'.filter (fun _ => false) = [] := by simp
    rw [e] at hF
    cases hF; rfl
  subst hz
  have x4 : Ext s.heap h₄ := fun b o e => hx4 _ _ (Heap.get?_push_of_some _ e)
  have hD := (mk4 _ (.head _)).2
  have F4 := F.keeps x4
  have N4 := N.grown x4
  refine List_ (args_nil ?_)
  refine wpAny_newList ?_ (Nat.zero_le _)
  have x5 : ∀ (o1 : Obj), Ext h₄ (h₄.push o1) := fun o1 b o e => Heap.get?_push_of_some _ e
  refine ne_dataH (da := .list []) (db := .list []) (reads_list_at (x5 _ _ _ hD) rfl rfl .nil) (reads_list_at (Heap.get?_push_size _ rfl) rfl rfl .nil) (by rfl) (by rfl) (by show A.units + 3 + 64 < _; (first | lia | omega)) ?_
  rw [PySem.SeqAt.eqv_refl _ (by rfl)]
  refine wpAny_truthy_bool ?_
  rw [if_neg (by decide)]
  have x7 : ∀ (o1 : Obj), Ext (BB L s.heap) (BB L (h₄.push o1)) := fun o1 => (bb_ext x4).trans (bb_ext (x5 o1))
  refine wpAny_execs_nil (hnext _ _ (F4.keeps (x5 _)) (X.keeps (x7 _)) (grown_keeps g1 (x7 _)) (grown_keeps g2 (x7 _)) (TT.keeps (x7 _)) (N4.grown (x5 _)))
end
end Mine
end
section
open PySem PySem.W PySem.Calls PyProof.Rows
set_option maxRecDepth 100000
set_option maxHeartbeats 4000000
namespace Mine
theorem zz_eq : Str.ofString "zz" = S [122, 122] := by decide +kernel
theorem star42 : Str.ofString "*" = ⟨#[42]⟩ := by decide +kernel
theorem fill_ne {l : List Nat} (h : l ≠ []) : Fills true l ≠ [] := by
  cases l with
  | nil => exact absurd rfl h
  | cons c l =>
    rw [fill_cons]
    split <;> simp
theorem fill_len (l : List Nat) : (Fills true l).length ≤ 2 * l.length := by
  induction l with
  | nil => simp [Fills]
  | cons c l ih =>
    rw [fill_cons, List.length_append, List.length_cons]
    split <;> simp <;> (first | lia | omega)
theorem TabIs.cong {tb tb' : Nat → Nat → Bool} {D : Addr} {h : Heap} (X : TabIs tb D h) (e : ∀ i j, i < 3 → j < 3 → tb i j = tb' i j) : TabIs tb' D h := by
  obtain ⟨R, a, b⟩ := X
  refine ⟨R, a, fun i hi => ?_⟩
  rw [← e i 0 hi (by decide), ← e i 1 hi (by decide), ← e i 2 hi (by decide)]
  exact b i hi
def tabD (tb : Nat → Nat → Bool) : PyData := .list [.list [.bool (tb 0 0), .bool (tb 0 1), .bool (tb 0 2)], .list [.bool (tb 1 0), .bool (tb 1 1), .bool (tb 1 2)], .list [.bool (tb 2 0), .bool (tb 2 1), .bool (tb 2 2)]]
theorem TabIs.reads {tb : Nat → Nat → Bool} {D : Addr} {h : Heap} (X : TabIs tb D h) : ∃ as, Reads h (.ref D) (tabD tb) as := by
  obtain ⟨R, ⟨o, e, c, n, d⟩, b⟩ := X
  obtain ⟨o0, e0, c0, n0, d0⟩ := b 0 (by decide)
  obtain ⟨o1, e1, c1, n1, d1⟩ := b 1 (by decide)
  obtain ⟨o2, e2, c2, n2, d2⟩ := b 2 (by decide)
  have rw3 : ∀ (x y z : Bool), ReadsAll h [.bool x, .bool y, .bool z] [.bool x, .bool y, .bool z] [] := fun x y z => ReadsAll.cons (.bool _) (ReadsAll.cons (.bool _) (ReadsAll.cons (.bool _) .nil))
  exact ⟨_, reads_list_at e c d (ReadsAll.cons (reads_list_at e0 c0 d0 (rw3 _ _ _)) (ReadsAll.cons (reads_list_at e1 c1 d1 (rw3 _ _ _)) (ReadsAll.cons (reads_list_at e2 c2 d2 (rw3 _ _ _)) .nil)))⟩
section
variable {prog : Program} {w : World} {mg mb : Str → Option Value} {A : Around} {s : Shared}
/-- filled -/
theorem law_F {sc : Scope} {bd : List Stmt} (hsc : sc = lawScope) (hbd : bd = lawBody.drop 10) {g : Heap} {L fa Dt : Addr} {o4 : Obj} {m : Str → Option Value} {r : Nat → List Nat}
    (G : Gd w mg mb g) (hh : A.handled = none) (hd : A.depth + 40 < recursionLimit) (hu : A.units + 300 < cLine)
    (hr : ∀ i, i < 3 → r i ≠ [] ∧ rowOk (r i)) (F : Fr g L s.heap m) (X : LS r L (BB L s.heap)) (g1 : GrownAt 112 (BB L s.heap)) (g2 : GrownAt 209 (BB L s.heap)) (TT : TabIs (tkT r) Dt (BB L s.heap)) (N : News g L s.heap [(L + 1 + 1 + 1 + 1, o4)]) (d4 : o4.data = .cell none)
    (hnext : ∀ (h' : Heap) (tk : Nat) (Df : Addr) (f0 f1 f2 : Tok), Fr g L h' m → LS r L (BB L h') → GrownAt 112 (BB L h') → GrownAt 209 (BB L h') → TabIs (tkT r) Dt (BB L h') → h'.IsCell (L + 1 + 1 + 1 + 1) (some (.ref Df)) →
      (BB L h').IsList Df #[.str (S (word (Fills true (r 0)))) f0, .str (S (word (Fills true (r 1)))) f1, .str (S (word (Fills true (r 2)))) f2] →
      wpAny (model prog w) (A.deeper (envOfC (Str.ofString "law") lawScope L fa (.ref 211))) (execs (lawBody.drop 11) (envOfC (Str.ofString "law") lawScope L fa (.ref 211))) (Done g { s with heap := h', toks := tk }) No { s with heap := h', toks := tk }) :
    wpAny (model prog w) (A.deeper (envOfC (Str.ofString "law") sc L fa (.ref 211))) (execs bd (envOfC (Str.ofString "law") sc L fa (.ref 211))) (Done g s) No s := by
  conv at hsc => rhs; whnf
  conv at hbd => rhs; whnf
  subst hsc hbd
  obtain ⟨oR, DR, t0, t1, t2, r1, r2, r3⟩ := X.rows
  (refine wpAny_execs_cons ?_; with_reducible refine wpAny_Assign_Name ?_ ?as2x107; (case as2x107 => with_unfolding_all exact rfl))
  refine compT (cl := []) rfl rfl (by decide) (by decide) rfl ?_
  refine nmF (c := L + 1) rfl (bb_get r1).1 r2 ?_
  refine ⟨DR, _, (fun v y os => ∀ l t, v = .str (S l) t → os = [] ∧ ∃ u, y = .str (S (word (Fills true l))) u), rfl, r3.at fun o e => (bb_get e).1, by simp, hh, ?_, ?_⟩
  · intro C i v s₂ m₂ hv hn2 hm2 htk hx2 hC
    obtain ⟨j, l, t, hj, rfl, rfl⟩ : ∃ j l t, j < 3 ∧ v = .str (S l) t ∧ l = r j := by (refine at3 (P := fun i v => ∃ j l t, j < 3 ∧ v = .str (S l) t ∧ l = r j) hv ?_ ?_ ?_); (exact ⟨0, _, t0, by decide, rfl, rfl⟩); (exact ⟨1, _, t1, by decide, rfl, rfl⟩); (exact ⟨2, _, t2, by decide, rfl, rfl⟩)
    have hk2 : Ext g s₂.heap := fun b o e => hx2 _ _ (F.keep _ _ e)
    have hrl := (hr j hj).2.2
    have hfl := fill_len (r j)
    refine Call_ (nmG G hk2 (at_word w) (callWith_K (G.ext hk2).k (keep_word w) (args_cons ?_)))
    refine MethodCall_ (nmL hn2 hm2 (GM.replace ?_))
    refine callWith_method1 (args_cons (Constant_str (args_cons (Constant_str (args_nil ?_)))))
    have e : Txt.replace (S (r j)) (Str.ofString "*") (Str.ofString "zz") = S (Fills true (r j)) := by rw [star42, zz_eq, replace_S, repl_fill]
    refine SC.replaceW (Nat.ne_of_gt htk) (Nat.succ_ne_zero _) (Nat.ne_of_lt (Nat.lt_succ_self _)) (by decide +kernel) (by show (r j).toArray.size ≤ _; simp; (first | lia | omega)) (by decide +kernel) (fun t' k => ?_)
    rw [e]
    refine args_nil ⟨(G.ext hk2).k, ?_⟩
    refine wpAny_mono (sp_word (s := { s₂ with toks := k }) (G.ext hk2) hh (by show A.depth + 1 + 1 < _; (first | lia | omega)) (fill_sz true (r j) (hr j hj).2.1) (fill_ne (hr j hj).1) (by (first | lia | omega))) (fun y s' hy => ?_) fun _ _ f => f
    obtain ⟨h', tk, os, b1, b2, b3, rfl, u, rfl⟩ := hy
    refine ⟨h', tk, [], b1, b2, b3, fun l' t' e => ?_⟩
    injection e with e1 e2
    have : r j = l' := by have := congrArg Str.cps e1; simpa using this
    exact ⟨rfl, u, by rw [this]⟩
  intro Df h₁ tk₁ zs kf hlen hF mk hx
  obtain ⟨z0, z1, z2, rfl⟩ : ∃ a b c, zs = [a, b, c] := len3 hlen
  obtain ⟨e0, u0, f0⟩ := hF 0 z0 _ rfl rfl _ t0 rfl
  obtain ⟨e1, u1, f1⟩ := hF 1 z1 _ rfl rfl _ t1 rfl
  obtain ⟨e2, u2, f2⟩ := hF 2 z2 _ rfl rfl _ t2 rfl
  have em : [z0, z1, z2].flatMap (·.2) = [] := by simp [e0, e1, e2]
  have em1 : [z0, z1, z2].map (·.1) = [.str (S (word (Fills true (r 0)))) u0, .str (S (word (Fills true (r 1)))) u1, .str (S (word (Fills true (r 2)))) u2] := by simp [f0, f1, f2]
  rw [em, em1] at mk
  obtain ⟨m1, m2⟩ := mk _ (.head _)
  have z4 := N _ (.head _)
  have n1 : Df ≠ L := fun e => by
    obtain ⟨oL, _, _, hoL, _⟩ := F.ns
    rw [e] at m1
    exact absurd (m1.symm.trans hoL) (by simp)
  have n2 : Df ≠ L + 1 + 1 + 1 + 1 := fun e => by
    rw [e] at m1
    exact absurd (m1.symm.trans z4.1) (by simp)
  refine wpAny_storeName_cell (c := L + 1 + 1 + 1 + 1) (v₀ := none) rfl rfl rfl ⟨o4, hx _ _ z4.1, d4⟩ fun h₂ hc2 hs2 => ?_
  have k12 : ∀ b o, b ≠ L + 1 + 1 + 1 + 1 → h₁.get? b = some o → h₂.get? b = some o := fun b o hb e => hs2.extBut _ _ hb e
  have F1 := F.keeps hx
  have F2 : Fr g L h₂ m := ⟨F1.ns.at' fun o e => k12 _ _ (Ne.symm z4.2.1) e, fun b o e => k12 _ _ (fun q => by rw [q, z4.2.2] at e; cases e) (F1.keep _ _ e), F1.above⟩
  have xb : Ext (BB L s.heap) (BB L h₂) := (bb_ext hx).trans (bb_keep fun b o _ h4 e => k12 b o h4 e)
  refine hnext h₂ _ Df u0 u1 u2 F2 (X.keeps xb) (grown_keeps g1 xb) (grown_keeps g2 xb) (TT.keeps xb) hc2 ⟨_, bb_of (k12 _ _ n2 m2) n1 n2, rfl, _, rfl⟩
end
end Mine
end
section
open PySem PySem.W PySem.Calls PyProof.Rows
set_option maxRecDepth 100000
set_option maxHeartbeats 4000000
namespace Mine
theorem tabD_shaped (tb : Nat → Nat → Bool) : PySem.SeqAt.shaped (tabD tb) = true := rfl
theorem tabD_eqv (tb : Nat → Nat → Bool) : PyData.eqv (tabD tb) (tabD tb) = true := by
  unfold tabD
  generalize tb 0 0 = a, tb 0 1 = b, tb 0 2 = c, tb 1 0 = d, tb 1 1 = e, tb 1 2 = f, tb 2 0 = x, tb 2 1 = y, tb 2 2 = z
  exact PySem.SeqAt.eqv_refl _ (by rfl)
/-- what a table's comprehension has made is a table -/
theorem table_made {tb : Nat → Nat → Bool} {h' : Heap} {Dt R0 R1 R2 : Addr} {kt k0 k1 k2 : Nat}
    (mk : ∀ q o, (q, o) ∈ [(Dt, listO [.ref R0, .ref R1, .ref R2] kt), (R0, listO [.bool (tb 0 0), .bool (tb 0 1), .bool (tb 0 2)] k0), (R1, listO [.bool (tb 1 0), .bool (tb 1 1), .bool (tb 1 2)] k1), (R2, listO [.bool (tb 2 0), .bool (tb 2 1), .bool (tb 2 2)] k2)] → h'.get? q = some o) : TabIs tb Dt h' :=
  ⟨fun i => if i = 0 then R0 else if i = 1 then R1 else R2, ⟨_, mk _ _ (.head _), rfl, _, rfl⟩, all3 ⟨_, mk _ _ (.tail _ (.head _)), rfl, _, rfl⟩ ⟨_, mk _ _ (.tail _ (.tail _ (.head _))), rfl, _, rfl⟩ ⟨_, mk _ _ (.tail _ (.tail _ (.tail _ (.head _)))), rfl, _, rfl⟩⟩
section
variable {prog : Program} {w : World} {mg mb : Str → Option Value} {A : Around} {s : Shared}
/-- held, and the answer -/
theorem law_G {sc : Scope} {bd : List Stmt} (hsc : sc = lawScope) (hbd : bd = lawBody.drop 11) {g : Heap} {L fa Dt Df : Addr} {m : Str → Option Value} {r : Nat → List Nat} {f0 f1 f2 : Tok}
    (G : Gd w mg mb g) (hh : A.handled = none) (hd : A.depth + 40 < recursionLimit) (hu : A.units + 300 < cLine)
    (hr : ∀ i, i < 3 → r i ≠ [] ∧ rowOk (r i)) (F : Fr g L s.heap m) (hm2 : m "table" = some (.ref Dt)) (X : LS r L (BB L s.heap)) (g1 : GrownAt 112 (BB L s.heap)) (g2 : GrownAt 209 (BB L s.heap)) (TT : TabIs (tkT r) Dt (BB L s.heap))
    (cF : s.heap.IsCell (L + 1 + 1 + 1 + 1) (some (.ref Df))) (lF : (BB L s.heap).IsList Df #[.str (S (word (Fills true (r 0)))) f0, .str (S (word (Fills true (r 1)))) f1, .str (S (word (Fills true (r 2)))) f2]) :
    wpAny (model prog w) (A.deeper (envOfC (Str.ofString "law") sc L fa (.ref 211))) (execs bd (envOfC (Str.ofString "law") sc L fa (.ref 211))) (Done g s) No s := by
  conv at hsc => rhs; whnf
  conv at hbd => rhs; whnf
  subst hsc hbd
  obtain ⟨oR, DR, t0, t1, t2, r1, r2, r3⟩ := X.rows
  obtain ⟨o3, Di, P, ps, q1, q2, q3, q4⟩ := X.items
  obtain ⟨o4, z1, z2⟩ := cF
  refine wpAny_execs_cons ?_
  refine compCTo (h₀ := g) (m := m) (cl := [(Str.ofString "rows", L + 1)]) (by with_unfolding_all exact rfl) rfl rfl (fun _ => rfl) (fun _ => rfl) (by decide) rfl rfl rfl ?_
  refine nmF (c := L + 1) rfl (bb_get r1).1 r2 ?_
  refine ⟨F, DR, _, (fun v y os => ∀ i t, i < 3 → v = .str (S (r i)) t → ∃ R k, y = .ref R ∧ os = [(R, listO [.bool (hold (r i) (r 0)), .bool (hold (r i) (r 1)), .bool (hold (r i) (r 2))] k)]), rfl, r3.at fun o e => (bb_get e).1, by simp, hh, ?_, ?_⟩
  · intro C c i0 v s₂ hv ⟨oc, hoc, hdc⟩ hx hC
    obtain ⟨i0, t, hi0, rfl⟩ : ∃ i t, i < 3 ∧ v = .str (S (r i)) t := by (refine at3 (P := fun i0 v => ∃ i t, i < 3 ∧ v = .str (S (r i)) t) hv ?_ ?_ ?_); (exact ⟨0, t0, by decide, rfl⟩); (exact ⟨1, t1, by decide, rfl⟩); (exact ⟨2, t2, by decide, rfl⟩)
    have hxb : ∀ b o, (BB L s.heap).get? b = some o → s₂.heap.get? b = some o := fun b o e => hx _ _ (bb_get e).1
    have hk2 : Ext g s₂.heap := fun b o e => hx _ _ (F.keep _ _ e)
    refine comp (cl := [(Str.ofString "outer", c)]) rfl (by decide) rfl (by decide) rfl ?_
    refine nmF (c := L + 1) rfl (hxb _ _ r1) r2 ?_
    refine ⟨_, _, (fun _ => true), (fun v y os => ∀ j, j < 3 → (∃ t, v = .str (S (r j)) t) → os = [] ∧ y = .bool (hold (r i0) (r j))), iters_list hh (r3.at fun o e => hxb _ o e), ?_, ?_, ?_, ?_⟩
    · rw [sizeLine_eq]; simp
    · intro C' i v s₃ m₃ hP hn hm3 hx3 hC'
      exact tests0
    · intro C' i v s₃ m₃ hP hp hn hm3 hx3 hC'
      obtain ⟨j0, t, hj0, rfl⟩ : ∃ j t, j < 3 ∧ v = .str (S (r j)) t := by (refine at3 (P := fun i v => ∃ j t, j < 3 ∧ v = .str (S (r j)) t) hP ?_ ?_ ?_); (exact ⟨0, t0, by decide, rfl⟩); (exact ⟨1, t1, by decide, rfl⟩); (exact ⟨2, t2, by decide, rfl⟩)
      have hk3 : Ext g s₃.heap := hk2.trans hx3
      have hrl := (hr i0 hi0).2.2
      have hrl2 := (hr j0 hj0).2.2
      refine Call_ (nmG G hk3 (at_holds w) (callWith_K (G.ext hk3).k (keep_holds w) (args_cons (nmF (c := c) rfl (hx3 _ _ hoc) hdc (args_cons (nmL hn hm3 (args_nil ⟨(G.ext hk3).k, ?_⟩)))))))
      refine wpAny_mono (sp_holds 26 (r i0) (r j0) _ _ _ _ (by (first | lia | omega)) (by decide) (G.ext hk3) (by show A.depth + 1 + 26 ≤ _; (first | lia | omega))) (fun y s' hy => ?_) fun _ _ f => f
      obtain ⟨h', tk, os, b1, b2, b3, rfl, rfl⟩ := hy
      refine ⟨h', tk, [], b1, b2, b3, fun j hj ⟨t', e⟩ => ⟨rfl, ?_⟩⟩
      injection e with e _
      have : r j0 = r j := by have := congrArg Str.cps e; simpa using this
      rw [this]
    · intro R h' tk vs zs k hlen hP hF mk hx'
      have ev := items_eq (l := [.str (S (r 0)) t0, .str (S (r 1)) t1, .str (S (r 2)) t2]) hlen hP
      subst ev
      obtain ⟨em, em1⟩ := row3 (r) (fun j => hold (r i0) (r j)) hF
      rw [em, em1] at mk
      refine ⟨h', _, _, rfl, hx', mk, fun i t' hi e => ?_⟩
      injection e with e _
      have e : r i0 = r i := by have := congrArg Str.cps e; simpa using this
      exact ⟨R, k, rfl, by rw [e]⟩
  intro Dh h₁ tk₁ zs kt hlen hF mk hx h₂ tk₂ F2 k2
  obtain ⟨R0, R1, R2, k0, k1, k2', em, em1⟩ := tab3 (tb := fun i j => hold (r i) (r j)) hlen (fun i z hz hi => by
    obtain ⟨t, ht⟩ := all3 (P := fun i => ∃ t, (#[.str (S (r 0)) t0, .str (S (r 1)) t1, .str (S (r 2)) t2] : Array Value)[i]? = some (.str (S (r i)) t)) ⟨t0, rfl⟩ ⟨t1, rfl⟩ ⟨t2, rfl⟩ i hi
    exact hF i z _ hz ht i t hi rfl)
  rw [em, em1] at mk
  have k12 : ∀ b o, b ≠ L → s.heap.get? b = some o → h₂.get? b = some o := fun b o hb e => k2 _ _ hb (hx _ _ e)
  have hL4 : L + 1 + 1 + 1 + 1 ≠ L := Nat.ne_of_gt (show (L : Nat) < (L : Nat) + 4 from Nat.lt_add_of_pos_right (by decide))
  have z12 := k12 _ _ hL4 z1
  have xb := bb_keepL (L := L) k12
  have TH : TabIs (fun i j => hold (r i) (r j)) Dh (BB L h₂) := table_made fun q o hm => by
    obtain ⟨a, b⟩ := mk _ hm
    have n1 : q ≠ L := fun e => by
      obtain ⟨oL, _, _, hoL, _⟩ := F.ns
      rw [e] at a
      exact absurd (a.symm.trans hoL) (by simp)
    have n2 : q ≠ L + 1 + 1 + 1 + 1 := fun e => by
      rw [e] at a
      exact absurd (a.symm.trans z1) (by simp)
    exact bb_of (k2 _ _ n1 b) n1 n2
  have hm3 : (fun z => if z = Str.ofString "held" then some (Value.ref Dh) else m z) (Str.ofString "table") = some (.ref Dt) := hm2
  have TT2 := (TT.keeps xb).cong fun i j hi hj => tk_hold hr hi hj
  have G1 := grown_keeps g1 xb
  have G2 := grown_keeps g2 xb
  have X2 := X.keeps xb
  have lF2 := lF.at fun o e => (bb_get (xb _ _ e)).1
  have q1' := (bb_get (xb _ _ q1)).1
  have q3' := q3.at fun o e => (bb_get (xb _ _ e)).1
  have q4' : ∀ i, i < 3 → h₂.IsList (P i) (ps i).toArray := fun i hi => (q4 i hi).1.at fun o e => (bb_get (xb _ _ e)).1
  clear hF mk em em1 xb k12 k2 hx hlen
  obtain ⟨as, RT⟩ := (TT2.keeps bb_in).reads
  obtain ⟨bs, RH⟩ := (TH.keeps bb_in).reads
  (refine wpAny_execs_cons ?_; with_reducible refine wpAny_Return_some ?_)
  refine BoolOp_and (wpAny_Compare1 (nameX_L F2 hm3 (nameX_L F2 rfl (eq_dataH RT RH (tabD_shaped _) (tabD_shaped _) (by show A.units + 3 + 64 < _; (first | lia | omega)) ?_))))
  rw [tabD_eqv]
  refine wpAny_truthy_bool ?_
  rw [if_pos rfl]
  refine BoolOp_one (wpAny_Compare1 ?_)
  refine compC (cl := [(Str.ofString "filled", L + 1 + 1 + 1 + 1)]) (by with_unfolding_all exact rfl) rfl (fun _ => rfl) (fun _ => rfl) (by decide) rfl ?_
  refine nmF (c := L + 1 + 1 + 1) rfl q1' q2 ?_
  refine ⟨Di, _, (fun v y os => ∀ i, i < 3 → v = .ref (P i) → ∃ R k, y = .ref R ∧ os = [(R, listO [.bool (hold (r i) (r 0)), .bool (hold (r i) (r 1)), .bool (hold (r i) (r 2))] k)]), rfl, q3', by simp, hh, ?_, ?_⟩
  · intro C c i0 v s₃ hv ⟨oc, hoc, hdc⟩ hx hC
    obtain ⟨hi0, rfl⟩ : i0 < 3 ∧ v = .ref (P i0) := by (refine at3 (P := fun i0 v => i0 < 3 ∧ v = .ref (P i0)) hv ?_ ?_ ?_); (exact ⟨by decide, rfl⟩); (exact ⟨by decide, rfl⟩); (exact ⟨by decide, rfl⟩)
    have hk2 : Ext g s₃.heap := fun b o e => hx _ _ (F2.keep _ _ e)
    refine comp (cl := [(Str.ofString "parts", c)]) rfl (by decide) rfl (by decide) rfl ?_
    refine nmF (c := L + 1 + 1 + 1 + 1) rfl (hx _ _ z12) z2 ?_
    refine ⟨_, _, (fun _ => true), (fun v y os => ∀ j, j < 3 → (∃ t, v = .str (S (word (Fills true (r j)))) t) → os = [] ∧ y = .bool (hold (r i0) (r j))), iters_list hh (lF2.at fun o e => hx _ o e), ?_, ?_, ?_, ?_⟩
    · rw [sizeLine_eq]; simp
    · intro C' i v s₄ m₄ hP hn hm3 hx3 hC'
      exact tests0
    · intro C' i v s₄ m₄ hP hp hn hm3 hx3 hC'
      obtain ⟨j0, t, hj0, rfl⟩ : ∃ j t, j < 3 ∧ v = .str (S (word (Fills true (r j)))) t := by (refine at3 (P := fun i v => ∃ j t, j < 3 ∧ v = .str (S (word (Fills true (r j)))) t) hP ?_ ?_ ?_); (exact ⟨0, f0, by decide, rfl⟩); (exact ⟨1, f1, by decide, rfl⟩); (exact ⟨2, f2, by decide, rfl⟩)
      have hk3 : Ext g s₄.heap := hk2.trans hx3
      have hpl := parts_len (word (r i0))
      have hwl := word_len (r i0)
      have hwr := wr_len (r i0)
      have hrl := (hr i0 hi0).2.2
      have hl : (word (Fills true (r j0))).length ≤ 5000 := by
        have := word_len (Fills true (r j0)); have := wr_len (Fills true (r j0)); have := fill_len (r j0); have := (hr j0 hj0).2.2; (first | lia | omega)
      refine Call_ (nmG G hk3 (at_takes w) (callWith_K (G.ext hk3).k (keep_takes w) (args_cons (nmF (c := c) rfl (hx3 _ _ hoc) hdc (args_cons (nmL hn hm3 (args_nil ⟨(G.ext hk3).k, ?_⟩)))))))
      refine wpAny_mono (sp_takes (G.ext hk3) hh (by show A.depth + 1 < _; (first | lia | omega)) (by show A.units + 3 + 200 < _; (first | lia | omega)) ((q4' i0 hi0).at fun o e => hx3 _ o (hx _ _ e)) (q4 i0 hi0).2 (by (first | lia | omega)) hl) (fun y s' hy => ?_) fun _ _ f => f
      obtain ⟨h', tk, os, b1, b2, b3, rfl, rfl⟩ := hy
      refine ⟨h', tk, [], b1, b2, b3, fun j hj ⟨t', e⟩ => ⟨rfl, ?_⟩⟩
      injection e with e _
      have : word (Fills true (r j0)) = word (Fills true (r j)) := by have := congrArg Str.cps e; simpa using this
      rw [this, takes_hold true (r i0) (r j) (hr i0 hi0).2.1 (hr j hj).2.1]
    · intro R h' tk vs zs k hlen hP hF mk hx'
      have ev := items_eq (l := [.str (S (word (Fills true (r 0)))) f0, .str (S (word (Fills true (r 1)))) f1, .str (S (word (Fills true (r 2)))) f2]) hlen hP
      subst ev
      obtain ⟨em, em1⟩ := row3 (fun j => word (Fills true (r j))) (fun j => hold (r i0) (r j)) hF
      rw [em, em1] at mk
      refine ⟨h', _, _, rfl, hx', mk, fun i hi e => ?_⟩
      injection e with e
      have hpp : ps i = ps i0 := by
        have h1 := (q4 i hi).1
        have h2 := (q4 i0 hi0).1
        rw [← e] at h1
        simpa using isList_inj h1 h2
      have hpe : parts (word (r i)) = parts (word (r i0)) := paired_inj ((q4 i hi).2) (hpp ▸ (q4 i0 hi0).2)
      have htk : ∀ j, j < 3 → hold (r i) (r j) = hold (r i0) (r j) := fun j hj => by
        rw [← tk_hold hr hi hj, ← tk_hold hr hi0 hj]; unfold tkT; rw [hpe]
      exact ⟨R, k, rfl, by rw [htk 0 (by decide), htk 1 (by decide), htk 2 (by decide)]⟩
  intro Da h₃ tk₃ zs ka hlen hF mk hx
  obtain ⟨R0, R1, R2, k0, k1, k2', em, em1⟩ := tab3 (tb := fun i j => hold (r i) (r j)) hlen (fun i z hz hi => hF i z (.ref (P i)) hz (all3 (P := fun i => (#[.ref (P 0), .ref (P 1), .ref (P 2)] : Array Value)[i]? = some (.ref (P i))) rfl rfl rfl i hi) i hi rfl)
  rw [em, em1] at mk
  have TA : TabIs (fun i j => hold (r i) (r j)) Da h₃ := table_made fun q o hm => (mk _ hm).2
  obtain ⟨cs, RA⟩ := TA.reads
  obtain ⟨bs', RH'⟩ := ((TH.keeps bb_in).keeps hx).reads
  have F3 := F2.keeps hx
  refine nameX_L F3 rfl (eq_dataH RA RH' (tabD_shaped _) (tabD_shaped _) (by show A.units + 3 + 64 < _; (first | lia | omega)) ?_)
  rw [tabD_eqv]
  exact ⟨rfl, h₃, _, rfl, F3.keep, grown_keeps G1 (bb_in.trans hx), grown_keeps G2 (bb_in.trans hx)⟩
end
end Mine
end
section
open PySem PySem.W PySem.Calls PyProof.Rows
set_option maxRecDepth 100000
set_option maxHeartbeats 4000000
namespace Mine
section
variable {prog : Program} {w : World} {mg mb : Str → Option Value} {A : Around} {s : Shared}
/-- the whole law -/
theorem law_all {sc : Scope} {bd : List Stmt} (hsc : sc = lawScope) (hbd : bd = lawBody) {g : Heap} {L fa I : Addr} {vals : List Value} {ns : List Int} {o1 o2 o3 o4 : Obj} {m : Str → Option Value} {p : Program} {loose : List Str} {mean : ExcName → Option Value}
    (G : Gd w mg mb g) (T : Top p loose mean mg mb g) (CH : CodeHd g 211 209) (hh : A.handled = none) (hd : A.depth + 40 < recursionLimit) (hu : A.units + 300 < cLine)
    (hI : g.IsList I vals.toArray) (hi : IntsAre vals ns) (hn : ns.length ≤ 1000) (F : Fr g L s.heap m) (hm : m "script" = some (.ref I))
    (N : News g L s.heap [(L + 1 + 1 + 1 + 1, o4), (L + 1 + 1 + 1, o3), (L + 1 + 1, o2), (L + 1, o1), (112, tabObj #[]), (209, tabObj #[])]) (hlt : 112 < L ∧ 209 < L)
    (d1 : o1.data = .cell none) (d2 : o2.data = .cell none) (d3 : o3.data = .cell none) (d4 : o4.data = .cell none) :
    wpAny (model prog w) (A.deeper (envOfC (Str.ofString "law") sc L fa (.ref 211))) (execs bd (envOfC (Str.ofString "law") sc L fa (.ref 211))) (Done g s) No s := by
  have hd2 : A.depth + 20 < recursionLimit := by (first | lia | omega)
  have hlt' : (112 : Addr) ≠ L + 1 + 1 + 1 + 1 ∧ (209 : Addr) ≠ L + 1 + 1 + 1 + 1 := ⟨Nat.ne_of_lt (Nat.lt_of_lt_of_le hlt.1 (Nat.le_add_right (L : Nat) 4)), Nat.ne_of_lt (Nat.lt_of_lt_of_le hlt.2 (Nat.le_add_right (L : Nat) 4))⟩
  refine law_A hsc hbd G hh hd2 hu hI hi hn F hm N hlt d1 d2 d3 d4 (fun r h' tk o4 hr F X N d4 => ?_)
  refine law_B rfl rfl G T CH hh hd2 hu hr F X N hlt' (fun h' tk m' Dl F hm X g1 g2 Y N => ?_)
  refine law_C rfl rfl G hh hd2 hu hr F hm X g1 g2 Y N (fun h' tk m' Dt F hm hm2 X g1 g2 Y TT N => ?_)
  refine law_D rfl rfl G hh hd2 hu hr F hm hm2 X g1 g2 Y TT N (fun h' tk F X g1 g2 TT N => ?_)
  refine law_E rfl rfl G hh hd2 hu hr F X g1 g2 TT N (fun h' tk F X g1 g2 TT N => ?_)
  refine law_F rfl rfl G hh hd hu hr F X g1 g2 TT N d4 (fun h' tk Df f0 f1 f2 F X g1 g2 TT cF lF => ?_)
  exact law_G rfl rfl G hh hd hu hr F hm2 X g1 g2 TT cF lF
end
end Mine
end
section
open PySem PySem.W PySem.Calls PyProof.Rows
set_option maxRecDepth 100000
set_option maxHeartbeats 4000000
namespace Mine
theorem monoQ {α : Type} {M : Model} {A : Around} {t : Sem α} {s : Shared} {Q' Q : α → Shared → Prop} {E : Value → Shared → Prop} (h : wpAny M A t Q' No s) (k : ∀ v s', Q' v s' → Q v s') : wpAny M A t Q E s := wpAny_mono h k fun _ _ f => f.elim
theorem gdT {w : World} {mg mb : Str → Option Value} {g : Heap} {p : Program} {loose : List Str} {mean : ExcName → Option Value} (X : (hdK w.params).In g) (T : Top p loose mean mg mb g) : Gd w mg mb g where
  k := X
  g := T.g
  b := T.b
  lim := T.nolimit
  dig := T.nodigits
  bi := T.builtins
end Mine
set_option maxRecDepth 100000 in
set_option maxHeartbeats 8000000 in
theorem PySem.Challenge.cw_ik0164_01_holds : PySem.Challenge.rw_ik0164_01.Holds := by
  refine holds_law Mine.said fun said => ?_
  refine holds_open (q := Mine.vw) (loose := Mine.looseN) (Xt := Mine.XtN) (XP := XL Mine.vw Mine.lvN) (Yf := (kmHook Mine.hdK Mine.hdA (fun _ => by kernel_rfl) [112, 209]).obs) (Ya := (kmHook Mine.hdK Mine.hdA (fun _ => by kernel_rfl) [112, 209]).val) (YP := (kmHook Mine.hdK Mine.hdA (fun _ => by kernel_rfl) [112, 209]).says) (N := 40000) Mine.leftN Mine.HK.of Mine.HK.keeps
    (fun s e => xl_of s (Bool.and_eq_true_iff.mp e).1) XL.keeps (by rfl) (by rfl) (by rfl) (fun s e => recFacts_of (Bool.and_eq_true_iff.mp e).2) (by rfl) said (by decide +kernel) ⟨rfl, rfl, rfl, rfl, rfl, by decide +kernel⟩ Mine.promised ?hc
  case hc =>
  k_go0
  all_goals try k_fold
  have hgen := ‹Shared.gens _ = #[]›
  have X' := ‹(Mine.hdK _).In (ghostOf _ _)›
  have T' := ‹Top _ _ _ _ _ (ghostOf _ _)›
  have hl0 := ‹112 < _ ∧ 209 < _›
  have hII := ‹IntsAre _ _›
  have N' := ‹News _ _ _ _›
  have F' := ‹Fr (ghostOf _ _) _ _ _›
  have hln := ‹¬ (63 : Int) < _›
  refine Mine.monoQ (Mine.law_all (by with_unfolding_all rfl) (by with_unfolding_all rfl) (Mine.gdT X' T') T' codeHd (by with_unfolding_all rfl) (by decide) (by decide) lifted hII (by (first | lia | omega)) F' rfl N' hl0 (by assumption) (by assumption) (by assumption) (by assumption)) ?q
  case q =>
    rintro f s' ⟨rfl, h', tk, rfl, x, g1, g2⟩
    refine ⟨⟨.inl ⟨.bool true, .bool true, [], rfl, fun _ => rfl, .bool _, (by kc_post), fun _ => ⟨List.nodup_nil, fun _ h => nomatch h⟩⟩, x, rfl, hgen⟩, g1, g2, trivial⟩
end
