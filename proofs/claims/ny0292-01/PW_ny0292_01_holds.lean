import PyProof.Rows.All
import Wide.All
import OpenK.AllK
import Wide.FinOn
import PyProof.ExcFactsAll.ValueError
import PyProof.CallStr
import PyProof.ExcStrAll.ValueError
import PySem.Builtin.Sre.Common
import PyProof.Rows.StrJoin2
import Lean
import PySem.Challenge.RW_ny0292_01
open PySem PySem.W PySem.W.X PyProof.Rows PySem.Calls
set_option Elab.async false
set_option maxRecDepth 100000
set_option linter.unusedVariables false
set_option linter.unusedSimpArgs false
namespace Mine
section
/-! membership in written lists, without simp -/
@[reducible] noncomputable def OrL {α : Type} (x : α) : List α → Prop
  | [] => False
  | a :: l => match l with
    | [] => x = a
    | _ :: _ => x = a ∨ OrL x l
@[reducible] noncomputable def NoL {α : Type} (x : α) : List α → Prop
  | [] => True
  | a :: l => match l with
    | [] => ¬ x = a
    | _ :: _ => ¬ x = a ∧ NoL x l
@[reducible] noncomputable def ND {α : Type} : List α → Prop
  | [] => True
  | a :: l => match l with
    | [] => True
    | b :: l' => match l' with
      | [] => ¬ a = b
      | _ :: _ => NoL a l ∧ ND l
theorem memL {α : Type} {x : α} : ∀ {l : List α}, x ∈ l → OrL x l
  | [], h => nomatch h
  | [a], h => List.mem_singleton.mp h
  | a :: b :: l, h => (List.mem_cons.mp h).imp id memL
theorem nmL {α : Type} {x : α} : ∀ {l : List α}, NoL x l → x ∉ l
  | [], _ => fun h => nomatch h
  | [a], n => fun h => n (List.mem_singleton.mp h)
  | a :: b :: l, n => fun h => (List.mem_cons.mp h).elim n.1 (nmL n.2)
theorem noL {α : Type} {x : α} : ∀ {l : List α}, x ∉ l → NoL x l
  | [], _ => trivial
  | [a], n => fun h => n (List.mem_singleton.mpr h)
  | a :: b :: l, n => ⟨fun h => n (List.mem_cons.mpr (.inl h)), noL fun h => n (List.mem_cons.mpr (.inr h))⟩
theorem ndL {α : Type} : ∀ {l : List α}, ND l → l.Nodup
  | [], _ => List.nodup_nil
  | [a], _ => List.nodup_cons.mpr (.intro (fun h => nomatch h) List.nodup_nil)
  | [a, b], n => List.nodup_cons.mpr ⟨nmL (l := [b]) n, ndL (l := [b]) trivial⟩
  | a :: b :: c :: l, n => List.nodup_cons.mpr ⟨nmL n.1, ndL n.2⟩
theorem ndL' {α : Type} : ∀ {l : List α}, l.Nodup → ND l
  | [], _ => trivial
  | [a], _ => trivial
  | [a, b], n => noL (l := [b]) (List.nodup_cons.mp n).1
  | a :: b :: c :: l, n => ⟨noL (List.nodup_cons.mp n).1, ndL' (List.nodup_cons.mp n).2⟩
@[reducible] noncomputable def NoM {α β : Type} (x : α) : List (α × β) → Prop
  | [] => True
  | a :: l => match l with
    | [] => ¬ x = a.1
    | _ :: _ => ¬ x = a.1 ∧ NoM x l
@[reducible] noncomputable def NDm {α β : Type} : List (α × β) → Prop
  | [] => True
  | a :: l => match l with
    | [] => True
    | b :: l' => match l' with
      | [] => ¬ a.1 = b.1
      | _ :: _ => NoM a.1 l ∧ NDm l
theorem noM {α β : Type} {x : α} : ∀ {l : List (α × β)}, NoM x l → x ∉ l.map (·.1)
  | [], _ => fun h => nomatch h
  | [_], n => fun h => n (List.mem_singleton.mp h)
  | _ :: b :: l, n => fun h => (List.mem_cons.mp h).elim n.1 (noM (l := b :: l) n.2)
theorem ndM {α β : Type} : ∀ {l : List (α × β)}, NDm l → (l.map (·.1)).Nodup
  | [], _ => List.nodup_nil
  | [_], _ => List.nodup_cons.mpr (.intro (fun h => nomatch h) List.nodup_nil)
  | [_, b], n => List.nodup_cons.mpr ⟨noM (l := [b]) n, ndM (l := [b]) trivial⟩
  | _ :: b :: c :: l, n => List.nodup_cons.mpr ⟨noM (l := b :: c :: l) n.1, ndM (l := b :: c :: l) n.2⟩
end
section
noncomputable def denZ : Code → Sem PySem.Fin := Fast.tw11892475500146522536 treeTable
theorem denZ_eq : denZ = denote treeTable := by unfold denZ; rw [← Fast.te11892475500146522536]
noncomputable def okZ := Fast.tw6613529449190102663
theorem okZ_eq : @okZ = @stepOk := by unfold okZ; rw [← Fast.te6613529449190102663]
/-- where the model's machine is asked for the stack behind a step -/
noncomputable def stackZ (p : Program) (w : World) (t : Thread) : List Frame := match Fast.tw8437177126325714943 denZ p w ⟨{}, #[], {}, 0, {}⟩ t with
  | .go _ t' => t'.stack
  | .halt _ _ => []
noncomputable abbrev Lr := BT × Nat × Nat
noncomputable abbrev LTy := BT → Nat → Nat → Sem PySem.Fin → Code → Pos → List Frame → Option Lr
structure LP where
  p : Program
  w : World
  imp : Bool
  n₀ : Nat
  ann : Option Value
noncomputable def lGo (V : LP) (ih : LTy) (T : BT) (n k : Nat) (pos : Pos) (c : Code) (t : Thread) : Option Lr := ih T n k (denZ c) c pos (stackZ V.p V.w t)
noncomputable def lAgain (V : LP) (ih : LTy) (T : BT) (n k : Nat) (code : Code) (pos : Pos) (st : List Frame) (c : Code) : Option Lr :=
  match V.imp with
  | true => match (⟨.pure (.again c), code, pos, st⟩ : Thread).atExitBegin with
    | some l => match l with
      | [] => some (T, n, k)
      | _ :: _ => none
    | none => lGo V ih T n k pos c ⟨.pure (.again c), code, pos, st⟩
  | false => match okZ V.n₀ V.ann ⟨.pure (.again c), code, pos, st⟩ with
    | true => lGo V ih T n k pos c ⟨.pure (.again c), code, pos, st⟩
    | false => none
noncomputable def lDone (V : LP) (ih : LTy) (T : BT) (n k : Nat) (st : List Frame) (f : Flow) : Option Lr :=
  match st with
  | [] => match V.imp with
    | true => none
    | false => some (T, n, k)
  | fr :: rest => match fr with
    | .ret kk _ _ _ c q _ => ih T n k (kk (.ok f)) c q rest
    | .gen .. => none
noncomputable def lPure (V : LP) (ih : LTy) (T : BT) (n k : Nat) (code : Code) (pos : Pos) (st : List Frame) (fin : PySem.Fin) : Option Lr :=
  match fin with
  | .done f => lDone V ih T n k st f
  | .again c => lAgain V ih T n k code pos st c
noncomputable def lRaise (ih : LTy) (T : BT) (n k : Nat) (st : List Frame) (e : Value) : Option Lr :=
  match st with
  | [] => none
  | fr :: rest => match fr with
    | .ret kk _ _ _ c q _ => ih T n k (kk (.error e)) c q rest
    | .gen .. => none
noncomputable def lLoad (ih : LTy) (T : BT) (n k : Nat) (code : Code) (pos : Pos) (st : List Frame) (a : Addr) (kk : Obj → Sem PySem.Fin) : Option Lr :=
  match Nat.blt a n with
  | true => match T.get a with
    | some o => match alive o with
      | some o' => ih T n k (kk o') code pos st
      | none => none
    | none => none
  | false => none
noncomputable def lUpdate (V : LP) (ih : LTy) (T : BT) (n k : Nat) (code : Code) (pos : Pos) (st : List Frame) (a : Addr) (f : Obj → Obj) (kk : Unit → Sem PySem.Fin) : Option Lr :=
  match V.imp || (Nat.ble V.n₀ a || a == mainNs || a == cStatics || V.ann == some (.ref a)) with
  | true => match Nat.blt a n with
    | true => match T.get a with
      | some o => match alive o with
        | some _ => ih (T.set a f) n k (kk ()) code pos st
        | none => none
      | none => none
    | false => none
  | false => none
noncomputable def lAlloc (ih : LTy) (T : BT) (n k : Nat) (code : Code) (pos : Pos) (st : List Frame) (o : Obj) (kk : Addr → Sem PySem.Fin) : Option Lr :=
  match ((T.ins n o).get n).isSome with
  | true => ih (T.ins n o) (n + 1) k (kk n) code pos st
  | false => none
noncomputable def lAlive (ih : LTy) (T : BT) (n k : Nat) (code : Code) (pos : Pos) (st : List Frame) (a : Addr) (kk : Option Obj → Sem PySem.Fin) : Option Lr :=
  match Nat.blt a n with
  | true => match T.get a with
    | some o => ih T n k (kk (alive o)) code pos st
    | none => none
  | false => ih T n k (kk none) code pos st
noncomputable def lHandled (ih : LTy) (T : BT) (n k : Nat) (code : Code) (pos : Pos) (st : List Frame) (own : Bool) (kk : Option Value → Sem PySem.Fin) : Option Lr :=
  match own with
  | false => ih T n k (kk (topHandled st)) code pos st
  | true => none
noncomputable def lStep (V : LP) (ih : LTy) (T : BT) (n k : Nat) (cur : Sem PySem.Fin) (code : Code) (pos : Pos) (st : List Frame) : Option Lr :=
  match cur with
  | .pure fin => lPure V ih T n k code pos st fin
  | .raise e => lRaise ih T n k st e
  | .rule _ kk => ih T n k (kk ()) code pos st
  | .at q kk => ih T n k (kk ()) code q st
  | .point _ kk => ih T n k (kk ()) code pos st
  | .ask kk => ih T n k (kk ⟨V.p, V.w.params⟩) code pos st
  | .fresh kk => ih T n (k + 1) (kk k) code pos st
  | .load a _ kk => lLoad ih T n k code pos st a kk
  | .update a _ f kk => lUpdate V ih T n k code pos st a f kk
  | .alloc o kk => lAlloc ih T n k code pos st o kk
  | .loadIfAlive a kk => lAlive ih T n k code pos st a kk
  | .call c h g l kk => lGo V ih T n k pos c ⟨.call c h g l kk, code, pos, st⟩
  | .handled own kk => lHandled ih T n k code pos st own kk
  | .stack kk => ih T n k (kk ((code, pos) :: st.map Frame.where_)) code pos st
  | _ => none
noncomputable def lRun (V : LP) : Nat → LTy
  | 0 => fun _ _ _ _ _ _ _ => none
  | f + 1 => lStep V (lRun V f)
section
variable {V : LP} {life : Life} {gens : Array GenState} {drawn : Drawn} {os : OsState}
noncomputable abbrev shL (life : Life) (gens : Array GenState) (drawn : Drawn) (os : OsState) (T : BT) (n k : Nat) : SharedT := ⟨T, n, life, gens, drawn, k, os⟩
/-- a step that goes on -/
inductive LOn (V : LP) (life : Life) (gens : Array GenState) (drawn : Drawn) (os : OsState) (ih : LTy) (T : BT) (n k : Nat) (th : Thread) (r : Lr) : Prop
  | mk (T2 : BT) (n2 k2 : Nat) (cur2 : Sem PySem.Fin) (code2 : Code) (pos2 : Pos) (st2 : List Frame) (e1 : ih T2 n2 k2 cur2 code2 pos2 st2 = some r)
    (e2 : stepT (denote treeTable) V.p V.w (shL life gens drawn os T n k) th = some (shL life gens drawn os T2 n2 k2, ⟨cur2, code2, pos2, st2⟩))
    (e3 : V.imp = true → th.atExitBegin = none) (e4 : V.imp = false → through th = false ∧ stepOk V.n₀ V.ann th = true)
/-- what a step of the lean machine says -/
noncomputable def LSays (V : LP) (life : Life) (gens : Array GenState) (drawn : Drawn) (os : OsState) (ih : LTy) (T : BT) (n k : Nat) (th : Thread) (r : Lr) : Prop :=
  (r = (T, n, k) ∧ ((V.imp = true ∧ th.atExitBegin = some []) ∨ (V.imp = false ∧ through th = true))) ∨ LOn V life gens drawn os ih T n k th r
theorem stackZ_eq (p : Program) (w : World) (t : Thread) : stackZ p w t = match PySem.step (denote treeTable) p w ⟨{}, #[], {}, 0, {}⟩ t with
  | .go _ t' => t'.stack
  | .halt _ _ => [] := by unfold stackZ; rw [← Fast.te8437177126325714943, denZ_eq]
theorem through_no {cur : Sem PySem.Fin} {code : Code} {pos : Pos} {st : List Frame} (h : ∀ f, cur ≠ .pure (.done f)) : through ⟨cur, code, pos, st⟩ = false := by
  unfold through
  cases cur with
  | pure fin =>
    cases fin with
    | done f => exact absurd rfl (h f)
    | again c => exact Bool.and_false _
  | _ => exact Bool.and_false _
section
variable {ih : LTy} {T : BT} {n k : Nat} {code : Code} {pos : Pos} {st : List Frame} {r : Lr}
theorem again_says {c : Code} (h : lAgain V ih T n k code pos st c = some r) : LSays V life gens drawn os ih T n k ⟨.pure (.again c), code, pos, st⟩ r := by
  have go : lGo V ih T n k pos c ⟨.pure (.again c), code, pos, st⟩ = some r → (V.imp = true → (⟨.pure (.again c), code, pos, st⟩ : Thread).atExitBegin = none) → (V.imp = false → stepOk V.n₀ V.ann ⟨.pure (.again c), code, pos, st⟩ = true) → LOn V life gens drawn os ih T n k ⟨.pure (.again c), code, pos, st⟩ r := fun e1 y1 y2 => by
    unfold lGo at e1
    rw [stackZ_eq, denZ_eq] at e1
    exact ⟨_, _, _, _, _, _, _, e1, rfl, y1, fun q => ⟨through_no (fun f e => by cases e), y2 q⟩⟩
  unfold lAgain at h
  cases hi : V.imp with
  | true =>
    rw [hi] at h
    cases ha : (⟨.pure (.again c), code, pos, st⟩ : Thread).atExitBegin with
    | some l =>
      rw [ha] at h
      cases l with
      | nil => exact .inl ⟨(Option.some.inj h).symm, .inl ⟨hi, ha⟩⟩
      | cons _ _ => cases h
    | none =>
      rw [ha] at h
      exact .inr (go h (fun _ => ha) (fun q => nomatch hi.symm.trans q))
  | false =>
    rw [hi, okZ_eq] at h
    cases ho : stepOk V.n₀ V.ann ⟨.pure (.again c), code, pos, st⟩ with
    | false => rw [ho] at h; cases h
    | true =>
      rw [ho] at h
      exact .inr (go h (fun q => nomatch hi.symm.trans q) (fun _ => ho))
theorem load_says {a : Addr} {q} {kk : Obj → Sem PySem.Fin} (h : lLoad ih T n k code pos st a kk = some r) : LSays V life gens drawn os ih T n k ⟨.load a q kk, code, pos, st⟩ r := by
  unfold lLoad at h
  cases e1 : Nat.blt a n with
  | false => rw [e1] at h; cases h
  | true =>
    rw [e1] at h
    cases e2 : T.get a with
    | none => rw [e2] at h; cases h
    | some o =>
      rw [e2] at h
      cases e3 : alive o with
      | none => simp only [e3] at h; cases h
      | some o' =>
        simp only [e3] at h
        exact .inr ⟨_, _, _, _, _, _, _, h, by simp only [stepT, e1, e2, e3], fun _ => rfl, fun _ => ⟨through_no (fun f e => by cases e), rfl⟩⟩
theorem update_says {a : Addr} {q} {f : Obj → Obj} {kk : Unit → Sem PySem.Fin} (h : lUpdate V ih T n k code pos st a f kk = some r) : LSays V life gens drawn os ih T n k ⟨.update a q f kk, code, pos, st⟩ r := by
  unfold lUpdate at h
  cases e0 : (V.imp || (Nat.ble V.n₀ a || a == mainNs || a == cStatics || V.ann == some (.ref a))) with
  | false => rw [e0] at h; cases h
  | true =>
    rw [e0] at h
    cases e1 : Nat.blt a n with
    | false => rw [e1] at h; cases h
    | true =>
      rw [e1] at h
      cases e2 : T.get a with
      | none => rw [e2] at h; cases h
      | some o =>
        rw [e2] at h
        cases e3 : alive o with
        | none => simp only [e3] at h; cases h
        | some o' =>
          simp only [e3] at h
          refine .inr ⟨_, _, _, _, _, _, _, h, by simp only [stepT, e1, e2, e3], fun _ => rfl, fun hi => ⟨through_no (fun f e => by cases e), ?_⟩⟩
          rw [hi, Bool.false_or] at e0
          exact e0
theorem alloc_says {o : Obj} {kk : Addr → Sem PySem.Fin} (h : lAlloc ih T n k code pos st o kk = some r) : LSays V life gens drawn os ih T n k ⟨.alloc o kk, code, pos, st⟩ r := by
  unfold lAlloc at h
  cases e1 : ((T.ins n o).get n).isSome with
  | false => rw [e1] at h; cases h
  | true =>
    rw [e1] at h
    exact .inr ⟨_, _, _, _, _, _, _, h, by simp only [stepT, e1], fun _ => rfl, fun _ => ⟨through_no (fun f e => by cases e), rfl⟩⟩
theorem alive_says {a : Addr} {kk : Option Obj → Sem PySem.Fin} (h : lAlive ih T n k code pos st a kk = some r) : LSays V life gens drawn os ih T n k ⟨.loadIfAlive a kk, code, pos, st⟩ r := by
  unfold lAlive at h
  cases e1 : Nat.blt a n with
  | false =>
    rw [e1] at h
    exact .inr ⟨_, _, _, _, _, _, _, h, by simp only [stepT, e1], fun _ => rfl, fun _ => ⟨through_no (fun f e => by cases e), rfl⟩⟩
  | true =>
    rw [e1] at h
    cases e2 : T.get a with
    | none => rw [e2] at h; cases h
    | some o =>
      rw [e2] at h
      exact .inr ⟨_, _, _, _, _, _, _, h, by simp only [stepT, e1, e2], fun _ => rfl, fun _ => ⟨through_no (fun f e => by cases e), rfl⟩⟩
theorem none_no {P : Prop} (h : (none : Option Lr) = some r) : P := nomatch h
theorem lStep_says {cur : Sem PySem.Fin} (h : lStep V ih T n k cur code pos st = some r) : LSays V life gens drawn os ih T n k ⟨cur, code, pos, st⟩ r := by
  cases cur with
  | pure fin =>
    cases fin with
    | done f =>
      cases st with
      | nil =>
        replace h : lDone V ih T n k [] f = some r := h
        unfold lDone at h
        cases hi : V.imp with
        | true => rw [hi] at h; exact none_no h
        | false => rw [hi] at h; exact .inl ⟨(Option.some.inj h).symm, .inr ⟨hi, rfl⟩⟩
      | cons fr rest =>
        cases fr with
        | gen => exact none_no h
        | ret kk a b c d q e => exact .inr ⟨_, _, _, _, _, _, _, h, rfl, fun _ => rfl, fun _ => ⟨rfl, rfl⟩⟩
    | again c => exact again_says h
  | raise e =>
    cases st with
    | nil => exact none_no h
    | cons fr rest =>
      cases fr with
      | gen => exact none_no h
      | ret kk a b c d q e => exact .inr ⟨_, _, _, _, _, _, _, h, rfl, fun _ => rfl, fun _ => ⟨rfl, rfl⟩⟩
  | rule tag kk => exact .inr ⟨_, _, _, _, _, _, _, h, rfl, fun _ => rfl, fun _ => ⟨through_no (fun f e => by cases e), rfl⟩⟩
  | «at» q kk => exact .inr ⟨_, _, _, _, _, _, _, h, rfl, fun _ => rfl, fun _ => ⟨through_no (fun f e => by cases e), rfl⟩⟩
  | point l kk => exact .inr ⟨_, _, _, _, _, _, _, h, rfl, fun _ => rfl, fun _ => ⟨through_no (fun f e => by cases e), rfl⟩⟩
  | ask kk => exact .inr ⟨_, _, _, _, _, _, _, h, rfl, fun _ => rfl, fun _ => ⟨through_no (fun f e => by cases e), rfl⟩⟩
  | fresh kk => exact .inr ⟨_, _, _, _, _, _, _, h, rfl, fun _ => rfl, fun _ => ⟨through_no (fun f e => by cases e), rfl⟩⟩
  | stack kk => exact .inr ⟨_, _, _, _, _, _, _, h, rfl, fun _ => rfl, fun _ => ⟨through_no (fun f e => by cases e), rfl⟩⟩
  | load => exact load_says h
  | update => exact update_says h
  | alloc => exact alloc_says h
  | loadIfAlive => exact alive_says h
  | call c hh g l kk =>
    have h' : lGo V ih T n k pos c ⟨.call c hh g l kk, code, pos, st⟩ = some r := h
    unfold lGo at h'
    rw [stackZ_eq, denZ_eq] at h'
    exact .inr ⟨_, _, _, _, _, _, _, h', rfl, fun _ => rfl, fun _ => ⟨through_no (fun f e => by cases e), rfl⟩⟩
  | handled own kk =>
    cases own with
    | true => exact none_no h
    | false => exact .inr ⟨_, _, _, _, _, _, _, h, rfl, fun _ => rfl, fun _ => ⟨through_no (fun f e => by cases e), rfl⟩⟩
  | _ => exact none_no h
end
theorem imp_of : ∀ {f : Nat} {T : BT} {n k : Nat} {cur : Sem PySem.Fin} {code : Code} {pos : Pos} {st : List Frame} {r : Lr}, V.imp = true → lRun V f T n k cur code pos st = some r →
    importEnds treeTable V.p V.w f (shL life gens drawn os T n k).abs ⟨cur, code, pos, st⟩ = some (shL life gens drawn os r.1 r.2.1 r.2.2).abs
  | 0, _, _, _, _, _, _, _, _, _, h => by cases h
  | f + 1, T, n, k, cur, code, pos, st, r, hi, h => by
    unfold importEnds
    rcases lStep_says (life := life) (gens := gens) (drawn := drawn) (os := os) h with ⟨e, x⟩ | ⟨T2, n2, k2, c2, d2, p2, s2, e1, e2, e3, _⟩
    · rcases x with ⟨_, x⟩ | ⟨x, _⟩
      · rw [x]; subst e; rfl
      · rw [hi] at x; cases x
    · rw [e3 hi]
      dsimp only
      rw [stepT_spec e2]
      exact imp_of hi e1
theorem top_of : ∀ {f : Nat} {T : BT} {n k : Nat} {cur : Sem PySem.Fin} {code : Code} {pos : Pos} {st : List Frame} {r : Lr}, V.imp = false → lRun V f T n k cur code pos st = some r →
    topRun treeTable V.p V.w V.n₀ V.ann f (shL life gens drawn os T n k).abs ⟨cur, code, pos, st⟩ = some (shL life gens drawn os r.1 r.2.1 r.2.2).abs
  | 0, _, _, _, _, _, _, _, _, _, h => by cases h
  | f + 1, T, n, k, cur, code, pos, st, r, hi, h => by
    unfold topRun
    rcases lStep_says (life := life) (gens := gens) (drawn := drawn) (os := os) h with ⟨e, x⟩ | ⟨T2, n2, k2, c2, d2, p2, s2, e1, e2, _, e4⟩
    · rcases x with ⟨x, _⟩ | ⟨_, x⟩
      · rw [hi] at x; cases x
      · rw [x]; subst e; rfl
    · rw [(e4 hi).1, (e4 hi).2]
      dsimp only
      rw [stepT_spec e2]
      exact top_of hi e1
end
/-- a tree of a list's objects -/
noncomputable def bld : BT → Nat → List Obj → Option BT
  | t, _, [] => some t
  | t, n, o :: l => match ((t.ins n o).get n).isSome with
    | true => bld (t.ins n o) (n + 1) l
    | false => none
theorem bld_of {life : Life} : ∀ {l : List Obj} {t t' : BT} {n : Nat}, bld t n l = some t' → (absHeap t' (n + l.length) life).objs = (absHeap t n life).objs ++ l.toArray
  | [], t, t', n, h => by cases h; simp
  | o :: l, t, t', n, h => by
    unfold bld at h
    cases hg : ((t.ins n o).get n).isSome with
    | false => rw [hg] at h; cases h
    | true =>
      rw [hg] at h
      have z := bld_of (life := life) h
      rw [absHeap_ins hg] at z
      rw [show n + (o :: l).length = n + 1 + l.length from by simp only [List.length_cons]; omega, z]
      show ((absHeap t n life).objs.push o) ++ l.toArray = _
      rw [← Array.toList_inj]
      simp
theorem bld_abs {h : Heap} {t : BT} (e : bld .nil 0 h.objs.toList = some t) : absHeap t h.objs.size h.life = h := by
  have z := bld_of (life := h.life) e
  obtain ⟨objs, life⟩ := h
  have : (absHeap t objs.size life).objs = objs := by
    have e0 : (absHeap BT.nil 0 life).objs = #[] := rfl
    rw [e0, Nat.zero_add, Array.length_toList] at z
    rw [z]; simp
  show Heap.mk _ life = Heap.mk objs life
  exact congrArg (Heap.mk · life) this
noncomputable abbrev prg : Program := PySem.Challenge.pw_ny0292_01
noncomputable def goThread (V : LP) (N : Nat) (T : BT) (n k : Nat) (t : Thread) : Option Lr := match t with
  | ⟨cur, code, pos, st⟩ => lRun V N T n k cur code pos st
noncomputable def opened (w : World) (N : Nat) : Option Shared := match (start (opening prg)).1 with
  | s => match goThread ⟨opening prg, w, true, 0, none⟩ N .nil 0 s.toks (start (opening prg)).2 with
    | some r => fenceModules? prg ⟨absHeap r.1 r.2.1 s.heap.life, s.gens, s.drawn, r.2.2, s.os⟩
    | none => none
noncomputable def topped (w : World) (N : Nat) (s₀ : Shared) : Option Shared := match bld .nil 0 s₀.heap.objs.toList with
  | none => none
  | some T => match (s₀.heap.isNs mainGlobals && s₀.gens.size == 0) with
    | false => none
    | true => match goThread ⟨prg, w, false, s₀.heap.objs.size, s₀.heap.nsMap mainGlobals "__annotations__"⟩ N T s₀.heap.objs.size s₀.toks (topStub prg) with
      | none => none
      | some r => some ⟨absHeap r.1 r.2.1 s₀.heap.life, s₀.gens, s₀.drawn, r.2.2, s₀.os⟩
theorem opened_of {w : World} {N : Nat} {s₀ : Shared} (h : opened w N = some s₀) : fencedOpening treeTable prg w N = some s₀ := by
  unfold opened at h
  dsimp only at h
  cases e : goThread ⟨opening prg, w, true, 0, none⟩ N .nil 0 (start (opening prg)).1.toks (start (opening prg)).2 with
  | none => rw [e] at h; cases h
  | some r =>
    rw [e] at h
    dsimp only at h
    have z := imp_of (life := (start (opening prg)).1.heap.life) (gens := (start (opening prg)).1.gens) (drawn := (start (opening prg)).1.drawn) (os := (start (opening prg)).1.os) rfl e
    have s0 : (shL (start (opening prg)).1.heap.life (start (opening prg)).1.gens (start (opening prg)).1.drawn (start (opening prg)).1.os .nil 0 (start (opening prg)).1.toks).abs = (start (opening prg)).1 := by kernel_rfl
    rw [s0] at z
    unfold fencedOpening
    have z' : importEnds treeTable (opening prg) w N (start (opening prg)).1 (start (opening prg)).2 = _ := z
    rw [z']
    exact h
theorem topped_of {w : World} {N : Nat} {s₀ s₁ : Shared} (h : topped w N s₀ = some s₁) (hc : (staticsOk (importedModules prg.main.body) s₀.heap s₁.heap && namesBound prg s₁.heap && gensDone s₁ && laidKept s₀.heap s₁.heap) = true) : topFrom treeTable prg w N s₀ = some s₁ := by
  unfold topped at h
  cases e3 : bld .nil 0 s₀.heap.objs.toList with
  | none => rw [e3] at h; cases h
  | some T =>
    rw [e3] at h
    dsimp only at h
    cases e4 : (s₀.heap.isNs mainGlobals && s₀.gens.size == 0) with
    | false => rw [e4] at h; cases h
    | true =>
      rw [e4] at h
      dsimp only at h
      cases e5 : goThread ⟨prg, w, false, s₀.heap.objs.size, s₀.heap.nsMap mainGlobals "__annotations__"⟩ N T s₀.heap.objs.size s₀.toks (topStub prg) with
      | none => rw [e5] at h; cases h
      | some r =>
        rw [e5] at h
        dsimp only at h
        have z := top_of (life := s₀.heap.life) (gens := s₀.gens) (drawn := s₀.drawn) (os := s₀.os) rfl e5
        have a0 : (shL s₀.heap.life s₀.gens s₀.drawn s₀.os T s₀.heap.objs.size s₀.toks).abs = s₀ := by
          unfold SharedT.abs
          dsimp only
          rw [bld_abs e3]
        rw [a0] at z
        have z' : topRun treeTable prg w s₀.heap.objs.size (s₀.heap.nsMap mainGlobals "__annotations__") N s₀ (topStub prg) = _ := z
        unfold topFrom
        rw [e4]
        dsimp only
        rw [z']
        have h' := Option.some.inj h
        show (match staticsOk (importedModules prg.main.body) s₀.heap (shL s₀.heap.life s₀.gens s₀.drawn s₀.os r.1 r.2.1 r.2.2).abs.heap && namesBound prg (shL s₀.heap.life s₀.gens s₀.drawn s₀.os r.1 r.2.1 r.2.2).abs.heap && gensDone (shL s₀.heap.life s₀.gens s₀.drawn s₀.os r.1 r.2.1 r.2.2).abs && laidKept s₀.heap (shL s₀.heap.life s₀.gens s₀.drawn s₀.os r.1 r.2.1 r.2.2).abs.heap with | true => some (shL s₀.heap.life s₀.gens s₀.drawn s₀.os r.1 r.2.1 r.2.2).abs | false => none) = _
        have h2 : (shL s₀.heap.life s₀.gens s₀.drawn s₀.os r.1 r.2.1 r.2.2).abs = s₁ := h'
        rw [h2, hc]
noncomputable def headL {β : Type} (w : World) (N : Nat) (obs : Shared → Shared → β) : Option β := match opened w N with
  | none => none
  | some s₀ => match topped w N s₀ with
    | none => none
    | some s₁ => some (obs s₀ s₁)
theorem headL_some {β : Type} {w : World} {N : Nat} {obs : Shared → Shared → β} {x : β} (h : headL w N obs = some x) : ∃ s₀ s₁, opened w N = some s₀ ∧ topped w N s₀ = some s₁ ∧ obs s₀ s₁ = x := by
  unfold headL at h
  cases e1 : opened w N with
  | none => rw [e1] at h; cases h
  | some s₀ =>
    rw [e1] at h
    dsimp only at h
    cases e2 : topped w N s₀ with
    | none => rw [e2] at h; cases h
    | some s₁ =>
      rw [e2] at h
      exact ⟨s₀, s₁, rfl, e2, Option.some.inj h⟩
noncomputable def qv0 : Program := view prg [31]
noncomputable def lo0 : List Str := ["_sre", "deque", "_wall", "_whence", "_index", "UnsupportedOperation", "IOBase", "BufferedIOBase", "TextIOBase", "BytesIO", "StringIO", "_kind", "_fspath", "_check_arg_types", "isabs", "join", "dirname", "shlex", "split", "CRLF", "quotedata", "_law_heard", "_law_itself", "_law_due", "_twin_re_1", "_twin_re_2"]
noncomputable def seenZ := Fast.tw4187177175401517315
theorem seenZ_eq : @seenZ = @openSeen := by unfold seenZ; rw [← Fast.te4187177175401517315]
theorem dk_some : (defOf qv0 "law").isSome = true := by kernel_rfl
noncomputable def dk0 : DefRec × List (Str × PySem.Expr) := (defOf qv0 "law").get dk_some
/-- the objects of the top that the runs look at -/
noncomputable def keepL : List Nat := [0, 1, 2, 3, 4, 5, 6, 7, 8, 9, 10, 11, 12, 46, 47, 48, 49, 57, 58, 84, 85, 87, 88, 89, 114, 115, 345, 355, 361, 362, 368, 369, 375, 376, 531, 537, 538, 591, 592, 644, 650, 651, 657, 658, 659, 687, 688, 694, 695, 716, 717, 723, 724, 726, 727, 732, 738, 739, 743, 744, 748, 749, 755, 756, 762, 763, 769, 770, 774, 775, 779, 780]
noncomputable def pickK : Frag → List Nat → Frag
  | [], _ => []
  | p :: K, l => match l with
    | [] => []
    | a :: l' => match Nat.beq p.1 a with
      | true => p :: pickK K l'
      | false => pickK K (a :: l')
noncomputable abbrev looks0 (s₀ s : Shared) : Bool := staticsOk (importedModules prg.main.body) s₀.heap s.heap && namesBound prg s.heap && gensDone s && laidKept s₀.heap s.heap
noncomputable abbrev xt0 (s : Shared) : Bool := xlAt qv0 [] s && recOk [] s
theorem left_gen {α : Type} {Yf : Shared → α} {Ya : World → α} {seen : Program → List Str → List Str → (Shared → Bool) → Bool → Shared → _} (hs : @seen = @openSeen) (w : World) (h1 : headL w 10184 (fun s₀ s => (looks0 s₀ s, seen qv0 lo0 (importedModules prg.main.body) xt0 true s, Yf s)) = some (true, openGood qv0 lo0, Ya w)) :
    (openEnds treeTable prg w 10184).map (fun s => (openSeen qv0 lo0 (importedModules prg.main.body) xt0 true s, Yf s)) = some (openGood qv0 lo0, Ya w) := by
  subst hs
  obtain ⟨s₀, s₁, a1, a2, a3⟩ := headL_some h1
  rw [Prod.mk.injEq] at a3
  unfold openEnds
  rw [opened_of a1]
  show (topFrom treeTable prg w 10184 s₀).map _ = _
  rw [topped_of a2 a3.1]
  exact congrArg some a3.2
theorem left_of {α : Type} {Yf : Shared → α} {Ya : World → α} (h : ∀ w, headL w 10184 (fun s₀ s => (looks0 s₀ s, seenZ qv0 lo0 (importedModules prg.main.body) xt0 true s, Yf s)) = some (true, openGood qv0 lo0, Ya w)) : LeftO prg qv0 lo0 xt0 Yf Ya 10184 := fun w => left_gen seenZ_eq w (h w)
theorem holds_both {r : OpenRow} {XP : (Str → Option Value) → Heap → Prop} {H : Hook}
    (hX : ∀ s, xt0 s = true → XP (s.heap.nsMap mainGlobals) s.heap) (hXk : ∀ mg h h', XP mg h → (∀ b o, h.get? b = some o → h'.get? b = some o) → XP mg h')
    (hpr : r.prog = prg) (hdef : defOf qv0 r.name = some (dk0.1, dk0.2)) (hp : r.prog.theDef r.name = some (dk0.1.params, dk0.1.body, dk0.1.scope)) (hk : kwWritten? dk0.1.params.kwonlyargs dk0.1.params.kw_defaults = some dk0.2) (hRf : ∀ s, xt0 s = true → RecFacts r.records s.heap) (hwr : (!r.writes || r.records.isEmpty) = true)
    (k1 : r.wellSaid = true) (ok : (chainsOk qv0 && opensWell r.prog && (frees r.toRowW && r.within.isEmpty)) = true) (hb : r.prog.bare) (hw : r.toRowW.promised)
    (both : (∀ w, headL w 10184 (fun s₀ s => (looks0 s₀ s, seenZ qv0 lo0 (importedModules prg.main.body) xt0 true s, H.obs s)) = some (true, openGood qv0 lo0, H.val w)) ∧ WalkO qv0 lo0 XP H.says r.toRowW dk0.1 dk0.2 fun f vs => PySem.call f vs) : r.Holds :=
  holds_open (q := qv0) (loose := lo0) (Xt := xt0) (XP := XP) (Yf := H.obs) (Ya := H.val) (YP := H.says) (N := 10184) (by rw [hpr]; exact left_of both.1) H.of H.keeps hX hXk hdef hp hk hRf hwr k1 ok hb hw both.2
set_option maxHeartbeats 8000000
theorem both_yes {a b : Bool} (x : a = true) (y : b = true) : (a && b) = true := by rw [x, y]; rfl
theorem said0 : PySem.Challenge.rw_ny0292_01.wellSaid = true := by
  rw [PySem.W.Fast.te9446332074065402090]
  unfold PySem.W.Fast.tw9446332074065402090
  iterate 18 refine both_yes ?_ (by decide +kernel)
  unfold PySem.W.Fast.tw17960256430627541270
  iterate 2 refine both_yes ?_ (by decide +kernel)
  unfold PySem.W.Fast.tw2436336058641802641
  iterate 17 refine both_yes ?_ (by decide +kernel)
  decide +kernel
theorem ok0 : (chainsOk qv0 && opensWell PySem.Challenge.rw_ny0292_01.row.prog && (frees PySem.Challenge.rw_ny0292_01.row.toRowW && PySem.Challenge.rw_ny0292_01.row.within.isEmpty)) = true := by kernel_rfl
local macro_rules | `(tactic| o_law) => `(tactic| refine holds_law Mine.said0 fun said => ?_)
local macro_rules | `(tactic| k_head) => `(tactic| x_head)
local macro_rules | `(tactic| o_head ($f:ident $K $as $e)) => `(tactic| refine holds_both (H := kHook (fun P => Mine.pickK ($K P) Mine.keepL) Mine.keepL (fun _ => by kernel_rfl)) (XP := XL Mine.qv0 []) (fun s e => xl_of s (Bool.and_eq_true_iff.mp e).1) XL.keeps rfl (by kernel_rfl) (by kernel_rfl) (by kernel_rfl) (fun s e => recFacts_of (Bool.and_eq_true_iff.mp e).2) (by rfl) (by assumption) Mine.ok0 ⟨rfl, rfl, rfl, rfl, rfl, by decide +kernel⟩ ?hw ?hc)
open_top hd for PySem.Challenge.rw_ny0292_01
noncomputable def K0 (P : Params) : Frag := pickK (hd.heap_1 P) keepL
theorem left_a (w : World) : headL w 10184 (fun s₀ s => (looks0 s₀ s, seenZ qv0 lo0 (importedModules prg.main.body) xt0 true s)) = some (true, openGood qv0 lo0) := by kernel_rfl
theorem left_b (w : World) : headL w 10184 (fun _ s => List.map s.heap.get? keepL) = some (List.map (fun p => some p.2) (K0 w.params)) := by kernel_rfl
theorem head_and {β γ δ : Type} {w : World} {N : Nat} {f : Shared → Shared → β} {f' : Shared → Shared → γ} {g : Shared → Shared → δ} {x : β} {y : γ} {z : δ} (a : headL w N (fun s₀ s => (f s₀ s, f' s₀ s)) = some (x, y)) (b : headL w N (fun s₀ s => g s₀ s) = some z) : headL w N (fun s₀ s => (f s₀ s, f' s₀ s, g s₀ s)) = some (x, y, z) := by
  obtain ⟨s₀, s₁, o1, t1, e1⟩ := headL_some a
  obtain ⟨r₀, r₁, o2, t2, e2⟩ := headL_some b
  cases Option.some.inj (o1.symm.trans o2)
  cases Option.some.inj (t1.symm.trans t2)
  unfold headL
  rw [o1]
  dsimp only
  rw [t1]
  dsimp only
  rw [e2]
  injection e1 with e3 e4
  rw [e3, e4]
theorem left2 (w : World) : headL w 10184 (fun s₀ s => (looks0 s₀ s, seenZ qv0 lo0 (importedModules prg.main.body) xt0 true s, List.map s.heap.get? keepL)) = some (true, openGood qv0 lo0, List.map (fun p => some p.2) (K0 w.params)) := head_and (left_a w) (left_b w)
end
section
noncomputable def denQ : Code → Sem PySem.Fin := ZFast.zw11892475500146522536 ZFast.tableZ
theorem denQ_eq : denQ = denote table := by unfold denQ; rw [← ZFast.ze11892475500146522536, ← ZFast.tableZ_eq]
noncomputable def quietQ : Code → Bool := ZFast.zw17772548960776305114
theorem quietQ_eq (c : Code) : quietQ c = c.quiet := by unfold quietQ; rw [← ZFast.ze17772548960776305114]
/-- what is done behind a tree that runs: nothing; a handler of a raise; the entering of a frame -/
inductive Mode where
  | plain
  | rais (h : Value → Sem Unit)
  | py
inductive Kn where
  | base
  | ret (c : Code) (hd : Option Value) (k : Result → Sem PySem.Fin) (md : Mode) (κ : Kn)
/-- an answer given by a lemma in the place of a run -/
structure Sp where
  code : Code
  needs : List (Nat × Addr × Obj)
  res : Value
  i : Nat
  dt : Nat
/-- an answer given by a lemma, with one object changed and objects made -/
structure Sq where
  code : Code
  needs : List (Nat × Addr × Obj)
  gives : Option (Nat × Addr × Obj)
  news : List Obj
  res : Value
  i : Nat
  m : Nat
  dt : Nat
structure Cfg where
  prog : Program
  P : Params
  base : Nat → Option Obj
  rho : Nat → Nat
  tau : Nat → Nat
  h0 : Option Value
  sps : List Sp
  sqs : List Sq := []
inductive EK where
  | ret (r : Result) (own : List (Addr × Obj)) (m i : Nat)
  | cut (c : Code) (κ : Kn) (own : List (Addr × Obj)) (m i : Nat)
  | err (e : Value) (c : Code) (h : Value → Sem Unit) (κ : Kn) (own : List (Addr × Obj)) (m i : Nat)
  | bad (n : Nat)
structure Out where
  kind : EK
  ca : List (Nat × Nat)
  cp : List ((Addr × Obj) × (Addr × Obj))
  cc : List (Code × Code)
noncomputable abbrev Stk := Nat → Pos × List (Code × Pos)
noncomputable def bindArgsQ : FuncData → Args → Sem (List (Str × Value)) := ZFast.zw9782568553167038054
noncomputable def newEnvQ : Scope → Addr → List (Str × Addr) → List (Str × Value) → Str → Option Addr → Value → Option Env → Addr → Sem Env := @ZFast.zw11113344188204177931
noncomputable def pyTree (a : Addr) (fd : FuncData) (args : Args) (body : List Stmt) (q : Str) : Sem PySem.Fin :=
  R.bindR (bindArgsQ fd args) fun binds => R.bindR (newEnvQ fd.scope fd.globals fd.closure binds (q ++ ".<locals>.") (some a) fd.code none fd.builtins) fun env => .pure (.again (.func body env))
noncomputable def execsQ : List Stmt → Env → Sem Flow := ZFast.zw12563942051412417395
noncomputable def whileQ : Expr → List Stmt → List Stmt → Env → Sem PySem.Fin := ZFast.zw12362719219628433562
noncomputable def forQ : Expr → Value → List Stmt → List Stmt → Env → Sem PySem.Fin := ZFast.zw15207555903498437823
/-- a code's tree without the handler of its raise -/
noncomputable def splitDen : Code → Option (Sem PySem.Fin × (Value → Sem Unit))
  | .func body env => some (R.bindR (execsQ body env) fun f => .pure (.done (.ret (match f with | .ret v => v | _ => .none))), leaving env)
  | .whileLoop t b o env => some (whileQ t b o env, fun x => do noteFrame x env; theTreesLotGoes x)
  | .forLoop t it b o env => some (forQ t it b o env, fun x => do noteFrame x env; theTreesLotGoes x)
  | .block b env => some (R.bindR (execsQ b env) fun f => .pure (.done f), fun x => do noteFrame x env; theTreesLotGoes x)
  | _ => none
noncomputable def wt : Code → Nat
  | .builtin id _ => match S.eqLit 35714603318786955769505017188 id with
    | true => 310
    | false => 5
  | _ => 1
noncomputable def kdep : Kn → Nat
  | .base => 0
  | .ret c _ _ _ κ => wt c + kdep κ
noncomputable def khand (h0 : Option Value) : Kn → Option Value
  | .base => h0
  | .ret _ hd _ _ κ => hd.or (khand h0 κ)
noncomputable def markOk : Option Value → Bool
  | some .notImplemented => false
  | _ => true
/-- the name that a def's code bears -/
noncomputable def codeQual (base : Nat → Option Obj) (fd : FuncData) : Option Str := match fd.code with
  | .ref c => match base c with
    | some oc => match oc.data with
      | .fields vs => match vs.toList with
        | _ :: .str q _ :: _ => some q
        | _ => none
      | _ => none
    | none => none
  | _ => none
noncomputable def getI {α : Type} : List α → Nat → Option α
  | [], _ => none
  | x :: l, j => match j with
    | 0 => some x
    | j + 1 => getI l j
noncomputable def setI {α : Type} : List α → Nat → α → List α
  | [], _, _ => []
  | x :: l, j, y => match j with
    | 0 => y :: l
    | j + 1 => x :: setI l j y
noncomputable def putLast {α : Type} : List α → α → List α
  | [], y => [y]
  | x :: l, y => x :: putLast l y
noncomputable def needed (own : List (Addr × Obj)) : List (Nat × Addr × Obj) → List ((Addr × Obj) × (Addr × Obj)) → Option (List ((Addr × Obj) × (Addr × Obj)))
  | [], cp => some cp
  | (j, q) :: l, cp => match getI own j with
    | some p => needed own l ((p, q) :: cp)
    | none => none
noncomputable def changed (own : List (Addr × Obj)) (ca : List (Nat × Nat)) : Option (Nat × Addr × Obj) → Option (List (Addr × Obj) × List (Nat × Nat))
  | none => some (own, ca)
  | some (j, a, o) => match getI own j with
    | some p => some (setI own j (p.1, o), (p.1, a) :: ca)
    | none => none
noncomputable def pushAll (rho : Nat → Nat) : List (Addr × Obj) → Nat → List Obj → List (Addr × Obj)
  | own, _, [] => own
  | own, m, o :: l => pushAll rho (putLast own (rho m, o)) (m + 1) l
noncomputable def lenN {α : Type} : List α → Nat
  | [] => 0
  | _ :: l => lenN l + 1
noncomputable abbrev SimTy := List Nat → Code → Mode → Kn → Sem PySem.Fin → List (Addr × Obj) → Nat → Nat → Nat → List (Nat × Nat) → List ((Addr × Obj) × (Addr × Obj)) → List (Code × Code) → Out
noncomputable abbrev LA := List (Nat × Nat)
noncomputable abbrev LPp := List ((Addr × Obj) × (Addr × Obj))
noncomputable abbrev LC := List (Code × Code)
noncomputable abbrev LO := List (Addr × Obj)
noncomputable def bad (n : Nat) : Out := ⟨.bad n, [], [], []⟩
/-- go on with what is there -/
@[irreducible] noncomputable def opt {α : Type} (o : Option α) (n : Nat) (f : α → Out) : Out := Option.rec (bad n) f o
@[irreducible] noncomputable def yes (b : Bool) (n : Nat) (o : Out) : Out := Bool.rec (bad n) o b
@[irreducible] noncomputable def two (b : Bool) (x y : Out) : Out := Bool.rec y x b
@[irreducible] noncomputable def uncons (l : List Nat) (n : Nat) (f : Nat → List Nat → Out) : Out := List.rec (bad n) (fun x l _ => f x l) l
noncomputable def dataFn : PySem.Data → Option FuncData
  | .func fd => some fd
  | _ => none
noncomputable def bodyOf : FuncBody → Option (List Stmt)
  | .stmts b => some b
  | _ => none
noncomputable def refCall : Code → Option (Addr × Args)
  | .call (.ref a) args => some (a, args)
  | _ => none
/-- advice. at a load or update: 2a the base's object a, 2j+1 own object j. at a call: 0 run it, 1 cut, 2 run it split, 3+2a enter the def at base a, 4+2i take answer i -/
noncomputable def enter (V : Cfg) (ih : SimTy) (x : Nat) (adv : List Nat) (c' : Code) (κ : Kn) (own : LO) (m i s : Nat) (ca : LA) (cp : LPp) (cc : LC) : Out :=
  match x with
  | 0 => ih adv c' .plain κ (denQ c') own m i s ca cp cc
  | 1 => ⟨.cut c' κ own m i, ca, cp, cc⟩
  | 2 => opt (splitDen c') 4 fun th => ih adv c' (.rais th.2) κ th.1 own m i s ca cp cc
  | x + 3 => opt (refCall c') 9 fun r => opt (V.base (x / 2)) 8 fun o => opt (dataFn o.data) 7 fun fd => opt (bodyOf fd.body) 6 fun body => opt (codeQual V.base fd) 5 fun q =>
    yes (Nat.blt (kdep κ) 100 && !fd.scope.isCoroutine && !fd.scope.isGenerator) 5 (ih adv c' .py κ (pyTree r.1 fd r.2 body q) own m i s ((r.1, x / 2) :: ca) cp cc)
noncomputable def back (ih : SimTy) (r : Result) (κ : Kn) (adv : List Nat) (own : LO) (m i s : Nat) (ca : LA) (cp : LPp) (cc : LC) : Out :=
  match κ with
  | .base => ⟨.ret r own m i, ca, cp, cc⟩
  | .ret c' _ k md' κ' => ih adv c' md' κ' (k r) own m i s ca cp cc
noncomputable def sDone (ih : SimTy) (adv : List Nat) (md : Mode) (κ : Kn) (f : Flow) (own : LO) (m i s : Nat) (ca : LA) (cp : LPp) (cc : LC) : Out :=
  match md with
  | .py => bad 1
  | .plain => back ih (.ok f) κ adv own m i s ca cp cc
  | .rais _ => back ih (.ok f) κ adv own m i s ca cp cc
noncomputable def sRaise (ih : SimTy) (adv : List Nat) (c : Code) (md : Mode) (κ : Kn) (e : Value) (own : LO) (m i s : Nat) (ca : LA) (cp : LPp) (cc : LC) : Out :=
  match md with
  | .plain => back ih (.error e) κ adv own m i s ca cp cc
  | .rais h => ⟨.err e c h κ own m i, ca, cp, cc⟩
  | .py => bad 11
noncomputable def sLoad (V : Cfg) (ih : SimTy) (adv : List Nat) (c : Code) (md : Mode) (κ : Kn) (a : Addr) (k : Obj → Sem PySem.Fin) (own : LO) (m i s : Nat) (ca : LA) (cp : LPp) (cc : LC) : Out :=
  uncons adv 12 fun x adv => two (Nat.beq (x % 2) 0)
    (opt (V.base (x / 2)) 13 fun o => ih adv c md κ (k o) own m i s ((a, x / 2) :: ca) cp cc)
    (opt (getI own (x / 2)) 14 fun p => ih adv c md κ (k p.2) own m i s ((a, p.1) :: ca) cp cc)
noncomputable def sUpd (ih : SimTy) (adv : List Nat) (c : Code) (md : Mode) (κ : Kn) (a : Addr) (f : Obj → Obj) (k : Unit → Sem PySem.Fin) (own : LO) (m i s : Nat) (ca : LA) (cp : LPp) (cc : LC) : Out :=
  uncons adv 15 fun x adv => opt (getI own (x / 2)) 18 fun p => yes (!(f p.2).isFreed) 17 (ih adv c md κ (k ()) (setI own (x / 2) (p.1, f p.2)) m i s ((a, p.1) :: ca) cp cc)
noncomputable def sCall (V : Cfg) (ih : SimTy) (adv : List Nat) (c : Code) (md : Mode) (κ : Kn) (c' : Code) (hd : Option Value) (k : Result → Sem PySem.Fin) (own : LO) (m i s : Nat) (ca : LA) (cp : LPp) (cc : LC) : Out :=
  uncons adv 21 fun x adv => yes (markOk hd) 22 (two (Nat.blt 3 x && Nat.beq (x % 2) 0)
    (yes hd.isNone 28 (two (Nat.blt (x / 2 - 2) (lenN V.sps))
      (opt (getI V.sps (x / 2 - 2)) 30 fun sp => opt (needed own sp.needs cp) 29 fun cp =>
        ih adv c md κ (k (.ok (.ret sp.res))) own m (i + sp.dt) s ((sp.i, i) :: ca) cp ((c', sp.code) :: cc))
      (opt (getI V.sqs (x / 2 - 2 - lenN V.sps)) 31 fun sq => opt (needed own sq.needs cp) 29 fun cp => opt (changed own ca sq.gives) 29 fun oc =>
        ih adv c md κ (k (.ok (.ret sq.res))) (pushAll V.rho oc.1 m sq.news) (m + lenN sq.news) (i + sq.dt) s ((sq.i, i) :: (sq.m, m) :: oc.2) cp ((c', sq.code) :: cc))))
    (enter V ih x adv c' (.ret c hd k md κ) own m i s ca cp cc))
noncomputable def simStep (V : Cfg) (stk : Stk) (ih : SimTy) (adv : List Nat) (c : Code) (md : Mode) (κ : Kn) (t : Sem PySem.Fin) (own : LO) (m i s : Nat) (ca : LA) (cp : LPp) (cc : LC) : Out :=
    match t with
    | .pure fin => match fin with
      | .done f => sDone ih adv md κ f own m i s ca cp cc
      | .again c' => uncons adv 2 fun x adv => yes (quietQ c') 3 (enter V ih x adv c' κ own m i s ca cp cc)
    | .raise e => sRaise ih adv c md κ e own m i s ca cp cc
    | .rule _ k => ih adv c md κ (k ()) own m i s ca cp cc
    | .at _ k => ih adv c md κ (k ()) own m i s ca cp cc
    | .point _ k => ih adv c md κ (k ()) own m i s ca cp cc
    | .ask k => ih adv c md κ (k ⟨V.prog, V.P⟩) own m i s ca cp cc
    | .load a _ k => sLoad V ih adv c md κ a k own m i s ca cp cc
    | .update a _ f k => sUpd ih adv c md κ a f k own m i s ca cp cc
    | .alloc o k => yes (!o.isFreed) 19 (ih adv c md κ (k (V.rho m)) (putLast own (V.rho m, o)) (m + 1) i s ca cp cc)
    | .fresh k => ih adv c md κ (k (V.tau i)) own m (i + 1) s ca cp cc
    | .handled o k => yes (!o) 20 (ih adv c md κ (k (khand V.h0 κ)) own m i s ca cp cc)
    | .stack k => ih adv c md κ (k ((c, (stk s).1) :: (stk s).2)) own m i (s + 1) ca cp cc
    | .call c' hd _ _ k => sCall V ih adv c md κ c' hd k own m i s ca cp cc
    | _ => bad 32
noncomputable def ssim (V : Cfg) (stk : Stk) : Nat → SimTy
  | 0 => fun _ _ _ _ _ _ _ _ _ _ _ _ => bad 0
  | n + 1 => simStep V stk (ssim V stk n)
end
section
noncomputable def Out.fine (o : Out) : Prop := match o.kind with
  | .bad .. => False
  | _ => True
structure Sub (ca : List (Nat × Nat)) (cp : List ((Addr × Obj) × (Addr × Obj))) (cc : List (Code × Code)) (o : Out) : Prop where
  out : o.fine → (∀ x ∈ ca, x ∈ o.ca) ∧ (∀ x ∈ cp, x ∈ o.cp) ∧ (∀ x ∈ cc, x ∈ o.cc)
theorem Sub.bad {ca cp cc} (n : Nat) : Sub ca cp cc (bad n) := ⟨fun h => h.elim⟩
theorem Sub.here {ca cp cc} (e : EK) : Sub ca cp cc ⟨e, ca, cp, cc⟩ := ⟨fun _ => ⟨fun _ h => h, fun _ h => h, fun _ h => h⟩⟩
theorem Sub.of {ca ca' cp cp' cc cc'} {o : Out} (h : Sub ca' cp' cc' o) (h1 : ∀ x ∈ ca, x ∈ ca') (h2 : ∀ x ∈ cp, x ∈ cp') (h3 : ∀ x ∈ cc, x ∈ cc') : Sub ca cp cc o :=
  ⟨fun f => ⟨fun x hx => (h.out f).1 x (h1 x hx), fun x hx => (h.out f).2.1 x (h2 x hx), fun x hx => (h.out f).2.2 x (h3 x hx)⟩⟩
noncomputable def MonoTy (ih : SimTy) : Prop := ∀ adv c md κ t own m i s ca cp cc, Sub ca cp cc (ih adv c md κ t own m i s ca cp cc)
theorem needed_sub {own : List (Addr × Obj)} : ∀ {l : List (Nat × Addr × Obj)} {cp cp'}, needed own l cp = some cp' → (∀ x ∈ cp, x ∈ cp') ∧ ∀ q ∈ l, ∃ p, getI own q.1 = some p ∧ (p, q.2) ∈ cp'
  | [], cp, cp', e => by cases e; exact ⟨fun _ h => h, fun _ h => nomatch h⟩
  | (j, q) :: l, cp, cp', e => by
    unfold needed at e
    split at e
    · rename_i p hp
      obtain ⟨a, b⟩ := needed_sub e
      refine ⟨fun x hx => a x (List.mem_cons_of_mem _ hx), fun q' hq => ?_⟩
      rcases List.mem_cons.mp hq with rfl | hq
      · exact ⟨p, hp, a _ (List.mem_cons_self ..)⟩
      · exact b q' hq
    · cases e
theorem changed_sub {own own' : List (Addr × Obj)} {ca ca' : List (Nat × Nat)} {g : Option (Nat × Addr × Obj)} (e : changed own ca g = some (own', ca')) : ∀ x ∈ ca, x ∈ ca' := by
  unfold changed at e
  split at e
  · cases e; exact fun _ h => h
  · split at e
    · cases e; exact fun _ h => List.mem_cons_of_mem _ h
    · cases e
section
variable {ca : List (Nat × Nat)} {cp : List ((Addr × Obj) × (Addr × Obj))} {cc : List (Code × Code)}
theorem Sub.opt {α : Type} {x : Option α} {n : Nat} {f : α → Out} (H : ∀ y, x = some y → Sub ca cp cc (f y)) : Sub ca cp cc (opt x n f) := by
  unfold Mine.opt
  cases x with
  | none => exact Sub.bad _
  | some y => exact H y rfl
theorem Sub.yes {b : Bool} {n : Nat} {o : Out} (H : Sub ca cp cc o) : Sub ca cp cc (yes b n o) := by
  unfold Mine.yes
  cases b with
  | false => exact Sub.bad _
  | true => exact H
theorem Sub.two {b : Bool} {x y : Out} (H1 : Sub ca cp cc x) (H2 : Sub ca cp cc y) : Sub ca cp cc (two b x y) := by
  unfold Mine.two
  cases b with
  | false => exact H2
  | true => exact H1
theorem Sub.unc {l : List Nat} {n : Nat} {f : Nat → List Nat → Out} (H : ∀ x l, Sub ca cp cc (f x l)) : Sub ca cp cc (uncons l n f) := by
  unfold uncons
  cases l with
  | nil => exact Sub.bad _
  | cons x l => exact H x l
theorem Sub.a {p : Nat × Nat} {o : Out} (H : Sub (p :: ca) cp cc o) : Sub ca cp cc o := H.of (fun _ h => List.mem_cons_of_mem _ h) (fun _ h => h) (fun _ h => h)
variable {ih : SimTy} (H : MonoTy ih) {V : Cfg} {adv : List Nat} {c : Code} {md : Mode} {κ : Kn} {own : LO} {m i s : Nat}
include H
theorem enter_mono {x : Nat} : Sub ca cp cc (enter V ih x adv c κ own m i s ca cp cc) := by
  match x with
  | 0 => exact H ..
  | 1 => exact Sub.here _
  | 2 => exact Sub.opt fun _ _ => H ..
  | x + 3 => exact Sub.opt fun _ _ => Sub.opt fun _ _ => Sub.opt fun _ _ => Sub.opt fun _ _ => Sub.opt fun _ _ => Sub.yes (H ..).a
theorem back_mono {r : Result} : Sub ca cp cc (back ih r κ adv own m i s ca cp cc) := by
  cases κ with
  | base => exact Sub.here _
  | ret => exact H ..
theorem sCall_mono {c' : Code} {hd : Option Value} {k : Result → Sem PySem.Fin} : Sub ca cp cc (sCall V ih adv c md κ c' hd k own m i s ca cp cc) :=
  Sub.unc fun _ _ => Sub.yes (Sub.two (Sub.yes (Sub.two
    (Sub.opt fun _ _ => Sub.opt fun _ hn => (H ..).of (fun _ h => List.mem_cons_of_mem _ h) (needed_sub hn).1 (fun _ h => List.mem_cons_of_mem _ h))
    (Sub.opt fun _ _ => Sub.opt fun _ hn => Sub.opt fun oc hc => (H ..).of (fun x h => List.mem_cons_of_mem _ (List.mem_cons_of_mem _ (changed_sub (own' := oc.1) (ca' := oc.2) hc x h))) (needed_sub hn).1 (fun _ h => List.mem_cons_of_mem _ h))))
    (enter_mono H))
end
theorem step_mono {V : Cfg} {stk : Stk} {ih : SimTy} (H : MonoTy ih) : MonoTy (simStep V stk ih) := by
  intro adv c md κ t own m i s ca cp cc
  cases t with
  | pure fin =>
    cases fin with
    | done f => cases md with
      | py => exact Sub.bad _
      | plain => exact back_mono H
      | rais _ => exact back_mono H
    | again c' => exact Sub.unc fun _ _ => Sub.yes (enter_mono H)
  | raise e => cases md with
    | py => exact Sub.bad _
    | plain => exact back_mono H
    | rais _ => exact Sub.here _
  | rule => exact H ..
  | «at» => exact H ..
  | point => exact H ..
  | ask => exact H ..
  | load => exact Sub.unc fun _ _ => Sub.two (Sub.opt fun _ _ => (H ..).a) (Sub.opt fun _ _ => (H ..).a)
  | update => exact Sub.unc fun _ _ => Sub.opt fun _ _ => Sub.yes (H ..).a
  | alloc => exact Sub.yes (H ..)
  | fresh => exact H ..
  | handled => exact Sub.yes (H ..)
  | stack => exact H ..
  | call => exact sCall_mono H
  | _ => exact Sub.bad _
theorem ssim_mono (V : Cfg) (stk : Stk) : ∀ n, MonoTy (ssim V stk n)
  | 0 => fun _ _ _ _ _ _ _ _ _ _ _ _ => Sub.bad _
  | n + 1 => step_mono (ssim_mono V stk n)
end
section
section
variable {prog : Program} {w : World} {A : Around} {R : Result → Shared → Prop} {s : Shared} {c : Code}
noncomputable def qS (prog : Program) (w : World) (md : Mode) (A : Around) (R : Result → Shared → Prop) : PySem.Fin → Shared → Prop := match md with
  | .py => fun fin s => postC prog w A R fin s ∧ s.heap.NoLimit
  | _ => postC prog w A R
noncomputable def eS (prog : Program) (w : World) (md : Mode) (A : Around) (c : Code) (R : Result → Shared → Prop) : Value → Shared → Prop := match md with
  | .rais h => fun e s => wpOwn (model prog w) A c (h e) (fun _ s'' => R (.error e) s'') (fun e' s'' => R (.error e') s'') s
  | _ => postE R
noncomputable def runS (prog : Program) (w : World) (A : Around) (R : Result → Shared → Prop) (c : Code) (md : Mode) (t : Sem PySem.Fin) (s : Shared) : Prop :=
  wpOwn (model prog w) A c t (qS prog w md A R) (eS prog w md A c R) s
theorem pyTree_eq (a : Addr) (fd : FuncData) (args : Args) (body : List Stmt) (q : Str) : pyTree a fd args body q =
    (bindArgs fd args).bind fun binds => (newFunctionEnv fd.scope fd.globals fd.closure binds (q ++ ".<locals>.") (some a) fd.code none fd.builtins).bind fun env => .pure (.again (.func body env)) := by
  have e1 : bindArgsQ = bindArgs := by unfold bindArgsQ; rw [← ZFast.ze9782568553167038054]
  have e2 : newEnvQ = @newFunctionEnv := by unfold newEnvQ; rw [← ZFast.ze11113344188204177931]
  unfold pyTree
  rw [e1, e2, ← R.bindR_eq]
theorem py_sound {a : Addr} {o : Obj} {fd : FuncData} {args : Args} {body : List Stmt} {q : Str} (ho : s.heap.get? a = some o) (hd : o.data = .func fd) (hb : fd.body = .stmts body)
    (hco : fd.scope.isCoroutine = false) (hgen : fd.scope.isGenerator = false) (hcd : s.heap.CodeRec fd.code q) (hroom : A.depth < recursionLimit)
    (x : runS prog w A R (.call (.ref a) args) .py (pyTree a fd args body q) s) : codeAny (model prog w) A (.call (.ref a) args) R s := by
  refine y_code _ _ _ _ _ _ ?_
  rw [pyTree_eq] at x
  show wpOwn _ A _ (callAny (.ref a) args) _ _ s
  simp only [callAny]
  refine wpOwn_bind (wpOwn_of_wpAny (wpAny_load ho ?_))
  obtain ⟨cc, oc, vs, tq, hc, hoc, hdc, hq⟩ := hcd
  simp only [hd, callFunction, hco, hgen, hb, hc]
  simp only [hc] at x
  refine wpOwn_bind (m := field (.ref cc) 1) (wpOwn_of_wpAny (wpAny_field hoc hdc hq ?_))
  refine wpOwn_bind (m := pure q) (wpOwn_of_wpAny (wpAny_pure ?_))
  intro Γ p hΓc hΓ
  have x' := x Γ p hΓc hΓ
  simp only [Sem.wp_bind'] at x' ⊢
  simp only [Sem.wp_bind] at x'
  have hin : Γ.In (A.under (.call (.ref a) args)) := hΓc ▸ hΓ.in
  have hdep : (A.under (.call (.ref a) args)).depth < recursionLimit := hroom
  refine Sem.wp_mono _ Γ _ (fun binds p1 s1 h1 => ?_) (fun _ _ _ h => h) p s x'
  refine Sem.wp_mono _ Γ _ (fun env p2 s2 h2 => ?_) (fun _ _ _ h => h) p1 s1 h1
  have h3 : qS prog w .py A R (.again (.func body env)) s2 := h2
  exact wpAny_enterFrame (Q := fun _ s' => postC prog w A R (.again (.func body env)) s') (E := fun e s' => postE R e s') h3.2 hdep h3.1 Γ p2 hin
theorem splitDen_sound {th : Sem PySem.Fin × (Value → Sem Unit)} (e : splitDen c = some th) (x : runS prog w A R c (.rais th.2) th.1 s) : codeAny (model prog w) A c R s := by
  have ex : execsQ = execs := by unfold execsQ; rw [← ZFast.ze12563942051412417395]
  have ew : whileQ = whileTurn := by unfold whileQ; rw [← ZFast.ze12362719219628433562]
  have ef : forQ = forTurn := by unfold forQ; rw [← ZFast.ze15207555903498437823]
  refine y_code _ _ _ _ _ _ ?_
  cases c with
  | func body env =>
    cases e
    intro Γ p hc hΓ
    have x' := x Γ p hc hΓ
    rw [ex, ← PySem.W.R.bindR_eq] at x'
    simp only [Sem.wp_bind] at x'
    show Sem.wp _ Γ (do point; match ← (execs body env).onRaise (leaving env) with | .ret v => ret v | _ => ret .none) _ _ p s
    simp only [Sem.wp_bind']
    show Sem.wp _ Γ ((execs body env).onRaise (leaving env)) _ _ p s
    rw [Sem.wp_onRaise]
    refine Sem.wp_mono _ Γ _ (fun f p' s' h => ?_) (fun v p' s' h => ?_) p s x'
    · cases f <;> exact h
    · exact h Γ p' hc hΓ
  | whileLoop t b o env =>
    cases e
    intro Γ p hc hΓ
    have x' := x Γ p hc hΓ
    rw [ew] at x'
    show Sem.wp _ Γ ((whileTurn t b o env).onRaise (fun x => do noteFrame x env; theTreesLotGoes x)) _ _ p s
    rw [Sem.wp_onRaise]
    exact Sem.wp_mono _ Γ _ (fun f p' s' h => h) (fun v p' s' h => h Γ p' hc hΓ) p s x'
  | forLoop t it b o env =>
    cases e
    intro Γ p hc hΓ
    have x' := x Γ p hc hΓ
    rw [ef] at x'
    show Sem.wp _ Γ ((forTurn t it b o env).onRaise (fun x => do noteFrame x env; theTreesLotGoes x)) _ _ p s
    rw [Sem.wp_onRaise]
    exact Sem.wp_mono _ Γ _ (fun f p' s' h => h) (fun v p' s' h => h Γ p' hc hΓ) p s x'
  | block b env =>
    cases e
    intro Γ p hc hΓ
    have x' := x Γ p hc hΓ
    rw [ex, ← PySem.W.R.bindR_eq] at x'
    simp only [Sem.wp_bind] at x'
    show Sem.wp _ Γ (do return PySem.Fin.done (← (execs b env).onRaise (fun x => do noteFrame x env; theTreesLotGoes x))) _ _ p s
    rw [Sem.wp_bind', Sem.wp_onRaise]
    exact Sem.wp_mono _ Γ _ (fun f p' s' h => h) (fun v p' s' h => h Γ p' hc hΓ) p s x'
  | _ => cases e
end
/-! the frames that wait -/
section
variable (prog : Program) (w : World) (A₀ : Around) (R₀ : Result → Shared → Prop)
noncomputable def ar : Kn → Around
  | .base => A₀
  | .ret c hd _ _ κ => ((ar κ).under c).mark hd
noncomputable def endS : Kn → Result → Shared → Prop
  | .base => R₀
  | .ret c _ k md κ => fun r s => runS prog w (ar A₀ κ) (endS κ) c md (k r) s
end
theorem if_le (b : Bool) : (if b = true then 1 else 0) ≤ 1 := by cases b <;> decide
theorem weight_plain (c : Code) (h : ∀ id args, c ≠ .builtin id args) : c.weight ≤ 1 := by
  cases c with
  | builtin => exact absurd rfl (h _ _)
  | compStart e d i a v => exact if_le (Code.isFrame (.compStart e d i a v))
  | compLoop e d i a v => exact if_le (Code.isFrame (.compLoop e d i a v))
  | _ => first | exact Nat.le_refl 1 | exact Nat.zero_le 1
theorem wt_ge (c : Code) : c.weight ≤ wt c := by
  have hf : c.frames ≤ 3 := by
    unfold Code.frames
    split <;> first | omega | (split <;> omega)
  have hm : claimMargin = 300 := rfl
  cases c with
  | builtin id args =>
    unfold Code.weight wt
    have hk : S.eqLit 35714603318786955769505017188 id = (id == "claim.caller") := by
      have := congrFun (S.eqLit_eq "claim.caller" 35714603318786955769505017188 (by decide +kernel)) id
      exact this.symm
    simp only [hk]
    cases h : (id == "claim.caller") with
    | true => simp only [hm]; (repeat' split) <;> omega
    | false =>
      have hn : (Code.builtin id args).isCaller = false := by
        unfold Code.isCaller
        split
        · rename_i heq; cases heq; simp at h
        · rfl
      simp only [hn]
      (repeat' split) <;> (try simp only [Bool.false_eq_true, if_false] at *) <;> omega
  | _ => (refine Nat.le_trans (weight_plain _ ?_) (Nat.le_refl 1); intro _ _ e; cases e)
theorem ar_depth (A₀ : Around) : ∀ κ : Kn, (ar A₀ κ).depth ≤ A₀.depth + kdep κ
  | .base => Nat.le_refl _
  | .ret c hd k md κ => by
    have := ar_depth A₀ κ
    have hw := wt_ge c
    show (ar A₀ κ).depth + c.weight ≤ A₀.depth + (wt c + kdep κ)
    omega
theorem ar_hand (A₀ : Around) : ∀ κ : Kn, (ar A₀ κ).handled = khand A₀.handled κ
  | .base => rfl
  | .ret c hd k md κ => by
    show hd.or (ar A₀ κ).handled = _
    rw [ar_hand A₀ κ]; rfl
end
section
structure Hp (ini : List Addr) (h₀ h : Heap) (own : List (Addr × Obj)) (m : Nat) : Prop where
  size : h.objs.size = h₀.objs.size + m
  has : ∀ p ∈ own, h.get? p.1 = some p.2
  apart : (own.map (·.1)).Nodup
  src : ∀ p ∈ own, p.1 ∈ ini ∨ h₀.objs.size ≤ p.1
  keep : ∀ b o, h₀.get? b = some o → b ∉ ini → h.get? b = some o
theorem getI_mem {α : Type} : ∀ {l : List α} {j : Nat} {x : α}, getI l j = some x → x ∈ l
  | [], _, _, e => by cases e
  | y :: l, 0, x, e => by cases e; exact List.mem_cons_self ..
  | y :: l, j + 1, x, e => List.mem_cons_of_mem _ (getI_mem (l := l) e)
theorem putLast_eq {α : Type} : ∀ (l : List α) (y : α), putLast l y = l ++ [y]
  | [], _ => rfl
  | x :: l, y => congrArg (x :: ·) (putLast_eq l y)
theorem setI_map {α β : Type} (f : α → β) : ∀ {l : List α} {j : Nat} {x y : α}, getI l j = some x → f y = f x → (setI l j y).map f = l.map f
  | [], _, _, _, e, _ => by cases e
  | z :: l, 0, x, y, e, h => by cases e; show f y :: _ = _; rw [h]; rfl
  | z :: l, j + 1, x, y, e, h => congrArg (f z :: ·) (setI_map f (l := l) e h)
theorem setI_mem {α : Type} : ∀ {l : List α} {j : Nat} {y p : α}, p ∈ setI l j y → p = y ∨ p ∈ l
  | [], _, _, _, h => by cases h
  | z :: l, 0, y, p, h => by rcases List.mem_cons.mp h with h | h; exact .inl h; exact .inr (List.mem_cons_of_mem _ h)
  | z :: l, j + 1, y, p, h => by
    rcases List.mem_cons.mp h with h | h
    · exact .inr (h ▸ List.mem_cons_self ..)
    · rcases setI_mem (l := l) h with h | h
      · exact .inl h
      · exact .inr (List.mem_cons_of_mem _ h)
/-- in a list without doubles the changed place is the only one that bears its name -/
theorem setI_other {l : List (Addr × Obj)} : ∀ {j : Nat} {x p : Addr × Obj} {o : Obj}, (l.map (·.1)).Nodup → getI l j = some x → p ∈ setI l j (x.1, o) → p = (x.1, o) ∨ (p ∈ l ∧ p.1 ≠ x.1) := by
  induction l with
  | nil => intro j x p o _ e _; cases e
  | cons z l ih =>
    intro j x p o hn e hp
    rw [List.map_cons, List.nodup_cons] at hn
    cases j with
    | zero =>
      cases e
      rcases List.mem_cons.mp hp with h | h
      · exact .inl h
      · exact .inr ⟨List.mem_cons_of_mem _ h, fun q => hn.1 (q ▸ List.mem_map_of_mem (f := (·.1)) h)⟩
    | succ j =>
      rcases List.mem_cons.mp hp with h | h
      · subst h
        exact .inr ⟨List.mem_cons_self .., fun q => hn.1 (by rw [q]; exact List.mem_map_of_mem (f := (·.1)) (getI_mem (l := l) e))⟩
      · rcases ih hn.2 e h with h | h
        · exact .inl h
        · exact .inr ⟨List.mem_cons_of_mem _ h.1, h.2⟩
section
variable {ini : List Addr} {h₀ h : Heap} {own : List (Addr × Obj)} {m : Nat}
theorem Hp.alloc (D : Hp ini h₀ h own m) {o : Obj} (hf : o.isFreed = false) : Hp ini h₀ (h.push o) (putLast own (h₀.objs.size + m, o)) (m + 1) := by
  have hs : h.objs.size = h₀.objs.size + m := D.size
  refine ⟨by rw [Heap.size_push, D.size, Nat.add_assoc], fun p hp => ?_, ?_, fun p hp => ?_, fun b o' e q => Heap.get?_push_of_some _ (D.keep b o' e q)⟩
  · rw [putLast_eq, List.mem_append, List.mem_singleton] at hp
    rcases hp with hp | rfl
    · exact Heap.get?_push_of_some _ (D.has p hp)
    · show (h.push o).get? (h₀.objs.size + m) = some o
      rw [← hs]; exact Heap.get?_push_size _ hf
  · rw [putLast_eq, List.map_append, List.nodup_append]
    refine ⟨D.apart, by simp, fun a ha b hb => ?_⟩
    simp only [List.map_cons, List.map_nil, List.mem_singleton] at hb
    subst hb
    obtain ⟨p, hp, rfl⟩ := List.mem_map.mp ha
    have := Heap.lt_size (D.has p hp)
    exact Nat.ne_of_lt (hs ▸ this)
  · rw [putLast_eq, List.mem_append, List.mem_singleton] at hp
    rcases hp with hp | rfl
    · exact D.src p hp
    · exact .inr (Nat.le_add_right ..)
theorem Hp.update (D : Hp ini h₀ h own m) {j : Nat} {p : Addr × Obj} {f : Obj → Obj} (e : getI own j = some p) (hf : (f p.2).isFreed = false) : Hp ini h₀ (h.update p.1 f) (setI own j (p.1, f p.2)) m := by
  have hs : Heap.SameBut p.1 h (h.update p.1 f) := Heap.SameBut.update ..
  have hp := D.has p (getI_mem e)
  refine ⟨by rw [hs.1, D.size], fun q hq => ?_, ?_, fun q hq => ?_, fun b o e' hb => ?_⟩
  · rcases setI_other D.apart e hq with rfl | ⟨hq, hne⟩
    · first | exact Heap.get?_update_self f hp hf | exact Heap.get?_update_self _ hp hf
    · exact (hs.2 _ hne).trans (D.has q hq)
  · rw [setI_map (·.1) (y := (p.1, f p.2)) e rfl]; exact D.apart
  · rcases setI_mem hq with rfl | hq
    · exact D.src p (getI_mem e)
    · exact D.src q hq
  · refine (hs.2 b ?_).trans (D.keep b o e' hb)
    intro q
    rcases D.src p (getI_mem e) with h1 | h1
    · exact hb (q ▸ h1)
    · exact absurd (Heap.lt_size e') (Nat.not_lt.mpr (q ▸ h1))
end
/-- what an answer leaves of the heap -/
structure SqHeap (gives : Option (Nat × Addr × Obj)) (news : List Obj) (h h' : Heap) : Prop where
  size : h'.objs.size = h.objs.size + news.length
  new : ∀ k o, news[k]? = some o → h'.get? (h.objs.size + k) = some o
  put : ∀ j a o, gives = some (j, a, o) → h'.get? a = some o
  keep : ∀ b o, h.get? b = some o → (∀ j a o', gives = some (j, a, o') → b ≠ a) → h'.get? b = some o
structure HpW (ini : List Addr) (h₀ h : Heap) (own : List (Addr × Obj)) (m : Nat) : Prop where
  has : ∀ p ∈ own, h.get? p.1 = some p.2
  low : ∀ p ∈ own, p.1 < h₀.objs.size + m
  apart : (own.map (·.1)).Nodup
  src : ∀ p ∈ own, p.1 ∈ ini ∨ h₀.objs.size ≤ p.1
theorem HpW.push {ini : List Addr} {h₀ h : Heap} {rho : Nat → Nat} (hr : ∀ m, rho m = h₀.objs.size + m) : ∀ (news : List Obj) (own : List (Addr × Obj)) (m : Nat), HpW ini h₀ h own m → (∀ k o, news[k]? = some o → h.get? (h₀.objs.size + m + k) = some o) → HpW ini h₀ h (pushAll rho own m news) (m + news.length)
  | [], own, m, D, _ => D
  | o :: l, own, m, D, H => by
    have D' : HpW ini h₀ h (putLast own (rho m, o)) (m + 1) := by
      rw [putLast_eq, hr]
      refine ⟨fun p hp => ?_, fun p hp => ?_, ?_, fun p hp => ?_⟩
      · rcases List.mem_append.mp hp with hp | hp
        · exact D.has p hp
        · rw [List.mem_singleton] at hp; subst hp; exact H 0 o rfl
      · rcases List.mem_append.mp hp with hp | hp
        · exact Nat.lt_of_lt_of_le (D.low p hp) (Nat.le_add_right _ 1)
        · rw [List.mem_singleton] at hp; subst hp; exact Nat.lt_succ_self _
      · rw [List.map_append, List.nodup_append]
        refine ⟨D.apart, by simp, fun a ha b hb => ?_⟩
        simp only [List.map_cons, List.map_nil, List.mem_singleton] at hb
        subst hb
        obtain ⟨p, hp, rfl⟩ := List.mem_map.mp ha
        exact Nat.ne_of_lt (D.low p hp)
      · rcases List.mem_append.mp hp with hp | hp
        · exact D.src p hp
        · rw [List.mem_singleton] at hp; subst hp; exact .inr (Nat.le_add_right ..)
    have z := HpW.push hr l _ (m + 1) D' (fun k o' e => by
      have := H (k + 1) o' e
      rw [show h₀.objs.size + m + (k + 1) = h₀.objs.size + (m + 1) + k from by omega] at this
      exact this)
    rw [show m + (o :: l).length = m + 1 + l.length from by simp only [List.length_cons]; omega]
    exact z
theorem lenN_eq {α : Type} : ∀ l : List α, lenN l = l.length
  | [] => rfl
  | _ :: l => congrArg (· + 1) (lenN_eq l)
theorem Hp.sq {ini : List Addr} {h₀ h h' : Heap} {own own' : List (Addr × Obj)} {m : Nat} {rho : Nat → Nat} (hr : ∀ m, rho m = h₀.objs.size + m) (D : Hp ini h₀ h own m) {gives : Option (Nat × Addr × Obj)} {news : List Obj} {ca ca' : List (Nat × Nat)}
    (e : changed own ca gives = some (own', ca')) (hca : ∀ p ∈ ca', p.1 = p.2) (S : SqHeap gives news h h') : Hp ini h₀ h' (pushAll rho own' m news) (m + lenN news) := by
  have hlow : ∀ p ∈ own, p.1 < h₀.objs.size + m := fun p hp => by have := Heap.lt_size (D.has p hp); rw [D.size] at this; exact this
  have W : HpW ini h₀ h' own' m ∧ ∀ b o, h₀.get? b = some o → b ∉ ini → ∀ j a o', gives = some (j, a, o') → b ≠ a := by
    unfold changed at e
    split at e
    · cases e
      exact ⟨⟨fun p hp => S.keep _ _ (D.has p hp) (fun _ _ _ q => by cases q), hlow, D.apart, D.src⟩, fun _ _ _ _ _ _ _ q => by cases q⟩
    · rename_i j a o
      split at e
      · rename_i p hp
        cases e
        have hpa : p.1 = a := hca (p.1, a) (List.mem_cons_self ..)
        refine ⟨⟨fun q hq => ?_, fun q hq => ?_, ?_, fun q hq => ?_⟩, fun b o1 hb hni j' a' o' e' => ?_⟩
        · rcases setI_other D.apart hp hq with rfl | ⟨hq, hne⟩
          · show h'.get? p.1 = some o
            rw [hpa]; exact S.put j a o rfl
          · exact S.keep _ _ (D.has q hq) (fun j' a' o' q' => by cases q'; rw [← hpa]; exact hne)
        · rcases setI_mem hq with rfl | hq
          · exact hlow p (getI_mem hp)
          · exact hlow q hq
        · rw [setI_map (·.1) (y := (p.1, o)) hp rfl]; exact D.apart
        · rcases setI_mem hq with rfl | hq
          · exact D.src p (getI_mem hp)
          · exact D.src q hq
        · cases e'
          intro q
          rcases D.src p (getI_mem hp) with h1 | h1
          · exact hni (by rw [q, ← hpa]; exact h1)
          · have := Heap.lt_size hb
            rw [q, ← hpa] at this
            exact absurd this (Nat.not_lt.mpr h1)
      · cases e
  have Z := HpW.push hr news own' m W.1 (fun k o e => by
    have := S.new k o e
    rw [D.size] at this
    exact this)
  rw [lenN_eq]
  refine ⟨by rw [S.size, D.size, Nat.add_assoc], Z.has, Z.apart, Z.src, fun b o hb hni => S.keep b o (D.keep b o hb hni) (W.2 b o hb hni)⟩
section
variable (V : Cfg) (w : World) (A₀ : Around) (R₀ : Result → Shared → Prop) (g : Array GenState) (d : Drawn) (os : OsState) (t₀ : Nat) (ini : List Addr) (h₀ : Heap)
noncomputable abbrev sh (h : Heap) (i : Nat) : Shared := ⟨h, g, d, t₀ + i, os⟩
noncomputable def SpOk (sp : Sp) : Prop := ∀ (A : Around) (s : Shared), (∀ q ∈ sp.needs, s.heap.get? q.2.1 = some q.2.2) → s.toks = V.tau sp.i →
  wpAny (model V.prog w) A (runValue sp.code) (fun v s' => v = sp.res ∧ s' = { s with toks := s.toks + sp.dt }) (fun _ _ => False) s
noncomputable def SqOk (sq : Sq) : Prop := ∀ (A : Around) (s : Shared), (∀ q ∈ sq.needs, s.heap.get? q.2.1 = some q.2.2) → s.toks = V.tau sq.i → s.heap.objs.size = V.rho sq.m →
  wpAny (model V.prog w) A (runValue sq.code) (fun v s' => v = sq.res ∧ ∃ h', SqHeap sq.gives sq.news s.heap h' ∧ s' = { s with heap := h', toks := s.toks + sq.dt }) (fun _ _ => False) s
structure Cfg.Ok : Prop where
  par : V.P = w.params
  base : ∀ a o, V.base a = some o → h₀.get? a = some o
  apart : ∀ a o, V.base a = some o → a ∉ ini
  rho : ∀ m, V.rho m = h₀.objs.size + m
  tau : ∀ i, V.tau i = t₀ + i
  hand : V.h0 = A₀.handled
  room : A₀.depth + 100 ≤ recursionLimit
  noLimit : ∀ h : Heap, (∀ a o, V.base a = some o → h.get? a = some o) → h.NoLimit
  sps : ∀ sp ∈ V.sps, SpOk V w sp
  sqs : ∀ sq ∈ V.sqs, SqOk V w sq
noncomputable def Good (o : Out) : Prop := match o.kind with
  | .ret r own m i => ∀ h, Hp ini h₀ h own m → R₀ r (sh g d os t₀ h i)
  | .cut c κ own m i => ∀ h, Hp ini h₀ h own m → codeAny (model V.prog w) (ar A₀ κ) c (endS V.prog w A₀ R₀ κ) (sh g d os t₀ h i)
  | .err e c hh κ own m i => ∀ h, Hp ini h₀ h own m → wpOwn (model V.prog w) (ar A₀ κ) c (hh e) (fun _ s => endS V.prog w A₀ R₀ κ (.error e) s) (fun e' s => endS V.prog w A₀ R₀ κ (.error e') s) (sh g d os t₀ h i)
  | .bad .. => False
noncomputable def Chk (o : Out) : Prop := (∀ p ∈ o.ca, p.1 = p.2) ∧ (∀ p ∈ o.cp, p.1 = p.2) ∧ (∀ p ∈ o.cc, p.1 = p.2)
noncomputable def Fine (o : Out) : Prop := Chk o ∧ Good V w A₀ R₀ g d os t₀ ini h₀ o
end
section
variable {V : Cfg} {w : World} {A₀ : Around} {R₀ : Result → Shared → Prop} {g : Array GenState} {d : Drawn} {os : OsState} {t₀ : Nat} {ini : List Addr} {h₀ : Heap}
theorem Fine.fine {o : Out} (F : Fine V w A₀ R₀ g d os t₀ ini h₀ o) : o.fine := by
  have := F.2
  unfold Good at this
  unfold Out.fine
  split <;> simp_all
theorem Fine.no {n : Nat} {P : Prop} (F : Fine V w A₀ R₀ g d os t₀ ini h₀ (bad n)) : P := F.2.elim
theorem base_of (O : V.Ok w A₀ t₀ ini h₀) {h : Heap} {own : List (Addr × Obj)} {m : Nat} (D : Hp ini h₀ h own m) {a : Addr} {o : Obj} (e : V.base a = some o) : h.get? a = some o :=
  D.keep a o (O.base a o e) (O.apart a o e)
/-- fine for every choice of the stacks that are yet to come -/
noncomputable abbrev AF (V : Cfg) (w : World) (A₀ : Around) (R₀ : Result → Shared → Prop) (g : Array GenState) (d : Drawn) (os : OsState) (t₀ : Nat) (ini : List Addr) (h₀ : Heap) (s : Nat) (fx : Stk) (F : Stk → Out) : Prop :=
  ∀ stk : Stk, (∀ j, j < s → stk j = fx j) → Fine V w A₀ R₀ g d os t₀ ini h₀ (F stk)
section
variable {s : Nat} {fx : Stk}
theorem AF.opt {α : Type} {x : Option α} {n : Nat} {f : Stk → α → Out} (H : AF V w A₀ R₀ g d os t₀ ini h₀ s fx fun stk => opt x n (f stk)) : ∃ y, x = some y ∧ AF V w A₀ R₀ g d os t₀ ini h₀ s fx fun stk => f stk y := by
  unfold Mine.opt at H
  cases x with
  | none => exact (H fx fun _ _ => rfl).no
  | some y => exact ⟨y, rfl, H⟩
theorem AF.yes {b : Bool} {n : Nat} {o : Stk → Out} (H : AF V w A₀ R₀ g d os t₀ ini h₀ s fx fun stk => yes b n (o stk)) : b = true ∧ AF V w A₀ R₀ g d os t₀ ini h₀ s fx o := by
  unfold Mine.yes at H
  cases b with
  | false => exact (H fx fun _ _ => rfl).no
  | true => exact ⟨rfl, H⟩
theorem AF.two {b : Bool} {x y : Stk → Out} (H : AF V w A₀ R₀ g d os t₀ ini h₀ s fx fun stk => two b (x stk) (y stk)) : AF V w A₀ R₀ g d os t₀ ini h₀ s fx x ∨ AF V w A₀ R₀ g d os t₀ ini h₀ s fx y := by
  unfold Mine.two at H
  cases b with
  | false => exact .inr H
  | true => exact .inl H
theorem AF.unc {l : List Nat} {n : Nat} {f : Stk → Nat → List Nat → Out} (H : AF V w A₀ R₀ g d os t₀ ini h₀ s fx fun stk => uncons l n (f stk)) : ∃ x l', AF V w A₀ R₀ g d os t₀ ini h₀ s fx fun stk => f stk x l' := by
  unfold uncons at H
  cases l with
  | nil => exact (H fx fun _ _ => rfl).no
  | cons x l => exact ⟨x, l, H⟩
end
/-- what the shorter simulation has shown, for every choice of the stacks that are yet to come -/
noncomputable def IHTy (V : Cfg) (w : World) (A₀ : Around) (R₀ : Result → Shared → Prop) (g : Array GenState) (d : Drawn) (os : OsState) (t₀ : Nat) (ini : List Addr) (h₀ : Heap) (ih : Stk → SimTy) : Prop :=
  ∀ adv c md κ t own m i s ca cp cc h (fx : Stk), AF V w A₀ R₀ g d os t₀ ini h₀ s fx (fun stk => ih stk adv c md κ t own m i s ca cp cc) → Hp ini h₀ h own m →
    runS V.prog w (ar A₀ κ) (endS V.prog w A₀ R₀ κ) c md t (sh g d os t₀ h i)
section
variable (O : V.Ok w A₀ t₀ ini h₀) {ih : Stk → SimTy} (IH : IHTy V w A₀ R₀ g d os t₀ ini h₀ ih) (M : ∀ stk, MonoTy (ih stk)) {adv : List Nat} {c : Code} {md : Mode} {κ : Kn} {t : Sem PySem.Fin} {own : List (Addr × Obj)} {m i s : Nat} {ca : List (Nat × Nat)} {cp : List ((Addr × Obj) × (Addr × Obj))} {cc : List (Code × Code)} {h : Heap} {fx : Stk} (D : Hp ini h₀ h own m)
include M in
theorem ca_of {p : Nat × Nat} (H : AF V w A₀ R₀ g d os t₀ ini h₀ s fx fun stk => ih stk adv c md κ t own m i s (p :: ca) cp cc) : p.1 = p.2 :=
  have F := H fx fun _ _ => rfl
  F.1.1 _ (((M fx adv c md κ t own m i s (p :: ca) cp cc).out F.fine).1 p (List.mem_cons_self ..))
theorem not_t {b : Bool} (e : (!b) = true) : b = false := by
  cases b
  · rfl
  · cases e
theorem dataFn_of {x : PySem.Data} {fd : FuncData} (e : dataFn x = some fd) : x = .func fd := by
  cases x <;> first | (cases e; rfl) | cases e
theorem bodyOf_of {x : FuncBody} {b : List Stmt} (e : bodyOf x = some b) : x = .stmts b := by
  cases x <;> first | (cases e; rfl) | cases e
theorem refCall_of {x : Code} {r : Addr × Args} (e : refCall x = some r) : x = .call (.ref r.1) r.2 := by
  unfold refCall at e
  split at e
  · cases e; rfl
  · cases e
include O D in
theorem qual_of {fd : FuncData} {q : Str} (eq : codeQual V.base fd = some q) : h.CodeRec fd.code q := by
  unfold codeQual at eq
  split at eq
  · rename_i cd hcd
    split at eq
    · rename_i oc hoc
      split at eq
      · rename_i vs hvs
        split at eq
        · rename_i v0 q' tq rest hl
          cases eq
          refine ⟨cd, oc, vs, tq, hcd, base_of O D hoc, hvs, ?_⟩
          rw [← Array.getElem?_toList, hl]; rfl
        · cases eq
      · cases eq
    · cases eq
  · cases eq
include O IH M D in
theorem enter_sound {x : Nat} (H : AF V w A₀ R₀ g d os t₀ ini h₀ s fx fun stk => enter V (ih stk) x adv c κ own m i s ca cp cc) :
    codeAny (model V.prog w) (ar A₀ κ) c (endS V.prog w A₀ R₀ κ) (sh g d os t₀ h i) := by
  match x, H with
  | 0, H =>
    refine y_code _ _ _ _ _ _ ?_
    have z := IH _ _ _ _ _ _ _ _ _ _ _ _ h fx H D
    rw [denQ_eq] at z
    exact z
  | 1, H => exact (H fx fun _ _ => rfl).2 h D
  | 2, H =>
    obtain ⟨th, e, H⟩ := AF.opt H
    exact splitDen_sound e (IH _ _ _ _ _ _ _ _ _ _ _ _ h fx H D)
  | x + 3, H =>
    obtain ⟨r, er, H⟩ := AF.opt H
    obtain ⟨o, eb, H⟩ := AF.opt H
    obtain ⟨fd, ed, H⟩ := AF.opt H
    obtain ⟨body, ebd, H⟩ := AF.opt H
    obtain ⟨q, eq, H⟩ := AF.opt H
    obtain ⟨ek, H⟩ := AF.yes H
    cases refCall_of er
    have ha : r.1 = x / 2 := ca_of M H
    simp only [Bool.and_eq_true, Bool.not_eq_true'] at ek
    have hk : kdep κ < 100 := Nat.le_of_ble_eq_true ek.1.1
    have hb := base_of O D eb
    rw [← ha] at hb
    exact py_sound hb (dataFn_of ed) (bodyOf_of ebd) ek.1.2 ek.2 (qual_of O D eq) (Nat.lt_of_lt_of_le (Nat.lt_of_le_of_lt (ar_depth A₀ κ) (Nat.add_lt_add_left hk _)) O.room) (IH _ _ _ _ _ _ _ _ _ _ _ _ h fx H D)
theorem qS_of {A : Around} {R : Result → Shared → Prop} {c' : Code} {s : Shared} (hq : c'.quiet = true) (x : codeAny (model V.prog w) A c' R s) (hl : s.heap.NoLimit) : qS V.prog w md A R (.again c') s := by
  cases md with
  | plain => exact ⟨hq, x⟩
  | rais _ => exact ⟨hq, x⟩
  | py => exact ⟨⟨hq, x⟩, hl⟩
include IH D in
theorem back_sound {r : Result} (H : AF V w A₀ R₀ g d os t₀ ini h₀ s fx fun stk => back (ih stk) r κ adv own m i s ca cp cc) : endS V.prog w A₀ R₀ κ r (sh g d os t₀ h i) := by
  cases κ with
  | base => exact (H fx fun _ _ => rfl).2 h D
  | ret c' hd k md κ => exact IH _ _ _ _ _ _ _ _ _ _ _ _ h fx H D
include D in
theorem needs_of {l : List (Nat × Addr × Obj)} {cp' : List ((Addr × Obj) × (Addr × Obj))} (hn : needed own l cp = some cp') (hc : ∀ p ∈ cp', p.1 = p.2) : ∀ q ∈ l, h.get? q.2.1 = some q.2.2 := fun q hq => by
  obtain ⟨p, hp, hpc⟩ := (needed_sub hn).2 q hq
  have : p = q.2 := hc _ hpc
  rw [← this]
  exact D.has p (getI_mem hp)
theorem answered {A : Around} {R : Result → Shared → Prop} {c' : Code} {gd l} {k : Result → Sem PySem.Fin} {Q : Value → Shared → Prop} {sr : Shared}
    (y : wpAny (model V.prog w) (A.under c) (runValue c') Q (fun _ _ => False) sr) (z : ∀ v s', Q v s' → runS V.prog w A R c md (k (.ok (.ret v))) s') : runS V.prog w A R c md (.call c' none gd l k) sr := by
  intro Γ p hΓc hΓ
  have y := y Γ p (hΓc ▸ hΓ.in)
  rw [Sem.wp_runValue] at y
  obtain ⟨r, s', hr, hy⟩ := y
  refine ⟨r, s', hr, ?_⟩
  cases r with
  | error e => exact hy.elim
  | ok f =>
    cases f with
    | ret v => exact z v s' hy Γ p hΓc hΓ
    | _ => exact hy.elim
include O IH M D in
theorem call_sound {c' : Code} {hd : Option Value} {gd l} {k : Result → Sem PySem.Fin} (H : AF V w A₀ R₀ g d os t₀ ini h₀ s fx fun stk => sCall V (ih stk) adv c md κ c' hd k own m i s ca cp cc) :
    runS V.prog w (ar A₀ κ) (endS V.prog w A₀ R₀ κ) c md (.call c' hd gd l k) (sh g d os t₀ h i) := by
  obtain ⟨x, adv, H⟩ := AF.unc H
  obtain ⟨hm, H⟩ := AF.yes H
  rcases AF.two H with H | H
  · cases hd with
    | some v => cases (AF.yes H).1
    | none =>
    rcases AF.two (AF.yes H).2 with H | H
    · obtain ⟨sp, es, H⟩ := AF.opt H
      obtain ⟨cp', hn, H⟩ := AF.opt H
      have F := H fx fun _ _ => rfl
      have mo := (M fx adv c md κ (k (.ok (.ret sp.res))) own m (i + sp.dt) s ((sp.i, i) :: ca) cp' ((c', sp.code) :: cc)).out F.fine
      have hc : c' = sp.code := F.1.2.2 _ (mo.2.2 _ (List.mem_cons_self ..))
      have hiq : sp.i = i := F.1.1 _ (mo.1 _ (List.mem_cons_self ..))
      subst hc
      refine answered (O.sps sp (getI_mem es) _ (sh g d os t₀ h i) (needs_of D hn fun p hp => F.1.2.1 p (mo.2.1 p hp)) (by rw [hiq, O.tau])) fun v s' hy => ?_
      rw [hy.1, hy.2, show ({ sh g d os t₀ h i with toks := (sh g d os t₀ h i).toks + sp.dt } : Shared) = sh g d os t₀ h (i + sp.dt) from congrArg (fun n => (⟨h, g, d, n, os⟩ : Shared)) (Nat.add_assoc ..)]
      exact IH _ _ _ _ _ _ _ _ _ _ _ _ h fx H D
    · obtain ⟨sq, es, H⟩ := AF.opt H
      obtain ⟨cp', hn, H⟩ := AF.opt H
      obtain ⟨oc, hg, H⟩ := AF.opt H
      have F := H fx fun _ _ => rfl
      have mo := (M fx adv c md κ (k (.ok (.ret sq.res))) (pushAll V.rho oc.1 m sq.news) (m + lenN sq.news) (i + sq.dt) s ((sq.i, i) :: (sq.m, m) :: oc.2) cp' ((c', sq.code) :: cc)).out F.fine
      have hc : c' = sq.code := F.1.2.2 _ (mo.2.2 _ (List.mem_cons_self ..))
      have hiq : sq.i = i := F.1.1 _ (mo.1 _ (List.mem_cons_self ..))
      have him : sq.m = m := F.1.1 _ (mo.1 _ (List.mem_cons_of_mem _ (List.mem_cons_self ..)))
      subst hc
      refine answered (O.sqs sq (getI_mem es) _ (sh g d os t₀ h i) (needs_of D hn fun p hp => F.1.2.1 p (mo.2.1 p hp)) (by rw [hiq, O.tau]) (by rw [him, O.rho, ← D.size])) fun v s' hy => ?_
      obtain ⟨e1, h', S, e2⟩ := hy
      rw [e1, e2, show ({ sh g d os t₀ h i with heap := h', toks := (sh g d os t₀ h i).toks + sq.dt } : Shared) = sh g d os t₀ h' (i + sq.dt) from congrArg (fun n => (⟨h', g, d, n, os⟩ : Shared)) (Nat.add_assoc ..)]
      exact IH _ _ _ _ _ _ _ _ _ _ _ _ h' fx H (D.sq O.rho (own' := oc.1) (ca' := oc.2) hg (fun q hq => F.1.1 _ (mo.1 q (List.mem_cons_of_mem _ (List.mem_cons_of_mem _ hq)))) S)
  · exact y_call _ _ _ _ _ _ _ _ _ _ _ _ _ (fun e => by subst e; cases hm) (enter_sound O IH M (κ := .ret c hd k md κ) D H)
end
theorem step_sound (O : V.Ok w A₀ t₀ ini h₀) {ih : Stk → SimTy} (IH : IHTy V w A₀ R₀ g d os t₀ ini h₀ ih) (M : ∀ stk, MonoTy (ih stk)) : IHTy V w A₀ R₀ g d os t₀ ini h₀ (fun stk => simStep V stk (ih stk)) := by
  intro adv c md κ t own m i s ca cp cc h fx H D
  have self : ∀ j, j < s → fx j = fx j := fun _ _ => rfl
  cases t with
  | pure fin =>
    cases fin with
    | done f =>
      cases md with
      | py => exact (H fx self).no
      | plain => exact y_pure _ _ _ _ _ _ _ _ _ (back_sound IH D H)
      | rais hh => exact y_pure _ _ _ _ _ _ _ _ _ (back_sound IH D H)
    | again c' =>
      obtain ⟨x, adv, H⟩ := AF.unc H
      obtain ⟨hq, H⟩ := AF.yes H
      rw [quietQ_eq] at hq
      exact y_pure _ _ _ _ _ _ _ _ _ (qS_of hq (enter_sound O IH M D H) (O.noLimit h fun a o e => base_of O D e))
  | raise e =>
    cases md with
    | py => exact (H fx self).no
    | plain => exact y_raise _ _ _ _ _ _ _ _ _ (back_sound IH D H)
    | rais hh => exact y_raise _ _ _ _ _ _ _ _ _ ((H fx self).2 h D)
  | rule tag k => exact fun Γ p hc hΓ => IH _ _ _ _ _ _ _ _ _ _ _ _ h fx H D Γ p hc hΓ
  | «at» q k => exact fun Γ p hc hΓ => IH _ _ _ _ _ _ _ _ _ _ _ _ h fx H D Γ q hc hΓ
  | point l k => exact fun Γ p hc hΓ => IH _ _ _ _ _ _ _ _ _ _ _ _ h fx H D Γ p hc hΓ
  | ask k =>
    have z := IH _ _ _ _ _ _ _ _ _ _ _ _ h fx H D
    rw [O.par] at z
    exact fun Γ p hc hΓ => z Γ p hc hΓ
  | load a q k =>
    obtain ⟨x, adv, H⟩ := AF.unc H
    rcases AF.two H with H | H
    · obtain ⟨o, eb, H⟩ := AF.opt H
      have ha : a = x / 2 := ca_of M H
      exact y_load _ _ _ _ _ _ _ _ _ _ _ _ _ _ _ _ (ha ▸ base_of O D eb) (IH _ _ _ _ _ _ _ _ _ _ _ _ h fx H D)
    · obtain ⟨p, eb, H⟩ := AF.opt H
      have ha : a = p.1 := ca_of M H
      exact y_load _ _ _ _ _ _ _ _ _ _ _ _ _ _ _ _ (ha ▸ D.has p (getI_mem eb)) (IH _ _ _ _ _ _ _ _ _ _ _ _ h fx H D)
  | update a q f k =>
    obtain ⟨x, adv, H⟩ := AF.unc H
    obtain ⟨p, eb, H⟩ := AF.opt H
    obtain ⟨hf, H⟩ := AF.yes H
    have ha : a = p.1 := ca_of M H
    subst ha
    exact wpOwn_bind (m := updatePart p.1 q f) (f := k) (wpOwn_of_wpAny (wpAny_updatePart (D.has p (getI_mem eb)) (IH _ _ _ _ _ _ _ _ _ _ _ _ _ fx H (D.update eb (not_t hf)))))
  | alloc o k =>
    obtain ⟨hf, H⟩ := AF.yes H
    simp only [O.rho] at H
    have z := IH _ _ _ _ _ _ _ _ _ _ _ _ _ fx H (D.alloc (not_t hf))
    exact wpOwn_bind (m := PySem.alloc o) (f := k) (wpOwn_of_wpAny (wpAny_alloc (by
      show wpOwn _ _ _ (k h.objs.size) _ _ _
      rw [D.size]; exact z)))
  | fresh k =>
    refine y_fresh _ _ _ _ _ _ _ _ _ _ _ _ _ ?_
    have z := IH _ _ _ _ _ _ _ _ _ _ _ _ h fx H D
    rw [O.tau] at z
    exact z
  | handled own k =>
    cases own with
    | true => cases (AF.yes H).1
    | false =>
      refine y_handled _ _ _ _ _ _ _ _ _ ?_
      have H := (AF.yes H).2
      have z := IH _ _ _ _ _ _ _ _ _ _ _ _ h fx H D
      rw [O.hand, ← ar_hand] at z
      exact z
  | stack k =>
    refine y_stack _ _ _ _ _ _ _ _ _ fun p below l => ?_
    refine IH adv c md κ _ own m i (s + 1) ca cp cc h (fun j => if j = s then (p, below) else fx j) (fun stk hs => ?_) D
    have e : stk s = (p, below) := (hs s (Nat.lt_succ_self _)).trans (if_pos rfl)
    have z := H stk fun j hj => (hs j (Nat.lt_succ_of_lt hj)).trans (if_neg (Nat.ne_of_lt hj))
    have e1 : (stk s).1 = p := congrArg Prod.fst e
    have e2 : (stk s).2 = below := congrArg Prod.snd e
    rw [← e1, ← e2]
    exact z
  | call c' hd gd l k => exact call_sound O IH M D H
  | _ => exact (H fx self).no
theorem ssim_sound (O : V.Ok w A₀ t₀ ini h₀) : ∀ n, IHTy V w A₀ R₀ g d os t₀ ini h₀ (fun stk => ssim V stk n)
  | 0 => fun _ _ _ _ _ _ _ _ _ _ _ _ _ fx H _ => (H fx fun _ _ => rfl).no
  | n + 1 => step_sound O (ssim_sound O n) (fun stk => ssim_mono V stk n)
end
end
section
@[irreducible] noncomputable def fP (P : Params) (b c : Bool) : Params := { P with followText := fun r => match PySem.W.S.eqLit 10139888712337904147300001983332972444938612 r with
  | true => b
  | false => match PySem.W.S.eqLit 2510650655181157320538776789020469319833841985448949215332 r with
    | true => c
    | false => P.followText r }
@[irreducible] noncomputable def ktb (P : Params) : KT := KT.of (K0 P)
noncomputable def cfg (P : Params) (rho tau : Nat → Nat) (h0 : Option Value) (sps : List Sp) : Cfg :=
  { prog := PySem.Challenge.pw_ny0292_01, P := P, base := fun a => (ktb P).get a, rho := rho, tau := tau, h0 := h0, sps := sps }
noncomputable def cfgQ (P : Params) (rho tau : Nat → Nat) (h0 : Option Value) (sps : List Sp) (sqs : List Sq) : Cfg :=
  { prog := PySem.Challenge.pw_ny0292_01, P := P, base := fun a => (ktb P).get a, rho := rho, tau := tau, h0 := h0, sps := sps, sqs := sqs }
noncomputable abbrev ent (P : Params) (x : String) (t : Tok) (v : Value) : DictEntry := DictEntry.mk (PyData.keyHash P (Str.ofString x)) (.str (Str.ofString x) t) v
/-- an entry as the fast form of the model makes it -/
noncomputable abbrev entQ (P : Params) (x : String) (t : Tok) (v : Value) : DictEntry := DictEntry.mk (ZFast.zw12210062019545310541 (P.strHash (Str.ofString x).cps)) (.str (Str.ofString x) t) v
theorem entQ_eq (P : Params) (x : String) (t : Tok) (v : Value) (h : (Str.ofString x).cps.isEmpty = false) : entQ P x t v = ent P x t v := by
  unfold entQ ent PyData.keyHash
  rw [← ZFast.ze12210062019545310541, h]
  rfl
@[irreducible] noncomputable def entered (V : Cfg) (stk : Stk) (adv : List Nat) (c : Code) (own : List (Addr × Obj)) : Out := enter V (ssim V stk 100000) (adv.headD 0) adv.tail c .base own 0 0 0 [] [] []
noncomputable def chkL (o : Out) : List Nat × List (Addr × Obj) × List Code := (o.ca.map (·.1), o.cp.map (·.1), o.cc.map (·.1))
noncomputable def chkR (o : Out) : List Nat × List (Addr × Obj) × List Code := (o.ca.map (·.2), o.cp.map (·.2), o.cc.map (·.2))
theorem map_eq {α : Type} : ∀ {l : List (α × α)}, l.map (·.1) = l.map (·.2) → ∀ p ∈ l, p.1 = p.2
  | [], _, _, h => nomatch h
  | q :: l, e, p, h => by
    rw [List.map_cons, List.map_cons] at e
    injection e with e1 e2
    rcases List.mem_cons.mp h with rfl | h
    · exact e1
    · exact map_eq e2 p h
theorem chk_of {o : Out} (e : chkL o = chkR o) : Chk o :=
  ⟨map_eq (congrArg Prod.fst e), map_eq (congrArg (fun x => x.2.1) e), map_eq (congrArg (fun x => x.2.2) e)⟩
noncomputable def picks (own : List (Addr × Obj)) : List Nat → Option (List (Addr × Obj))
  | [] => some []
  | j :: js => match getI own j with
    | some p => match picks own js with
      | some l => some (p :: l)
      | none => none
    | none => none
theorem picks_mem {own : List (Addr × Obj)} : ∀ {js : List Nat} {l : List (Addr × Obj)}, picks own js = some l → ∀ p ∈ l, p ∈ own
  | [], l, e, p, h => by cases e; cases h
  | j :: js, l, e, p, h => by
    unfold picks at e
    split at e
    · rename_i q hq
      split at e
      · rename_i l' hl
        cases e
        rcases List.mem_cons.mp h with rfl | h
        · exact getI_mem hq
        · exact picks_mem hl p h
      · cases e
    · cases e
/-- what a run gives that comes back -/
noncomputable def retV (js : List Nat) (o : Out) : Option (Result × List (Addr × Obj)) := match o.kind with
  | .ret r own _ _ => (picks own js).map fun l => (r, l)
  | _ => none
theorem retV_of {js : List Nat} {o : Out} {r : Result} {l : List (Addr × Obj)} (e : retV js o = some (r, l)) : ∃ own m i, o.kind = .ret r own m i ∧ picks own js = some l := by
  unfold retV at e
  split at e
  · rename_i r' own m i hk
    cases hp : picks own js with
    | none => rw [hp] at e; cases e
    | some l' => rw [hp] at e; cases e; exact ⟨own, m, i, hk, hp⟩
  · cases e
/-- a run that is cut with nothing waiting -/
noncomputable def cutV (js : List Nat) (o : Out) : Option (Code × List (Addr × Obj)) := match o.kind with
  | .cut c .base own _ _ => (picks own js).map fun l => (c, l)
  | _ => none
theorem cutV_of {js : List Nat} {o : Out} {c : Code} {l : List (Addr × Obj)} (e : cutV js o = some (c, l)) : ∃ own m i, o.kind = .cut c .base own m i ∧ picks own js = some l := by
  unfold cutV at e
  split at e
  · rename_i r' own m i hk
    cases hp : picks own js with
    | none => rw [hp] at e; cases e
    | some l' => rw [hp] at e; cases e; exact ⟨own, m, i, hk, hp⟩
  · cases e
end
section
noncomputable def bi (id : String) (l : List Value) : Code := .call (.builtin id) ⟨l, []⟩
section
variable {prog : Program} {w : World} {A : Around} {s : Shared}
noncomputable abbrev Ans (prog : Program) (w : World) (A : Around) (s : Shared) (c : Code) (v : Value) (dt : Nat) : Prop :=
  wpAny (model prog w) A (runValue c) (fun r s' => r = v ∧ s' = { s with toks := s.toks + dt }) (fun _ _ => False) s
theorem ans_ge (a b : Int) (t u : Tok) (c : Bool) (hc : decide (a ≥ b) = c) : Ans prog w A s (bi "int.__ge__" [.int a t, .int b u]) (.bool c) 0 := by
  subst hc
  exact wpAny_call_entry F.slot_int_ge (typeIs_int s a t) F.entry_int_ge (wpAny_pure ⟨_, rfl, rfl, rfl⟩) (F.args_int_ge_2 _ _)
theorem ans_lt (a b : Int) (t u : Tok) (c : Bool) (hc : decide (a < b) = c) : Ans prog w A s (bi "int.__lt__" [.int a t, .int b u]) (.bool c) 0 := by
  subst hc
  exact wpAny_call_entry F.slot_int_lt (typeIs_int s a t) F.entry_int_lt (wpAny_pure ⟨_, rfl, rfl, rfl⟩) (F.args_int_lt_2 _ _)
theorem ans_add (a b : Int) (t u k : Tok) (hk : s.toks = k) : Ans prog w A s (bi "int.__add__" [.int a t, .int b u]) (.int (a + b) k) 1 := by
  subst hk
  exact wpAny_call_entry F.slot_int_add (typeIs_int s a t) F.entry_int_add (fun _ _ _ => ⟨_, rfl, rfl, rfl⟩) (F.args_int_add_2 _ _)
theorem ans_len (x : Str) (t k : Tok) (hx : x.length < 1000) (hk : s.toks + 1 = k) : Ans prog w A s (bi "len" [.str x t]) (.int x.length k) 2 := by
  subst hk
  exact len_str (by omega) ⟨rfl, rfl⟩
theorem ans_meets {T : String} {name : Str} {id : String} {b : Builtin} {self : Value} {rest : List Value} {v : Value} {dt : Nat} {P : Around → (Result → Shared → Prop) → Shared → Prop} (h : Slot T name id) (hT : s.TypeIs self T) (hb : entryFor table id = some b) (ha : argsOk id ⟨self :: rest, []⟩)
    (hm : Meets (b ⟨self :: rest, []⟩) P) (hp : ∀ A R, R (.ok (.ret v)) { s with toks := s.toks + dt } → P A R s) : Ans prog w A s (bi id (self :: rest)) v dt := by
  show wpAny _ _ (runValue (.call (.builtin id) ⟨self :: rest, []⟩)) _ _ _
  refine wpAny_runValue (codeAny_call_builtin h.plain hb (h.check _ _ _ _ _ _ _ _ hT ha ?_))
  exact hm prog w A (fun r s' => match r with | .ok (.ret x) => x = v ∧ s' = { s with toks := s.toks + dt } | .ok _ => False | .error e => False) s (hp _ _ ⟨rfl, rfl⟩)
theorem ans_slice (x : Str) (t : Tok) (a : Addr) (l u : Option (Int × Tok)) (hx : x.length ≤ sizeLine) (hs : s.heap.IsSlice a l u none) :
    ((slicePicked x l u none).length = x.length → Ans prog w A s (bi "str.__getitem__" [.str x t, .ref a]) (.str x t) 0) ∧
    ((slicePicked x l u none).length ≠ x.length → Ans prog w A s (bi "str.__getitem__" [.str x t, .ref a]) (.str ⟨((slicePicked x l u none).filterMap (x.cps[·]?)).toArray⟩ s.toks) 1) := by
  have M := meets_str_getitem_slice x t a l u none rfl
  refine ⟨fun h => ?_, fun h => ?_⟩
  · refine ans_meets F.slot_str_getitem (typeIs_str s x t) F.entry_str_getitem (F.args_str_getitem_2 _ _) M fun A R hR => ⟨hs, ?_⟩
    unfold sliceMade
    rw [if_pos (by rw [h]; simp)]
    exact hR
  · refine ans_meets F.slot_str_getitem (typeIs_str s x t) F.entry_str_getitem (F.args_str_getitem_2 _ _) M fun A R hR => ⟨hs, ?_⟩
    unfold sliceMade
    rw [if_neg (by simp [h])]
    refine ⟨?_, hR⟩
    show ((slicePicked x l u none).filterMap (x.cps[·]?)).toArray.size ≤ sizeLine
    rw [List.size_toArray]
    have h1 := List.length_filterMap_le (x.cps[·]?) (slicePicked x l u none)
    have h2 := PyProof.Rows.indices_len_le (l.map (·.1)) (u.map (·.1)) x.length
    have h3 : (slicePicked x l u none).length ≤ x.length := h2
    omega
theorem picked_sign {x : Str} {k : Nat} {tk tu : Tok} (hlen : k + 1 ≤ x.length) : slicePicked x (some ((k : Int), tk)) (some ((k : Int) + 1, tu)) none = [k] := by
  have := StrLaws.strSliceIndices_plain (a := k) (b := k + 1) (len := x.length) (by omega) hlen
  show Builtin.Str.strSliceIndices (some (k : Int)) (some ((k : Int) + 1)) 1 x.length = [k]
  rw [show ((k : Int) + 1) = ((k + 1 : Nat) : Int) from rfl, this]
  simp
/-- one sign of a longer text -/
theorem ans_sign (x : Str) (t : Tok) (a : Addr) (k : Nat) (tk tu : Tok) (ch : Nat) (hx : x.length ≤ sizeLine) (h1 : x.length ≠ 1) (hk : x.cps[k]? = some ch) (hs : s.heap.IsSlice a (some ((k : Int), tk)) (some ((k : Int) + 1, tu)) none) :
    Ans prog w A s (bi "str.__getitem__" [.str x t, .ref a]) (.str ⟨#[ch]⟩ s.toks) 1 := by
  have hlen : k + 1 ≤ x.length := (Array.getElem?_eq_some_iff.mp hk).1
  have h2 := (ans_slice (prog := prog) (w := w) (A := A) x t a _ _ hx hs).2
  rw [picked_sign hlen] at h2
  have := h2 fun q => h1 q.symm
  simp only [List.filterMap_cons, List.filterMap_nil, hk] at this
  exact this
/-- the only sign of a text -/
theorem ans_whole (x : Str) (t : Tok) (a : Addr) (k : Nat) (tk tu : Tok) (ch : Nat) (hx : x.length ≤ sizeLine) (h1 : x.length = 1) (hk : x.cps[k]? = some ch) (hs : s.heap.IsSlice a (some ((k : Int), tk)) (some ((k : Int) + 1, tu)) none) :
    Ans prog w A s (bi "str.__getitem__" [.str x t, .ref a]) (.str ⟨#[ch]⟩ t) 0 := by
  obtain ⟨hlt, hch⟩ := Array.getElem?_eq_some_iff.mp hk
  have hlen : k + 1 ≤ x.length := hlt
  have h2 := (ans_slice (prog := prog) (w := w) (A := A) x t a _ _ hx hs).1
  rw [picked_sign hlen] at h2
  have h0 : k = 0 := by omega
  subst h0
  have hxe : x = ⟨#[ch]⟩ := by
    have hl : x.cps.size = 1 := h1
    apply Str.ext'
    rw [Array.ext_iff]
    refine ⟨hl, fun i hi hi' => ?_⟩
    have : i = 0 := by omega
    subst this
    exact hch
  have := h2 h1.symm
  rw [← hxe]
  exact this
end
end
section
noncomputable def inc : List Nat → Bool
  | [] => true
  | a :: l => match l with
    | [] => Nat.blt a 781
    | b :: _ => Nat.blt a b && inc l
theorem inc_lt : ∀ {l : List Nat} {a : Nat}, inc (a :: l) = true → a < 781 ∧ ∀ b ∈ l, a < b ∧ b < 781
  | [], a, h => ⟨Nat.le_of_ble_eq_true h, fun _ h => nomatch h⟩
  | b :: l, a, h => by
    have h' : (Nat.blt a b && inc (b :: l)) = true := h
    rw [Bool.and_eq_true] at h'
    obtain ⟨h1, h2⟩ := h'
    have hab : a < b := Nat.le_of_ble_eq_true h1
    obtain ⟨i1, i2⟩ := inc_lt h2
    refine ⟨by omega, fun c hc => ?_⟩
    rcases List.mem_cons.mp hc with rfl | hc
    · exact ⟨hab, i1⟩
    · have := i2 c hc; exact ⟨by omega, this.2⟩
theorem inc_lookup : ∀ {K : Frag}, inc (K.map (·.1)) = true → ∀ p ∈ K, K.lookup p.1 = some p.2 ∧ p.1 < 781
  | [], _, _, h => nomatch h
  | q :: K, h, p, hp => by
    have h0 : inc (q.1 :: K.map (·.1)) = true := h
    obtain ⟨i1, i2⟩ := inc_lt h0
    rcases List.mem_cons.mp hp with rfl | hp
    · obtain ⟨a, o⟩ := p
      exact ⟨by simp [List.lookup], i1⟩
    · have hm : p.1 ∈ K.map (·.1) := List.mem_map_of_mem hp
      have hlt := i2 _ hm
      have hk : inc (K.map (·.1)) = true := by
        cases K with
        | nil => cases hp
        | cons r K =>
          have : (Nat.blt q.1 r.1 && inc (r.1 :: K.map (·.1))) = true := h0
          rw [Bool.and_eq_true] at this
          exact this.2
      obtain ⟨j1, j2⟩ := inc_lookup hk p hp
      refine ⟨?_, j2⟩
      rw [List.lookup_cons]
      have : (p.1 == q.1) = false := by
        rw [beq_eq_false_iff_ne]; exact Nat.ne_of_gt hlt.1
      rw [this]; exact j1
theorem heap_inc (P : Params) : inc ((K0 P).map (·.1)) = true := by kernel_rfl
theorem allIn_of_in {h : Heap} {K : Frag} (hk : ∀ p ∈ K, h.get? p.1 = some p.2) : AllIn h K := by
  induction K with
  | nil => trivial
  | cons q K ih => exact ⟨hk q (List.mem_cons_self ..), ih fun p hp => hk p (List.mem_cons_of_mem _ hp)⟩
theorem ktb_eq (P : Params) : ktb P = KT.of (K0 P) := by unfold ktb; rfl
theorem kt_in {K : Frag} {h : Heap} (hi : inc (K.map (·.1)) = true) (hin : K.In h) {a : Addr} {o : Obj} (e : (KT.of K).get a = some o) : h.get? a = some o := by
  have A : AllIn h K := allIn_of_in fun p hp => hin p.1 p.2 (inc_lookup hi p hp).1
  have z := KT.Holds.get (holds_of A) e
  rwa [Nat.one_mul, Nat.add_zero] at z
noncomputable def hK (K : Frag) : Heap := { objs := Array.ofFn (n := 781) fun i => (K.lookup i.1).getD ⟨.none, none, .freed, #[]⟩ }
theorem get?_some {h : Heap} {a : Addr} {o : Obj} (hf : o.data ≠ .freed) (e : h.objs[a]? = some o) : h.get? a = some o := by
  unfold Heap.get?
  rw [e]
  split
  · rename_i heq
    cases heq
    exact absurd rfl hf
  · rfl
theorem not_freed {h : Heap} {a : Addr} {o : Obj} (e : h.get? a = some o) : o.data ≠ .freed := by
  unfold Heap.get? at e
  intro hf
  split at e
  · cases e
  · rename_i x hx
    obtain ⟨c, d, dt, sl⟩ := o
    simp only at hf
    subst hf
    exact hx c d sl e
theorem kt_lt {K : Frag} {h : Heap} (hi : inc (K.map (·.1)) = true) (hin : K.In h) {a : Addr} {o : Obj} (e : (KT.of K).get a = some o) : a < 781 := by
  have A : AllIn (hK K) K := allIn_of_in fun p hp => by
    obtain ⟨h1, h2⟩ := inc_lookup hi p hp
    refine get?_some (not_freed (hin _ _ h1)) ?_
    unfold hK
    simp only [Array.getElem?_ofFn, h2, dif_pos, h1, Option.getD_some]
  have z := KT.Holds.get (holds_of A) e
  rw [Nat.one_mul, Nat.add_zero] at z
  have := Heap.lt_size z
  simpa [hK] using this
theorem base_in {P : Params} {h : Heap} (hin : (K0 P).In h) {a : Addr} {o : Obj} (e : (ktb P).get a = some o) : h.get? a = some o := by
  rw [ktb_eq] at e
  exact kt_in (heap_inc P) hin e
theorem base_lt {P : Params} {h : Heap} (hin : (K0 P).In h) {a : Addr} {o : Obj} (e : (ktb P).get a = some o) : a < 781 := by
  rw [ktb_eq] at e
  exact kt_lt (heap_inc P) hin e
/-- the statics' object bears no limit of the recursion -/
theorem statics_get (P : Params) : ∃ o, (ktb P).get 2 = some o := by
  have : ((ktb P).get 2).isSome = true := by kernel_rfl
  exact Option.isSome_iff_exists.mp this
end
section
noncomputable abbrev theProg : Program := PySem.Challenge.pw_ny0292_01
/-- what every heap of the call has of the top's -/
structure Gr (w : World) (h : Heap) : Prop where
  inn : (K0 w.params).In h
  nl : h.NoLimit
theorem Gr.keeps {w : World} {h h' : Heap} (x : Gr w h) (k : ∀ b o, b < 781 → h.get? b = some o → h'.get? b = some o) : Gr w h' := by
  refine ⟨fun a o e => ?_, ?_⟩
  · have hm : (a, o) ∈ K0 w.params := by
      have : ∀ (K : Frag), K.lookup a = some o → (a, o) ∈ K := by
        intro K
        induction K with
        | nil => intro e; cases e
        | cons q K ih =>
          intro e
          rw [List.lookup_cons] at e
          cases hq : a == q.1 with
          | true =>
            rw [hq] at e
            cases e
            rw [beq_iff_eq] at hq
            subst hq
            exact List.mem_cons_self ..
          | false => rw [hq] at e; exact List.mem_cons_of_mem _ (ih e)
      exact this _ e
    exact k a o (inc_lookup (heap_inc _) _ hm).2 (x.inn a o e)
  · exact Heap.NoLimit.at x.nl fun o e => k _ _ (by decide) e
theorem fP_self (P : Params) : fP P (P.followText "special-get-raises") (P.followText "comprehension-iter-twice") = P := by
  have e : (fun r => match S.eqLit 10139888712337904147300001983332972444938612 r with | true => P.followText "special-get-raises" | false => match S.eqLit 2510650655181157320538776789020469319833841985448949215332 r with | true => P.followText "comprehension-iter-twice" | false => P.followText r) = P.followText := by
    funext r
    have h1 : S.eqLit 10139888712337904147300001983332972444938612 r = (r == "special-get-raises") := (congrFun (S.eqLit_eq "special-get-raises" 10139888712337904147300001983332972444938612 (by decide +kernel)) r).symm
    have h2 : S.eqLit 2510650655181157320538776789020469319833841985448949215332 r = (r == "comprehension-iter-twice") := (congrFun (S.eqLit_eq "comprehension-iter-twice" 2510650655181157320538776789020469319833841985448949215332 (by decide +kernel)) r).symm
    rw [h1, h2]
    cases q1 : r == "special-get-raises" with
    | true => rw [beq_iff_eq] at q1; rw [q1]
    | false =>
      cases q2 : r == "comprehension-iter-twice" with
      | true => rw [beq_iff_eq] at q2; rw [q2]
      | false => rfl
  unfold fP
  exact congrArg (fun f => ({ P with followText := f } : Params)) e
section
variable {w : World} {A : Around} {h₀ : Heap} {t₀ : Nat} {ini : List Addr} {b c : Bool} {sps : List Sp}
noncomputable abbrev cfgH (w : World) (b c : Bool) (h₀ : Heap) (t₀ : Nat) (h0 : Option Value) (sps : List Sp) : Cfg := cfg (fP w.params b c) (fun m => h₀.objs.size + m) (fun i => t₀ + i) h0 sps
theorem mkOk (G : Gr w h₀) (hb : fP w.params b c = w.params) (hi : ∀ a ∈ ini, 781 ≤ a) (hA : A.depth + 100 ≤ recursionLimit)
    (hs : ∀ sp ∈ sps, SpOk (cfgH w b c h₀ t₀ A.handled sps) w sp) : (cfgH w b c h₀ t₀ A.handled sps).Ok w A t₀ ini h₀ := by
  refine ⟨hb, fun a o e => ?_, fun a o e hm => ?_, fun _ => rfl, fun _ => rfl, rfl, hA, fun h hh => ?_, hs, fun _ h => nomatch h⟩
  · have e' : (ktb w.params).get a = some o := by rw [← hb]; exact e
    exact base_in G.inn e'
  · have e' : (ktb w.params).get a = some o := by rw [← hb]; exact e
    exact absurd (base_lt G.inn e') (Nat.not_lt.mpr (hi a hm))
  · refine Heap.NoLimit.at G.nl fun o e => ?_
    obtain ⟨o', e'⟩ := statics_get w.params
    have h1 := base_in G.inn e'
    have : o = o' := Option.some.inj (e.symm.trans h1)
    subst this
    exact hh _ _ (by show (ktb (fP w.params b c)).get 2 = some o; rw [hb]; exact e')
noncomputable abbrev cfgHQ (w : World) (b c : Bool) (h₀ : Heap) (t₀ : Nat) (h0 : Option Value) (sps : List Sp) (sqs : List Sq) : Cfg := cfgQ (fP w.params b c) (fun m => h₀.objs.size + m) (fun i => t₀ + i) h0 sps sqs
theorem mkOkQ {sqs : List Sq} (G : Gr w h₀) (hb : fP w.params b c = w.params) (hi : ∀ a ∈ ini, ∀ o, (ktb w.params).get a ≠ some o) (hA : A.depth + 100 ≤ recursionLimit)
    (hs : ∀ sp ∈ sps, SpOk (cfgHQ w b c h₀ t₀ A.handled sps sqs) w sp) (hq : ∀ sq ∈ sqs, SqOk (cfgHQ w b c h₀ t₀ A.handled sps sqs) w sq) : (cfgHQ w b c h₀ t₀ A.handled sps sqs).Ok w A t₀ ini h₀ := by
  have z := mkOk (A := A) (t₀ := t₀) (ini := []) (sps := []) G hb (fun _ h => nomatch h) hA (fun _ h => nomatch h)
  refine ⟨z.par, z.base, fun a o e hm => ?_, z.rho, z.tau, z.hand, z.room, z.noLimit, hs, hq⟩
  have e' : (ktb w.params).get a = some o := by rw [← hb]; exact e
  exact hi a hm o e'
end
section
variable {V : Cfg} {w : World} {A : Around} {R : Result → Shared → Prop} {g : Array GenState} {d : Drawn} {os : OsState} {t₀ : Nat} {ini : List Addr} {h₀ : Heap}
/-- a code's run that comes back -/
theorem run_ret (O : V.Ok w A t₀ ini h₀) {own : List (Addr × Obj)} (D : Hp ini h₀ h₀ own 0) {adv : List Nat} {c : Code} {js : List Nat} {r : Result} {l : List (Addr × Obj)}
    (hrun : ∀ stk, (chkL (entered V stk adv c own), retV js (entered V stk adv c own)) = (chkR (entered V stk adv c own), some (r, l)))
    (hR : ∀ h i, (∀ p ∈ l, h.get? p.1 = some p.2) → (∀ b o, h₀.get? b = some o → b ∉ ini → h.get? b = some o) → R r ⟨h, g, d, i, os⟩) :
    codeAny (model V.prog w) A c R ⟨h₀, g, d, t₀, os⟩ := by
  refine enter_sound (κ := .base) (A₀ := A) (R₀ := R) (x := adv.headD 0) (adv := adv.tail) (ca := []) (cp := []) (cc := []) (fx := fun _ => (default, [])) (s := 0) (i := 0) O (ssim_sound O 100000) (fun stk => ssim_mono V stk 100000) D (fun stk _ => ?_)
  have e := hrun stk
  unfold entered at e
  refine ⟨chk_of (congrArg Prod.fst e), ?_⟩
  obtain ⟨own', m, i, hk, hp⟩ := retV_of (congrArg Prod.snd e)
  unfold Good
  rw [hk]
  intro h D'
  exact hR h _ (fun p hp' => D'.has p (picks_mem hp p hp')) D'.keep
end
end
section
noncomputable def hdNone : Kn → Bool
  | .base => true
  | .ret _ hd _ _ κ => match hd with
    | none => hdNone κ
    | some _ => false
theorem khand_none {h0 : Option Value} : ∀ {κ : Kn}, hdNone κ = true → khand h0 κ = h0
  | .base, _ => rfl
  | .ret _ none _ _ κ, h => by
    show Option.or none (khand h0 κ) = h0
    exact khand_none (κ := κ) h
  | .ret _ (some _) _ _ _, h => by cases h
/-- a run that is cut at a call that trees await -/
noncomputable def cutR (js : List Nat) (o : Out) : Option (Code × List (Addr × Obj)) := match o.kind with
  | .cut c κ own _ _ => match κ with
    | .ret _ _ _ _ _ => match hdNone κ && Nat.blt (kdep κ) 40 with
      | true => (picks own js).map fun l => (c, l)
      | false => none
    | .base => none
  | _ => none
theorem cutR_of {js : List Nat} {o : Out} {c : Code} {l : List (Addr × Obj)} (e : cutR js o = some (c, l)) :
    ∃ own m i c₁ hd k md κ, o.kind = .cut c (.ret c₁ hd k md κ) own m i ∧ hdNone (.ret c₁ hd k md κ) = true ∧ kdep (.ret c₁ hd k md κ) < 40 ∧ picks own js = some l := by
  unfold cutR at e
  split at e
  · rename_i c' κ own m i hk
    split at e
    · rename_i c₁ hd k md κ'
      split at e
      · rename_i hw
        rw [Bool.and_eq_true] at hw
        cases hp : picks own js with
        | none => rw [hp] at e; cases e
        | some l' => rw [hp] at e; cases e; exact ⟨own, m, i, c₁, hd, k, md, κ', hk, hw.1, Nat.le_of_ble_eq_true hw.2, hp⟩
      · cases e
    · cases e
  · cases e
/-- the run goes on behind the call -/
@[irreducible] noncomputable def res (o : Out) (r : Result) (V : Cfg) (stk : Stk) (adv : List Nat) (own : List (Addr × Obj)) : Out := match o.kind with
  | .cut _ κ _ _ _ => match κ with
    | .ret c _ k md κ' => ssim V stk 100000 adv c md κ' (k r) own 0 0 0 [] [] []
    | .base => bad 50
  | _ => bad 51
section
variable {V : Cfg} {w : World} {A : Around} {R : Result → Shared → Prop} {g : Array GenState} {d : Drawn} {os : OsState} {t₀ : Nat} {ini : List Addr} {h₀ : Heap} {o : Out}
theorem fine_ret {js : List Nat} {r : Result} {l : List (Addr × Obj)} (e : (chkL o, retV js o) = (chkR o, some (r, l)))
    (hR : ∀ h i, (∀ p ∈ l, h.get? p.1 = some p.2) → (∀ b o, h₀.get? b = some o → b ∉ ini → h.get? b = some o) → R r ⟨h, g, d, i, os⟩) : Fine V w A R g d os t₀ ini h₀ o := by
  refine ⟨chk_of (congrArg Prod.fst e), ?_⟩
  obtain ⟨own', m, i, hk, hp⟩ := retV_of (congrArg Prod.snd e)
  unfold Good
  rw [hk]
  intro h D'
  exact hR h _ (fun p hp' => D'.has p (picks_mem hp p hp')) D'.keep
theorem fine_cut {js : List Nat} {c : Code} {l : List (Addr × Obj)} (e : (chkL o, cutV js o) = (chkR o, some (c, l)))
    (hR : ∀ h i, (∀ p ∈ l, h.get? p.1 = some p.2) → (∀ b o, h₀.get? b = some o → b ∉ ini → h.get? b = some o) → codeAny (model V.prog w) A c R ⟨h, g, d, i, os⟩) : Fine V w A R g d os t₀ ini h₀ o := by
  refine ⟨chk_of (congrArg Prod.fst e), ?_⟩
  obtain ⟨own', m, i, hk, hp⟩ := cutV_of (congrArg Prod.snd e)
  unfold Good
  rw [hk]
  intro h D'
  exact hR h _ (fun p hp' => D'.has p (picks_mem hp p hp')) D'.keep
/-- the end of a raise, with nothing waiting -/
noncomputable def errV (js : List Nat) (o : Out) : Option (Value × Code × List (Addr × Obj)) := match o.kind with
  | .err e c _ .base own _ _ => (picks own js).map fun l => (e, c, l)
  | _ => none
theorem run_cut (O : V.Ok w A t₀ ini h₀) {own : List (Addr × Obj)} (D : Hp ini h₀ h₀ own 0) {adv : List Nat} {c c' : Code} {js : List Nat} {l : List (Addr × Obj)}
    (hrun : ∀ stk, (chkL (entered V stk adv c own), cutR js (entered V stk adv c own)) = (chkR (entered V stk adv c own), some (c', l)))
    (hnext : ∀ stk A' R' h i, A'.depth ≤ A.depth + 40 → A'.handled = A.handled → (∀ p ∈ l, h.get? p.1 = some p.2) → (∀ b o, h₀.get? b = some o → b ∉ ini → h.get? b = some o) →
      (∀ r h2 i2 V2 own2 ini2 adv2, V2.prog = V.prog → V2.Ok w A i2 ini2 h2 → Hp ini2 h2 h2 own2 0 → (∀ stk2, Fine V2 w A R g d os i2 ini2 h2 (res (entered V stk adv c own) r V2 stk2 adv2 own2)) → R' r ⟨h2, g, d, i2, os⟩) →
      codeAny (model V.prog w) A' c' R' ⟨h, g, d, i, os⟩) : codeAny (model V.prog w) A c R ⟨h₀, g, d, t₀, os⟩ := by
  refine enter_sound (κ := .base) (A₀ := A) (R₀ := R) (x := adv.headD 0) (adv := adv.tail) (ca := []) (cp := []) (cc := []) (fx := fun _ => (default, [])) (s := 0) (i := 0) O (ssim_sound O 100000) (fun stk => ssim_mono V stk 100000) D (fun stk _ => ?_)
  have e := hrun stk
  have hn := hnext stk
  unfold entered at e hn
  refine ⟨chk_of (congrArg Prod.fst e), ?_⟩
  obtain ⟨own', m, i, c₁, hd', k, md, κ', hk, hw1, hw2, hp⟩ := cutR_of (congrArg Prod.snd e)
  unfold Good
  rw [hk]
  intro h D'
  refine hn _ _ h _ ?_ ?_ (fun p hp' => D'.has p (picks_mem hp p hp')) D'.keep ?_
  · have := ar_depth A (.ret c₁ hd' k md κ')
    omega
  · rw [ar_hand]; exact khand_none hw1
  · intro r h2 i2 V2 own2 ini2 adv2 hpr O2 D2 F2
    show runS V.prog w (ar A κ') (endS V.prog w A R κ') c₁ md (k r) ⟨h2, g, d, i2, os⟩
    have F3 : ∀ stk2, Fine V2 w A R g d os i2 ini2 h2 (ssim V2 stk2 100000 adv2 c₁ md κ' (k r) own2 0 0 0 [] [] []) := fun stk2 => by
      have := F2 stk2
      unfold res at this
      rw [hk] at this
      exact this
    have z := ssim_sound O2 100000 adv2 c₁ md κ' (k r) own2 0 0 0 [] [] [] h2 (fun _ => (default, [])) (fun stk2 _ => F3 stk2) D2
    rw [hpr] at z
    exact z
end
end
local macro_rules | `(tactic| trivial) => `(tactic| (apply List.mem_cons_of_mem; trivial))
local macro_rules | `(tactic| trivial) => `(tactic| exact List.mem_cons_self ..)
section
noncomputable def advReadM : List Nat := [1079, 1062, 5, 5, 5, 5, 2, 5, 6, 5, 116, 119, 7, 7, 7, 7, 2, 6, 0, 7, 0, 0, 6, 0, 6, 0, 7, 0, 0, 0, 0, 0, 0, 7, 7, 7, 0, 0, 7, 0, 0, 0, 0, 7, 5, 5, 5, 1, 1184, 1184, 1182, 230, 228, 176, 174, 1, 1184, 1184, 1182, 230, 228, 176, 174, 1, 1184, 1184, 1182, 752, 1, 3, 752, 755, 9, 9, 2, 9, 1, 1184, 1184, 1182, 230, 228, 176, 174, 0, 1, 1184, 1184, 1182, 230, 228, 176, 174, 1, 1, 1184, 3, 5, 1, 1184, 1184, 1182, 230, 228, 176, 174, 0, 1, 1184, 1184, 1182, 230, 228, 176, 174, 1, 1, 1184, 3, 5, 5, 6, 0, 5, 1, 1184, 1184, 1182, 230, 228, 176, 174, 0, 1, 1184, 1184, 1182, 230, 228, 176, 174, 1, 1, 1184, 3, 4, 5, 5, 5, 5, 6, 5, 0, 0, 5, 5, 8, 5, 10, 5, 5, 12, 5, 5, 5, 5, 1, 1184, 1184, 1182, 230, 228, 176, 174, 0, 1, 1184, 0, 1, 1184, 1, 1184, 1184, 1182, 230, 228, 176, 174, 1, 1184, 3, 3, 3, 5, 1, 1184, 1184, 1182, 230, 228, 176, 174, 0, 1, 1184, 1184, 1182, 230, 228, 176, 174, 1, 1, 1184, 3, 5, 5, 14]
noncomputable def advReadL : List Nat := [1079, 1062, 5, 5, 5, 5, 2, 5, 6, 5, 116, 119, 7, 7, 7, 7, 2, 6, 0, 7, 0, 0, 6, 0, 6, 0, 7, 0, 0, 0, 0, 0, 0, 7, 7, 7, 0, 0, 7, 0, 0, 0, 0, 7, 5, 5, 5, 1, 1184, 1184, 1182, 230, 228, 176, 174, 1, 1184, 1184, 1182, 230, 228, 176, 174, 1, 1184, 1184, 1182, 752, 1, 3, 752, 755, 9, 9, 2, 9, 1, 1184, 1184, 1182, 230, 228, 176, 174, 0, 1, 1184, 1184, 1182, 230, 228, 176, 174, 1, 1, 1184, 3, 5, 1, 1184, 1184, 1182, 230, 228, 176, 174, 0, 1, 1184, 1184, 1182, 230, 228, 176, 174, 1, 1, 1184, 3, 5, 5, 6, 0, 5, 1, 1184, 1184, 1182, 230, 228, 176, 174, 0, 1, 1184, 1184, 1182, 230, 228, 176, 174, 1, 1, 1184, 3, 4, 5, 5, 5, 5, 6, 5, 0, 0, 5, 5, 8, 5, 10, 5, 5, 1, 1184, 1184, 1182, 230, 228, 176, 174, 0, 1, 1184, 0, 1, 1184, 1, 1184, 1184, 1182, 230, 228, 176, 174, 1, 1184, 3, 3, 3, 5, 1, 1184, 1184, 1182, 230, 228, 176, 174, 0, 1, 1184, 1184, 1182, 230, 228, 176, 174, 1, 1, 1184, 3, 5, 5, 12]
noncomputable def advReadE : List Nat := [1079, 1062, 5, 5, 5, 5, 2, 5, 6, 5, 116, 119, 7, 7, 7, 7, 2, 6, 0, 7, 0, 0, 6, 0, 6, 0, 7, 0, 0, 0, 0, 0, 0, 7, 7, 7, 0, 0, 7, 0, 0, 0, 0, 7, 5, 5, 5, 1, 1184, 1184, 1182, 230, 228, 176, 174, 1, 1184, 1184, 1182, 230, 228, 176, 174, 1, 1184, 1184, 1182, 752, 1, 3, 752, 755, 9, 9, 2, 9, 1, 1184, 1184, 1182, 230, 228, 176, 174, 0, 1, 1184, 1184, 1182, 230, 228, 176, 174, 1, 1, 1184, 3, 5, 1, 1184, 1184, 1182, 230, 228, 176, 174, 0, 1, 1184, 1184, 1182, 230, 228, 176, 174, 1, 1, 1184, 3, 5, 5, 6, 0, 5, 1, 1184, 1184, 1182, 230, 228, 176, 174, 0, 1, 1184, 1184, 1182, 230, 228, 176, 174, 1, 1, 1184, 3, 4, 5, 5, 5, 5, 6]
noncomputable abbrev ioD (P : Params) (t1 t2 t3 t4 t5 t6 n : Nat) (buf : Str) (k : Int) : Obj := dictOf [ent P "_StringIO__newline" t1 (.str (Str.ofString "\n") t2), ent P "_StringIO__buf" t3 (.str buf t4), ent P "_StringIO__pos" t5 (.int k t6)] n
noncomputable abbrev readC (io : Addr) (t0 : Nat) : Code := .call (.ref 538) ⟨[.ref io, .int 1 t0], []⟩
noncomputable abbrev readO (P : Params) (io di : Addr) (t1 t2 t3 t4 t5 t6 n : Nat) (buf : Str) (k : Int) : List (Addr × Obj) := [(io, instObj 592 di), (di, ioD P t1 t2 t3 t4 t5 t6 n buf k)]
noncomputable abbrev sl (a : Int) (t : Nat) (b : Int) (u : Nat) : Obj := { cls := .type "slice", data := .fields #[.int a t, .int b u, .none] }
noncomputable abbrev spM (rho tau : Nat → Nat) (t0 t4 t6 : Nat) (buf : Str) (k : Int) (ch tk dt : Nat) : List Sp := [
  ⟨bi "len" [.str buf t4], [], .int buf.length (tau 16), 15, 2⟩,
  ⟨bi "int.__ge__" [.int k t6, .int buf.length (tau 16)], [], .bool false, 18, 0⟩,
  ⟨bi "int.__add__" [.int k t6, .int 1 t0], [], .int (k + 1) (tau 19), 19, 1⟩,
  ⟨bi "int.__lt__" [.int (k + 1) (tau 19), .int buf.length (tau 16)], [], .bool true, 20, 0⟩,
  ⟨bi "int.__add__" [.int k t6, .int 1 t0], [], .int (k + 1) (tau 20), 20, 1⟩,
  ⟨bi "str.__getitem__" [.str buf t4, .ref (rho 3)], [(5, rho 3, sl k t6 (k + 1) (tau 20))], .str ⟨#[ch]⟩ tk, 25, dt⟩]
noncomputable abbrev spL (rho tau : Nat → Nat) (t0 t4 t6 : Nat) (buf : Str) (k : Int) (ch tk dt : Nat) : List Sp := [
  ⟨bi "len" [.str buf t4], [], .int buf.length (tau 16), 15, 2⟩,
  ⟨bi "int.__ge__" [.int k t6, .int buf.length (tau 16)], [], .bool false, 18, 0⟩,
  ⟨bi "int.__add__" [.int k t6, .int 1 t0], [], .int (k + 1) (tau 19), 19, 1⟩,
  ⟨bi "int.__lt__" [.int (k + 1) (tau 19), .int buf.length (tau 16)], [], .bool false, 20, 0⟩,
  ⟨bi "str.__getitem__" [.str buf t4, .ref (rho 3)], [(5, rho 3, sl k t6 buf.length (tau 16))], .str ⟨#[ch]⟩ tk, 23, dt⟩]
noncomputable abbrev spE (tau : Nat → Nat) (t4 t6 : Nat) (buf : Str) (k : Int) : List Sp := [
  ⟨bi "len" [.str buf t4], [], .int buf.length (tau 16), 15, 2⟩,
  ⟨bi "int.__ge__" [.int k t6, .int buf.length (tau 16)], [], .bool true, 18, 0⟩]
theorem runM_is (P : Params) (b c : Bool) (rho tau : Nat → Nat) (stk : Stk) (h0 : Option Value) (io di : Addr) (t0 t1 t2 t3 t4 t5 t6 n : Nat) (buf : Str) (k : Int) (ch tk dt : Nat) :
    let o := entered (cfg (fP P b c) rho tau h0 (spM rho tau t0 t4 t6 buf k ch tk dt)) stk advReadM (readC io t0) (readO P io di t1 t2 t3 t4 t5 t6 n buf k)
    (chkL o, retV [0, 1] o) = (chkR o, some (.ok (.ret (.str ⟨#[ch]⟩ tk)), [(io, instObj 592 di), (di, ioD P t1 t2 t3 t4 t5 (tau 20) n buf (k + 1))])) := by
  cases b <;> kernel_rfl
theorem runL_is (P : Params) (b c : Bool) (rho tau : Nat → Nat) (stk : Stk) (h0 : Option Value) (io di : Addr) (t0 t1 t2 t3 t4 t5 t6 n : Nat) (buf : Str) (k : Int) (ch tk dt : Nat) :
    let o := entered (cfg (fP P b c) rho tau h0 (spL rho tau t0 t4 t6 buf k ch tk dt)) stk advReadL (readC io t0) (readO P io di t1 t2 t3 t4 t5 t6 n buf k)
    (chkL o, retV [0, 1] o) = (chkR o, some (.ok (.ret (.str ⟨#[ch]⟩ tk)), [(io, instObj 592 di), (di, ioD P t1 t2 t3 t4 t5 (tau 16) n buf buf.length)])) := by
  cases b <;> kernel_rfl
theorem runE_is (P : Params) (b c : Bool) (rho tau : Nat → Nat) (stk : Stk) (h0 : Option Value) (io di : Addr) (t0 t1 t2 t3 t4 t5 t6 n : Nat) (buf : Str) (k : Int) :
    let o := entered (cfg (fP P b c) rho tau h0 (spE tau t4 t6 buf k)) stk advReadE (readC io t0) (readO P io di t1 t2 t3 t4 t5 t6 n buf k)
    (chkL o, retV [0, 1] o) = (chkR o, some (.ok (.ret (.str ⟨#[]⟩ (tau 18))), [(io, instObj 592 di), (di, ioD P t1 t2 t3 t4 t5 t6 n buf k)])) := by
  cases b <;> kernel_rfl
section
variable {w : World} {A : Around} {R : Result → Shared → Prop} {s : Shared} {io di : Addr} {t0 t1 t2 t3 t4 t5 t6 n k : Nat} {buf : Str}
theorem readHp {h₀ : Heap} (hio : h₀.get? io = some (instObj 592 di)) (hdi : h₀.get? di = some (ioD w.params t1 t2 t3 t4 t5 t6 n buf k)) : Hp [io, di] h₀ h₀ (readO w.params io di t1 t2 t3 t4 t5 t6 n buf k) 0 := by
  have hne : io ≠ di := by
    rintro rfl
    rw [hio] at hdi
    cases hdi
  refine ⟨rfl, ?_, ?_, ?_, fun b o e _ => e⟩
  · intro p hp
    replace hp := memL hp
    rcases hp with rfl | rfl
    · exact hio
    · exact hdi
  · simp [hne]
  · intro p hp
    replace hp := memL hp
    rcases hp with rfl | rfl <;> exact .inl (by first | trivial | simp)
/-- what a read leaves -/
noncomputable def ReadBack (w : World) (io di : Addr) (t1 t2 t3 t4 t5 n k : Nat) (buf : Str) (h h' : Heap) : Prop :=
  (∃ t6, h'.get? di = some (ioD w.params t1 t2 t3 t4 t5 t6 n buf k)) ∧ ∀ b o, h.get? b = some o → b ≠ di → h'.get? b = some o
theorem readBack {h₀ h : Heap} {t : Nat} {k' : Int} {j : Nat} (hk : k' = j) (hio : h₀.get? io = some (instObj 592 di))
    (hl : ∀ p ∈ [(io, instObj 592 di), (di, ioD w.params t1 t2 t3 t4 t5 t n buf k')], h.get? p.1 = some p.2) (hkp : ∀ b o, h₀.get? b = some o → b ∉ [io, di] → h.get? b = some o) :
    ReadBack w io di t1 t2 t3 t4 t5 n j buf h₀ h := by
  subst hk
  refine ⟨⟨t, hl _ (List.mem_cons_of_mem _ (List.mem_cons_self ..))⟩, fun b o e hb => ?_⟩
  by_cases hbi : b = io
  · subst hbi
    rw [hio] at e
    cases e
    exact hl _ (List.mem_cons_self ..)
  · exact hkp b o e (by simp [hbi, hb])
theorem read_sign (G : Gr w s.heap) (hA : A.depth + 100 ≤ recursionLimit) (hi1 : 781 ≤ io) (hi2 : 781 ≤ di) (hio : s.heap.get? io = some (instObj 592 di)) (hdi : s.heap.get? di = some (ioD w.params t1 t2 t3 t4 t5 t6 n buf k))
    (hlen : buf.length < 1000) {ch : Nat} (hch : buf.cps[k]? = some ch)
    (hR : ∀ h tk i, ReadBack w io di t1 t2 t3 t4 t5 n (k + 1) buf s.heap h → R (.ok (.ret (.str ⟨#[ch]⟩ tk))) ⟨h, s.gens, s.drawn, i, s.os⟩) :
    codeAny (model theProg w) A (readC io t0) R s := by
  obtain ⟨h₀, g, d, t₀, os⟩ := s
  have hklt : k < buf.length := (Array.getElem?_eq_some_iff.mp hch).1
  have hsz : buf.length ≤ sizeLine := by rw [sizeLine_eq]; omega
  have hini : ∀ a ∈ [io, di], 781 ≤ a := by intro a ha; replace ha := memL ha; rcases ha with rfl | rfl <;> assumption
  have hb := fP_self w.params
  generalize w.params.followText "special-get-raises" = b at hb
  generalize w.params.followText "comprehension-iter-twice" = c at hb
  by_cases hlast : k + 1 < buf.length
  · -- the middle
    have O := mkOk (A := A) (t₀ := t₀) (sps := spM (fun m => h₀.objs.size + m) (fun i => t₀ + i) t0 t4 t6 buf k ch (t₀ + 25) 1) G hb hini hA (by
      intro sp hm
      replace hm := memL hm
      rcases hm with rfl | rfl | rfl | rfl | rfl | rfl <;> intro A s hn ht
      · exact ans_len _ _ _ hlen (by rw [ht]; rfl)
      · exact ans_ge _ _ _ _ _ (decide_eq_false (by omega))
      · exact ans_add _ _ _ _ _ ht
      · exact ans_lt _ _ _ _ _ (decide_eq_true (by omega))
      · exact ans_add _ _ _ _ _ ht
      · have := ans_sign (prog := theProg) (w := w) (A := A) (s := s) buf t4 (h₀.objs.size + 3) k t6 (t₀ + 20) ch hsz (by omega) hch ⟨_, hn _ (List.mem_singleton.mpr rfl), rfl, rfl⟩
        rw [ht] at this
        exact this)
    refine run_ret O (readHp hio hdi) (fun stk => runM_is w.params b c _ _ stk _ io di t0 t1 t2 t3 t4 t5 t6 n buf k ch _ _) fun h i hl hkp => ?_
    exact hR h _ i (readBack (by omega) hio hl hkp)
  · have hk1 : buf.length = k + 1 := by omega
    by_cases h1 : buf.length = 1
    · have O := mkOk (A := A) (t₀ := t₀) (sps := spL (fun m => h₀.objs.size + m) (fun i => t₀ + i) t0 t4 t6 buf k ch t4 0) G hb hini hA (by
        intro sp hm
        replace hm := memL hm
        rcases hm with rfl | rfl | rfl | rfl | rfl <;> intro A s hn ht
        · exact ans_len _ _ _ hlen (by rw [ht]; rfl)
        · exact ans_ge _ _ _ _ _ (decide_eq_false (by omega))
        · exact ans_add _ _ _ _ _ ht
        · exact ans_lt _ _ _ _ _ (decide_eq_false (by omega))
        · refine ans_whole (prog := theProg) (w := w) (A := A) (s := s) buf t4 (h₀.objs.size + 3) k t6 (t₀ + 16) ch hsz h1 hch ⟨_, hn _ (List.mem_singleton.mpr rfl), rfl, ?_⟩
          simp only [hk1]; rfl)
      refine run_ret O (readHp hio hdi) (fun stk => runL_is w.params b c _ _ stk _ io di t0 t1 t2 t3 t4 t5 t6 n buf k ch _ _) fun h i hl hkp => ?_
      exact hR h _ i (readBack (by omega) hio hl hkp)
    · have O := mkOk (A := A) (t₀ := t₀) (sps := spL (fun m => h₀.objs.size + m) (fun i => t₀ + i) t0 t4 t6 buf k ch (t₀ + 23) 1) G hb hini hA (by
        intro sp hm
        replace hm := memL hm
        rcases hm with rfl | rfl | rfl | rfl | rfl <;> intro A s hn ht
        · exact ans_len _ _ _ hlen (by rw [ht]; rfl)
        · exact ans_ge _ _ _ _ _ (decide_eq_false (by omega))
        · exact ans_add _ _ _ _ _ ht
        · exact ans_lt _ _ _ _ _ (decide_eq_false (by omega))
        · have := ans_sign (prog := theProg) (w := w) (A := A) (s := s) buf t4 (h₀.objs.size + 3) k t6 (t₀ + 16) ch hsz h1 hch ⟨_, hn _ (List.mem_singleton.mpr rfl), rfl, by simp only [hk1]; rfl⟩
          rw [ht] at this
          exact this)
      refine run_ret O (readHp hio hdi) (fun stk => runL_is w.params b c _ _ stk _ io di t0 t1 t2 t3 t4 t5 t6 n buf k ch _ _) fun h i hl hkp => ?_
      exact hR h _ i (readBack (by omega) hio hl hkp)
theorem read_end (G : Gr w s.heap) (hA : A.depth + 100 ≤ recursionLimit) (hi1 : 781 ≤ io) (hi2 : 781 ≤ di) (hio : s.heap.get? io = some (instObj 592 di)) (hdi : s.heap.get? di = some (ioD w.params t1 t2 t3 t4 t5 t6 n buf k))
    (hlen : buf.length < 1000) (hk : buf.length = k)
    (hR : ∀ h tk i, ReadBack w io di t1 t2 t3 t4 t5 n k buf s.heap h → R (.ok (.ret (.str ⟨#[]⟩ tk))) ⟨h, s.gens, s.drawn, i, s.os⟩) :
    codeAny (model theProg w) A (readC io t0) R s := by
  obtain ⟨h₀, g, d, t₀, os⟩ := s
  have hini : ∀ a ∈ [io, di], 781 ≤ a := by intro a ha; replace ha := memL ha; rcases ha with rfl | rfl <;> assumption
  have hb := fP_self w.params
  generalize w.params.followText "special-get-raises" = b at hb
  generalize w.params.followText "comprehension-iter-twice" = c at hb
  have O := mkOk (A := A) (t₀ := t₀) (sps := spE (fun i => t₀ + i) t4 t6 buf k) G hb hini hA (by
      intro sp hm
      replace hm := memL hm
      rcases hm with rfl | rfl <;> intro A s hn ht
      · exact ans_len _ _ _ hlen (by rw [ht]; rfl)
      · exact ans_ge _ _ _ _ _ (decide_eq_true (by omega)))
  refine run_ret O (readHp hio hdi) (fun stk => runE_is w.params b c _ _ stk _ io di t0 t1 t2 t3 t4 t5 t6 n buf k) fun h i hl hkp => ?_
  exact hR h _ i (readBack rfl hio hl hkp)
end
end
section
noncomputable abbrev tupAC (a b : Nat) : Obj := { cls := .type "tuple", data := .seq #[.str ⟨#[97]⟩ a, .str ⟨#[99]⟩ b] 0 }
structure LX where
  lx : Addr
  d : Addr
  io : Addr
  di : Addr
  pb : Addr
  fs : Addr
  F : Addr
  tk : Nat → Nat
  nd : Nat
  ni : Nat
  buf : Str
noncomputable def wordchars : Str := Str.ofString "abcdfeghijklmnopqrstuvwxyzABCDEFGHIJKLMNOPQRSTUVWXYZ0123456789_ßàáâãäåæçèéêëìíîïðñòóôõöøùúûüýþÿÀÁÂÃÄÅÆÇÈÉÊËÌÍÎÏÐÑÒÓÔÕÖØÙÚÛÜÝÞ"
noncomputable abbrev lexD (P : Params) (L : LX) (st : Value) (ln : Int) (tl : Nat) (tok : Str) (tt : Nat) : Obj := dictOf [
  ent P "instream" (L.tk 1) (.ref L.io), ent P "infile" (L.tk 2) .none, ent P "posix" (L.tk 3) (.bool true), ent P "eof" (L.tk 4) .none, ent P "commenters" (L.tk 5) (.str ⟨#[]⟩ (L.tk 6)), ent P "wordchars" (L.tk 7) (.str wordchars (L.tk 8)),
  ent P "whitespace" (L.tk 9) (.str ⟨#[32, 9, 13, 10]⟩ (L.tk 10)), ent P "whitespace_split" (L.tk 11) (.bool true), ent P "quotes" (L.tk 12) (.str ⟨#[39, 34]⟩ (L.tk 13)), ent P "escape" (L.tk 14) (.str ⟨#[92]⟩ (L.tk 15)),
  ent P "escapedquotes" (L.tk 16) (.str ⟨#[34]⟩ (L.tk 17)), ent P "state" (L.tk 18) st, ent P "pushback" (L.tk 19) (.ref L.pb), ent P "lineno" (L.tk 20) (.int ln tl), ent P "debug" (L.tk 22) (.int 0 (L.tk 23)),
  ent P "token" (L.tk 24) (.str tok tt), ent P "filestack" (L.tk 26) (.ref L.fs), ent P "source" (L.tk 27) .none, ent P "_punctuation_chars" (L.tk 28) (.str ⟨#[]⟩ (L.tk 29))] L.nd
noncomputable abbrev ioDL (P : Params) (L : LX) (k t6 : Nat) : Obj := ioD P (L.tk 30) (L.tk 31) (L.tk 32) (L.tk 33) (L.tk 34) t6 L.ni L.buf k
noncomputable abbrev frame3 (P : Params) (L : LX) (es : Str) (fe : Nat) : Obj := { cls := .type "frame", data := .dict #[ent P "self" (L.tk 60) (.ref L.lx), ent P "quoted" (L.tk 61) (.bool false), ent P "escapedstate" (L.tk 62) (.str es fe)] 3 }
noncomputable abbrev frame4 (P : Params) (L : LX) (f4 : Nat) (es : Str) (fe : Nat) (nc : Str) (fn : Nat) : Obj := { cls := .type "frame", data := .dict #[ent P "self" (L.tk 60) (.ref L.lx), ent P "quoted" (L.tk 61) (.bool false), ent P "escapedstate" (L.tk 62) (.str es fe), ent P "nextchar" f4 (.str nc fn)] 4 }
noncomputable abbrev frame4q (P : Params) (L : LX) (f4 : Nat) (es : Str) (fe : Nat) (nc : Str) (fn : Nat) : Obj := { cls := .type "frame", data := .dict #[ent P "self" (L.tk 60) (.ref L.lx), ent P "quoted" (L.tk 61) (.bool false), ent P "escapedstate" (L.tk 62) (.str es fe), entQ P "nextchar" f4 (.str nc fn)] 4 }
theorem frame4q_eq (P : Params) (L : LX) (f4 : Nat) (es : Str) (fe : Nat) (nc : Str) (fn : Nat) : frame4q P L f4 es fe nc fn = frame4 P L f4 es fe nc fn := by
  unfold frame4q
  rw [entQ_eq P "nextchar" f4 _ (by decide +kernel)]
noncomputable abbrev ownT (P : Params) (L : LX) (st : Value) (ln : Int) (tl : Nat) (tok : Str) (tt : Nat) (k t6 : Nat) (fr : Obj) : List (Addr × Obj) := [(L.lx, instObj 727 L.d), (L.d, lexD P L st ln tl tok tt), (L.io, instObj 592 L.di), (L.di, ioDL P L k t6), (L.F, fr)]
noncomputable abbrev ownU (P : Params) (L : LX) (st : Value) (ln : Int) (tl : Nat) (tok : Str) (tt : Nat) (fr : Obj) : List (Addr × Obj) := [(L.lx, instObj 727 L.d), (L.d, lexD P L st ln tl tok tt), (L.F, fr)]
noncomputable def whileOf : List Stmt → Option (Expr × List Stmt × List Stmt)
  | [] => none
  | st :: l => match st with
    | .While t b o _ => some (t, b, o)
    | _ => whileOf l
noncomputable def envRT (fd : FuncData) (F : Addr) : Env := { scope := fd.scope, locals := F, globals := fd.globals, cells := [], qual := fd.qualname ++ ".<locals>.", func := some 695, code := fd.code, frame := some F, builtins := fd.builtins }
/-- the loop of read_token, in the frame F -/
@[irreducible] noncomputable def WL (P : Params) (F : Addr) : Code := match (ktb P).get 695 with
  | some o => match o.data with
    | .func fd => match fd.body with
      | .stmts body => match whileOf body with
        | some x => .whileLoop x.1 x.2.1 x.2.2 (envRT fd F)
        | none => .body [] default
      | _ => .body [] default
    | _ => .body [] default
  | none => .body [] default
noncomputable def advT : List Nat := [2, 9, 1, 1454, 1454, 1452, 0, 1, 1454, 1454, 1452, 1318, 1318, 1454, 1454, 1452, 0, 1318, 0, 1318, 1319, 11, 11, 2, 11, 1, 1454, 1454, 1452, 0, 1, 1454, 1454, 1452, 1, 1, 1454, 3, 0, 0, 0, 9, 1, 1454, 1454, 1452, 0, 1, 1454, 1454, 1452, 1, 1, 1454, 3, 5, 1184, 1184, 1182, 230, 228, 176, 174, 5, 1184, 1184, 1182, 230, 228, 176, 174, 5, 1184, 1184, 1182, 1076, 5, 7, 1076, 1]
noncomputable def advS3E : List Nat := [5, 5, 5, 0, 0, 5, 1, 1454, 1454, 1452, 0, 1, 1454, 1454, 1452, 1, 1, 1454, 3, 0, 0, 5, 1, 1454, 1454, 1452, 0, 1, 1454, 1454, 1452, 1, 1, 1454, 3, 5, 1, 1454, 1454, 1452, 0, 1, 1454, 1454, 1452, 1, 1, 1454, 3, 0, 0, 5, 0, 0, 0, 5, 1, 1454, 1454, 1452, 0, 1, 1454, 0, 1, 1454, 1, 1454, 1454, 1452, 1, 1454, 3, 3, 3]
noncomputable abbrev spS3E (P : Params) (rho2 tau2 : Nat → Nat) (ln : Int) (ts tl tt tkc tkn dt : Nat) (c0 : Nat) (rest l : List Nat) : List Sp := []
noncomputable def advS3R : List Nat := [5, 5, 5, 0, 0, 5, 1, 1454, 1454, 1452, 0, 1, 1454, 1454, 1452, 1, 1, 1454, 3, 0, 0, 5, 1, 1454, 1454, 1452, 0, 1, 1454, 1454, 1452, 1, 1, 1454, 3, 5, 1, 1454, 1454, 1452, 0, 1, 1454, 1454, 1452, 1, 1, 1454, 3, 0, 0, 5, 0, 0, 0, 5, 5, 1, 1454, 1454, 1452, 0, 1, 1454, 1454, 1452, 1, 1, 1454, 3, 0, 0, 5, 1, 1454, 1454, 1452, 0, 1, 1454, 1454, 1452, 1, 1, 1454, 3, 0, 0, 5, 1, 1454, 1454, 1452, 0, 1, 1454, 1454, 1452, 1, 1, 1454, 3, 0, 0, 0, 5, 1, 1454, 1454, 1452, 0, 1, 1454, 1454, 1452, 1, 1, 1454, 3, 5, 1]
noncomputable abbrev spS3R (P : Params) (rho2 tau2 : Nat → Nat) (ln : Int) (ts tl tt tkc tkn dt : Nat) (c0 : Nat) (rest l : List Nat) : List Sp := []
noncomputable def advS3L : List Nat := [5, 5, 5, 0, 0, 5, 1, 1454, 1454, 1452, 0, 1, 1454, 1454, 1452, 1, 1, 1454, 3, 4, 1, 1454, 1454, 1452, 0, 1, 1454, 0, 1, 1454, 1, 1454, 1454, 1452, 1, 1454, 3, 3, 3, 5, 1, 1454, 1454, 1452, 0, 1, 1454, 1454, 1452, 1, 1, 1454, 3, 0, 0, 5, 1, 1454, 1454, 1452, 0, 1, 1454, 1454, 1452, 1, 1, 1454, 3, 5, 1, 1454, 1454, 1452, 0, 1, 1454, 1454, 1452, 1, 1, 1454, 3, 0, 0, 5, 0, 0, 0, 5, 5, 1, 1454, 1454, 1452, 0, 1, 1454, 1454, 1452, 1, 1, 1454, 3, 0, 0, 5, 1, 1454, 1454, 1452, 0, 1, 1454, 1454, 1452, 1, 1, 1454, 3, 0, 0, 5, 1, 1454, 1454, 1452, 0, 1, 1454, 1454, 1452, 1, 1, 1454, 3, 0, 0, 0, 5, 1, 1454, 1454, 1452, 0, 1, 1454, 1454, 1452, 1, 1, 1454, 3, 5, 1]
noncomputable abbrev spS3L (P : Params) (rho2 tau2 : Nat → Nat) (ln : Int) (ts tl tt tkc tkn dt : Nat) (c0 : Nat) (rest l : List Nat) : List Sp := [⟨bi "int.__add__" [.int ln tl, .int 1 (tau2 3)], [], .int (ln + 1) (tau2 4), 4, 1⟩]
noncomputable def advS3W : List Nat := [5, 5, 5, 0, 0, 5, 1, 1454, 1454, 1452, 0, 1, 1454, 1454, 1452, 1, 1, 1454, 3, 0, 0, 5, 1, 1454, 1454, 1452, 0, 1, 1454, 1454, 1452, 1, 1, 1454, 3, 5, 1, 1454, 1454, 1452, 0, 1, 1454, 1454, 1452, 1, 1, 1454, 3, 0, 0, 5, 0, 0, 0, 5, 5, 1, 1454, 1454, 1452, 0, 1, 1454, 1454, 1452, 1, 1, 1454, 3, 0, 0, 5, 1, 1454, 1454, 1452, 0, 1, 1454, 1454, 1452, 1, 1, 1454, 3, 0, 0, 5, 1, 1454, 1454, 1452, 0, 1, 1454, 1454, 1452, 1, 1, 1454, 3, 0, 0, 0, 5, 1, 1454, 1454, 1452, 0, 1, 1454, 1454, 1452, 1, 1, 1454, 3, 5, 1]
noncomputable abbrev spS3W (P : Params) (rho2 tau2 : Nat → Nat) (ln : Int) (ts tl tt tkc tkn dt : Nat) (c0 : Nat) (rest l : List Nat) : List Sp := []
noncomputable def advS3K : List Nat := [5, 5, 5, 0, 0, 5, 1, 1454, 1454, 1452, 0, 1, 1454, 1454, 1452, 1, 1, 1454, 3, 0, 0, 5, 1, 1454, 1454, 1452, 0, 1, 1454, 1454, 1452, 1, 1, 1454, 3, 5, 1, 1454, 1454, 1452, 0, 1, 1454, 1454, 1452, 1, 1, 1454, 3, 0, 0, 5, 0, 0, 0, 5, 5, 1, 1454, 1454, 1452, 0, 1, 1454, 1454, 1452, 1, 1, 1454, 3, 0, 0, 5, 5, 1, 1454, 1454, 1452, 0, 1, 1454, 1454, 1452, 1, 1, 1454, 3, 0, 0, 5, 1, 1454, 1454, 1452, 0, 1, 1454, 1454, 1452, 1, 1, 1454, 3, 5, 5, 1, 1454, 1454, 1452, 0, 1, 1454, 1454, 1452, 1, 1, 1454, 3, 0, 0, 5, 5, 5, 5, 1, 1454, 1454, 1452, 0, 1, 1454, 0, 1, 1454, 1, 1454, 1454, 1452, 1, 1454, 3, 3, 3, 1]
noncomputable abbrev spS3K (P : Params) (rho2 tau2 : Nat → Nat) (ln : Int) (ts tl tt tkc tkn dt : Nat) (c0 : Nat) (rest l : List Nat) : List Sp := []
noncomputable def advS3a : List Nat := [5, 5, 5, 0, 0, 5, 1, 1454, 1454, 1452, 0, 1, 1454, 1454, 1452, 1, 1, 1454, 3, 0, 0, 5, 1, 1454, 1454, 1452, 0, 1, 1454, 1454, 1452, 1, 1, 1454, 3, 5, 1, 1454, 1454, 1452, 0, 1, 1454, 1454, 1452, 1, 1, 1454, 3, 0, 0, 5, 0, 0, 0, 5, 5, 1, 1454, 1454, 1452, 0, 1, 1454, 1454, 1452, 1, 1, 1454, 3, 0, 0, 5, 5, 1, 1454, 1454, 1452, 0, 1, 1454, 1454, 1452, 1, 1, 1454, 3, 0, 0, 5, 1, 1454, 1454, 1452, 0, 1, 1454, 1454, 1452, 1, 1, 1454, 3, 5, 5, 1, 1454, 1454, 1452, 0, 1, 1454, 1454, 1452, 1, 1, 1454, 3, 0, 0, 5, 5, 1, 1454, 1454, 1452, 0, 1, 1454, 1454, 1452, 1, 1, 1454, 3, 0, 0, 5, 5, 1, 1454, 1454, 1452, 0, 1, 1454, 0, 1, 1454, 1, 1454, 1454, 1452, 1, 1454, 3, 3, 3, 5, 1, 1454, 1454, 1452, 0, 1, 1454, 0, 1, 1454, 1, 1454, 1454, 1452, 1, 1454, 3, 3, 3, 1]
noncomputable abbrev spS3a (P : Params) (rho2 tau2 : Nat → Nat) (ln : Int) (ts tl tt tkc tkn dt : Nat) (c0 : Nat) (rest l : List Nat) : List Sp := []
noncomputable def advS3D : List Nat := [5, 5, 5, 0, 0, 5, 1, 1454, 1454, 1452, 0, 1, 1454, 1454, 1452, 1, 1, 1454, 3, 0, 0, 5, 1, 1454, 1454, 1452, 0, 1, 1454, 1454, 1452, 1, 1, 1454, 3, 5, 1, 1454, 1454, 1452, 0, 1, 1454, 1454, 1452, 1, 1, 1454, 3, 0, 0, 5, 0, 0, 0, 5, 5, 1, 1454, 1454, 1452, 0, 1, 1454, 1454, 1452, 1, 1, 1454, 3, 0, 0, 5, 5, 1, 1454, 1454, 1452, 0, 1, 1454, 1454, 1452, 1, 1, 1454, 3, 0, 0, 5, 1, 1454, 1454, 1452, 0, 1, 1454, 1454, 1452, 1, 1, 1454, 3, 5, 5, 1, 1454, 1454, 1452, 0, 1, 1454, 1454, 1452, 1, 1, 1454, 3, 0, 0, 5, 5, 1, 1454, 1454, 1452, 0, 1, 1454, 1454, 1452, 1, 1, 1454, 3, 0, 0, 5, 5, 1, 1454, 1454, 1452, 0, 1, 1454, 1454, 1452, 1318, 1318, 1454, 1454, 1452, 0, 1318, 0, 1318, 1319, 7, 7, 2, 7, 1, 1454, 1454, 1452, 0, 1, 1454, 1454, 1452, 1, 1, 1454, 3, 0, 0, 5, 5, 1, 1454, 1454, 1452, 0, 1, 1454, 1454, 1452, 1, 1, 1454, 3, 0, 0, 5, 1, 1454, 1454, 1452, 0, 1, 1454, 1454, 1452, 1, 1, 1454, 3, 5, 5, 1, 1454, 1454, 1452, 0, 1, 1454, 0, 1, 1454, 1, 1454, 1454, 1452, 1, 1454, 3, 3, 3, 5, 1, 1454, 1454, 1452, 0, 1, 1454, 0, 1, 1454, 1, 1454, 1454, 1452, 1, 1454, 3, 3, 3, 1]
noncomputable abbrev spS3D (P : Params) (rho2 tau2 : Nat → Nat) (ln : Int) (ts tl tt tkc tkn dt : Nat) (c0 : Nat) (rest l : List Nat) : List Sp := []
noncomputable def advN3E : List Nat := [5, 5, 5, 0, 0, 5, 1, 1454, 1454, 1452, 0, 1, 1454, 1454, 1452, 1, 1, 1454, 3, 0, 0, 5, 1, 1454, 1454, 1452, 0, 1, 1454, 1454, 1452, 1, 1, 1454, 3, 5, 1, 1454, 1454, 1452, 0, 1, 1454, 0, 1, 1454, 1, 1454, 1454, 1452, 1, 1454, 3, 3, 3]
noncomputable abbrev spN3E (P : Params) (rho2 tau2 : Nat → Nat) (ln : Int) (ts tl tt tkc tkn dt : Nat) (c0 : Nat) (rest l : List Nat) : List Sp := []
noncomputable def advS4E : List Nat := [5, 5, 5, 0, 0, 5, 1, 1454, 1454, 1452, 0, 1, 1454, 1454, 1452, 1, 1, 1454, 3, 0, 0, 5, 1, 1454, 1454, 1452, 0, 1, 1454, 1454, 1452, 1, 1, 1454, 3, 5, 1, 1454, 1454, 1452, 0, 1, 1454, 1454, 1452, 1, 1, 1454, 3, 0, 0, 5, 0, 0, 0, 5, 1, 1454, 1454, 1452, 0, 1, 1454, 0, 1, 1454, 1, 1454, 1454, 1452, 1, 1454, 3, 3, 3]
noncomputable abbrev spS4E (P : Params) (rho2 tau2 : Nat → Nat) (ln : Int) (ts tl tt tkc tkn dt : Nat) (c0 : Nat) (rest l : List Nat) : List Sp := []
noncomputable def advS4R : List Nat := [5, 5, 5, 0, 0, 5, 1, 1454, 1454, 1452, 0, 1, 1454, 1454, 1452, 1, 1, 1454, 3, 0, 0, 5, 1, 1454, 1454, 1452, 0, 1, 1454, 1454, 1452, 1, 1, 1454, 3, 5, 1, 1454, 1454, 1452, 0, 1, 1454, 1454, 1452, 1, 1, 1454, 3, 0, 0, 5, 0, 0, 0, 5, 5, 1, 1454, 1454, 1452, 0, 1, 1454, 1454, 1452, 1, 1, 1454, 3, 0, 0, 5, 1, 1454, 1454, 1452, 0, 1, 1454, 1454, 1452, 1, 1, 1454, 3, 0, 0, 5, 1, 1454, 1454, 1452, 0, 1, 1454, 1454, 1452, 1, 1, 1454, 3, 0, 0, 0, 5, 1, 1454, 1454, 1452, 0, 1, 1454, 1454, 1452, 1, 1, 1454, 3, 5, 1]
noncomputable abbrev spS4R (P : Params) (rho2 tau2 : Nat → Nat) (ln : Int) (ts tl tt tkc tkn dt : Nat) (c0 : Nat) (rest l : List Nat) : List Sp := []
noncomputable def advS4L : List Nat := [5, 5, 5, 0, 0, 5, 1, 1454, 1454, 1452, 0, 1, 1454, 1454, 1452, 1, 1, 1454, 3, 4, 1, 1454, 1454, 1452, 0, 1, 1454, 0, 1, 1454, 1, 1454, 1454, 1452, 1, 1454, 3, 3, 3, 5, 1, 1454, 1454, 1452, 0, 1, 1454, 1454, 1452, 1, 1, 1454, 3, 0, 0, 5, 1, 1454, 1454, 1452, 0, 1, 1454, 1454, 1452, 1, 1, 1454, 3, 5, 1, 1454, 1454, 1452, 0, 1, 1454, 1454, 1452, 1, 1, 1454, 3, 0, 0, 5, 0, 0, 0, 5, 5, 1, 1454, 1454, 1452, 0, 1, 1454, 1454, 1452, 1, 1, 1454, 3, 0, 0, 5, 1, 1454, 1454, 1452, 0, 1, 1454, 1454, 1452, 1, 1, 1454, 3, 0, 0, 5, 1, 1454, 1454, 1452, 0, 1, 1454, 1454, 1452, 1, 1, 1454, 3, 0, 0, 0, 5, 1, 1454, 1454, 1452, 0, 1, 1454, 1454, 1452, 1, 1, 1454, 3, 5, 1]
noncomputable abbrev spS4L (P : Params) (rho2 tau2 : Nat → Nat) (ln : Int) (ts tl tt tkc tkn dt : Nat) (c0 : Nat) (rest l : List Nat) : List Sp := [⟨bi "int.__add__" [.int ln tl, .int 1 (tau2 3)], [], .int (ln + 1) (tau2 4), 4, 1⟩]
noncomputable def advS4W : List Nat := [5, 5, 5, 0, 0, 5, 1, 1454, 1454, 1452, 0, 1, 1454, 1454, 1452, 1, 1, 1454, 3, 0, 0, 5, 1, 1454, 1454, 1452, 0, 1, 1454, 1454, 1452, 1, 1, 1454, 3, 5, 1, 1454, 1454, 1452, 0, 1, 1454, 1454, 1452, 1, 1, 1454, 3, 0, 0, 5, 0, 0, 0, 5, 5, 1, 1454, 1454, 1452, 0, 1, 1454, 1454, 1452, 1, 1, 1454, 3, 0, 0, 5, 1, 1454, 1454, 1452, 0, 1, 1454, 1454, 1452, 1, 1, 1454, 3, 0, 0, 5, 1, 1454, 1454, 1452, 0, 1, 1454, 1454, 1452, 1, 1, 1454, 3, 0, 0, 0, 5, 1, 1454, 1454, 1452, 0, 1, 1454, 1454, 1452, 1, 1, 1454, 3, 5, 1]
noncomputable abbrev spS4W (P : Params) (rho2 tau2 : Nat → Nat) (ln : Int) (ts tl tt tkc tkn dt : Nat) (c0 : Nat) (rest l : List Nat) : List Sp := []
noncomputable def advS4K : List Nat := [5, 5, 5, 0, 0, 5, 1, 1454, 1454, 1452, 0, 1, 1454, 1454, 1452, 1, 1, 1454, 3, 0, 0, 5, 1, 1454, 1454, 1452, 0, 1, 1454, 1454, 1452, 1, 1, 1454, 3, 5, 1, 1454, 1454, 1452, 0, 1, 1454, 1454, 1452, 1, 1, 1454, 3, 0, 0, 5, 0, 0, 0, 5, 5, 1, 1454, 1454, 1452, 0, 1, 1454, 1454, 1452, 1, 1, 1454, 3, 0, 0, 5, 5, 1, 1454, 1454, 1452, 0, 1, 1454, 1454, 1452, 1, 1, 1454, 3, 0, 0, 5, 1, 1454, 1454, 1452, 0, 1, 1454, 1454, 1452, 1, 1, 1454, 3, 5, 5, 1, 1454, 1454, 1452, 0, 1, 1454, 1454, 1452, 1, 1, 1454, 3, 0, 0, 5, 5, 5, 5, 1, 1454, 1454, 1452, 0, 1, 1454, 0, 1, 1454, 1, 1454, 1454, 1452, 1, 1454, 3, 3, 3, 1]
noncomputable abbrev spS4K (P : Params) (rho2 tau2 : Nat → Nat) (ln : Int) (ts tl tt tkc tkn dt : Nat) (c0 : Nat) (rest l : List Nat) : List Sp := []
noncomputable def advS4a : List Nat := [5, 5, 5, 0, 0, 5, 1, 1454, 1454, 1452, 0, 1, 1454, 1454, 1452, 1, 1, 1454, 3, 0, 0, 5, 1, 1454, 1454, 1452, 0, 1, 1454, 1454, 1452, 1, 1, 1454, 3, 5, 1, 1454, 1454, 1452, 0, 1, 1454, 1454, 1452, 1, 1, 1454, 3, 0, 0, 5, 0, 0, 0, 5, 5, 1, 1454, 1454, 1452, 0, 1, 1454, 1454, 1452, 1, 1, 1454, 3, 0, 0, 5, 5, 1, 1454, 1454, 1452, 0, 1, 1454, 1454, 1452, 1, 1, 1454, 3, 0, 0, 5, 1, 1454, 1454, 1452, 0, 1, 1454, 1454, 1452, 1, 1, 1454, 3, 5, 5, 1, 1454, 1454, 1452, 0, 1, 1454, 1454, 1452, 1, 1, 1454, 3, 0, 0, 5, 5, 1, 1454, 1454, 1452, 0, 1, 1454, 1454, 1452, 1, 1, 1454, 3, 0, 0, 5, 5, 1, 1454, 1454, 1452, 0, 1, 1454, 0, 1, 1454, 1, 1454, 1454, 1452, 1, 1454, 3, 3, 3, 5, 1, 1454, 1454, 1452, 0, 1, 1454, 0, 1, 1454, 1, 1454, 1454, 1452, 1, 1454, 3, 3, 3, 1]
noncomputable abbrev spS4a (P : Params) (rho2 tau2 : Nat → Nat) (ln : Int) (ts tl tt tkc tkn dt : Nat) (c0 : Nat) (rest l : List Nat) : List Sp := []
noncomputable def advS4D : List Nat := [5, 5, 5, 0, 0, 5, 1, 1454, 1454, 1452, 0, 1, 1454, 1454, 1452, 1, 1, 1454, 3, 0, 0, 5, 1, 1454, 1454, 1452, 0, 1, 1454, 1454, 1452, 1, 1, 1454, 3, 5, 1, 1454, 1454, 1452, 0, 1, 1454, 1454, 1452, 1, 1, 1454, 3, 0, 0, 5, 0, 0, 0, 5, 5, 1, 1454, 1454, 1452, 0, 1, 1454, 1454, 1452, 1, 1, 1454, 3, 0, 0, 5, 5, 1, 1454, 1454, 1452, 0, 1, 1454, 1454, 1452, 1, 1, 1454, 3, 0, 0, 5, 1, 1454, 1454, 1452, 0, 1, 1454, 1454, 1452, 1, 1, 1454, 3, 5, 5, 1, 1454, 1454, 1452, 0, 1, 1454, 1454, 1452, 1, 1, 1454, 3, 0, 0, 5, 5, 1, 1454, 1454, 1452, 0, 1, 1454, 1454, 1452, 1, 1, 1454, 3, 0, 0, 5, 5, 1, 1454, 1454, 1452, 0, 1, 1454, 1454, 1452, 1318, 1318, 1454, 1454, 1452, 0, 1318, 0, 1318, 1319, 7, 7, 2, 7, 1, 1454, 1454, 1452, 0, 1, 1454, 1454, 1452, 1, 1, 1454, 3, 0, 0, 5, 5, 1, 1454, 1454, 1452, 0, 1, 1454, 1454, 1452, 1, 1, 1454, 3, 0, 0, 5, 1, 1454, 1454, 1452, 0, 1, 1454, 1454, 1452, 1, 1, 1454, 3, 5, 5, 1, 1454, 1454, 1452, 0, 1, 1454, 0, 1, 1454, 1, 1454, 1454, 1452, 1, 1454, 3, 3, 3, 5, 1, 1454, 1454, 1452, 0, 1, 1454, 0, 1, 1454, 1, 1454, 1454, 1452, 1, 1454, 3, 3, 3, 1]
noncomputable abbrev spS4D (P : Params) (rho2 tau2 : Nat → Nat) (ln : Int) (ts tl tt tkc tkn dt : Nat) (c0 : Nat) (rest l : List Nat) : List Sp := []
noncomputable def advA4E : List Nat := [5, 5, 5, 0, 0, 5, 1, 1454, 1454, 1452, 0, 1, 1454, 1454, 1452, 1, 1, 1454, 3, 0, 0, 5, 1, 1454, 1454, 1452, 0, 1, 1454, 1454, 1452, 1, 1, 1454, 3, 5, 1, 1454, 1454, 1452, 0, 1, 1454, 1454, 1452, 1, 1, 1454, 3, 0, 0, 5, 1, 1454, 1454, 1452, 0, 1, 1454, 1454, 1452, 1, 1, 1454, 3, 5, 1, 1454, 1454, 1452, 0, 1, 1454, 1454, 1452, 1, 1, 1454, 3, 0, 0, 5, 1, 1454, 1454, 1452, 0, 1, 1454, 1454, 1452, 1, 1, 1454, 3, 5, 1, 1454, 1454, 1452, 0, 1, 1454, 1454, 1452, 1, 1, 1454, 3, 0, 0, 5, 1, 1454, 1454, 1452, 0, 1, 1454, 1454, 1452, 1, 1, 1454, 3, 7, 7, 4, 5, 0, 0, 0, 5, 1, 1454, 1454, 1452, 0, 1, 1454, 0, 1, 1454, 1, 1454, 1454, 1452, 1, 1454, 3, 3, 3]
noncomputable abbrev spA4E (P : Params) (rho2 tau2 : Nat → Nat) (ln : Int) (ts tl tt tkc tkn dt : Nat) (c0 : Nat) (rest l : List Nat) : List Sp := [⟨bi "tuple.__contains__" [.ref (rho2 0), .str ⟨#[97]⟩ ts], [(3, rho2 0, tupAC (tau2 12) (tau2 13))], .bool true, 14, 0⟩]
noncomputable def advA4R : List Nat := [5, 5, 5, 0, 0, 5, 1, 1454, 1454, 1452, 0, 1, 1454, 1454, 1452, 1, 1, 1454, 3, 0, 0, 5, 1, 1454, 1454, 1452, 0, 1, 1454, 1454, 1452, 1, 1, 1454, 3, 5, 1, 1454, 1454, 1452, 0, 1, 1454, 1454, 1452, 1, 1, 1454, 3, 0, 0, 5, 1, 1454, 1454, 1452, 0, 1, 1454, 1454, 1452, 1, 1, 1454, 3, 5, 1, 1454, 1454, 1452, 0, 1, 1454, 1454, 1452, 1, 1, 1454, 3, 0, 0, 5, 1, 1454, 1454, 1452, 0, 1, 1454, 1454, 1452, 1, 1, 1454, 3, 5, 1, 1454, 1454, 1452, 0, 1, 1454, 1454, 1452, 1, 1, 1454, 3, 0, 0, 5, 1, 1454, 1454, 1452, 0, 1, 1454, 1454, 1452, 1, 1, 1454, 3, 7, 7, 4, 5, 0, 0, 0, 5, 5, 1, 1454, 1454, 1452, 0, 1, 1454, 1454, 1452, 1, 1, 1454, 3, 0, 0, 5, 1, 1454, 1454, 1452, 0, 1, 1454, 1454, 1452, 1, 1, 1454, 3, 0, 0, 5, 1, 1454, 1454, 1452, 0, 1, 1454, 0, 1, 1454, 1, 1454, 1454, 1452, 1, 1454, 3, 3, 3, 5, 1, 1454, 1454, 1452, 0, 1, 1454, 1454, 1452, 1, 1, 1454, 3, 6]
noncomputable abbrev spA4R (P : Params) (rho2 tau2 : Nat → Nat) (ln : Int) (ts tl tt tkc tkn dt : Nat) (c0 : Nat) (rest l : List Nat) : List Sp := [⟨bi "tuple.__contains__" [.ref (rho2 0), .str ⟨#[97]⟩ ts], [(3, rho2 0, tupAC (tau2 12) (tau2 13))], .bool true, 14, 0⟩,
  ⟨.builtin "len" ⟨[.str ⟨⟨c0 :: rest⟩⟩ tt], []⟩, [], .int (Int.ofNat (rest.length + 1)) (tau2 24), 23, 2⟩]
noncomputable def advA4L : List Nat := [5, 5, 5, 0, 0, 5, 1, 1454, 1454, 1452, 0, 1, 1454, 1454, 1452, 1, 1, 1454, 3, 4, 1, 1454, 1454, 1452, 0, 1, 1454, 0, 1, 1454, 1, 1454, 1454, 1452, 1, 1454, 3, 3, 3, 5, 1, 1454, 1454, 1452, 0, 1, 1454, 1454, 1452, 1, 1, 1454, 3, 0, 0, 5, 1, 1454, 1454, 1452, 0, 1, 1454, 1454, 1452, 1, 1, 1454, 3, 5, 1, 1454, 1454, 1452, 0, 1, 1454, 1454, 1452, 1, 1, 1454, 3, 0, 0, 5, 1, 1454, 1454, 1452, 0, 1, 1454, 1454, 1452, 1, 1, 1454, 3, 5, 1, 1454, 1454, 1452, 0, 1, 1454, 1454, 1452, 1, 1, 1454, 3, 0, 0, 5, 1, 1454, 1454, 1452, 0, 1, 1454, 1454, 1452, 1, 1, 1454, 3, 5, 1, 1454, 1454, 1452, 0, 1, 1454, 1454, 1452, 1, 1, 1454, 3, 0, 0, 5, 1, 1454, 1454, 1452, 0, 1, 1454, 1454, 1452, 1, 1, 1454, 3, 7, 7, 6, 5, 0, 0, 0, 5, 5, 1, 1454, 1454, 1452, 0, 1, 1454, 1454, 1452, 1, 1, 1454, 3, 0, 0, 5, 1, 1454, 1454, 1452, 0, 1, 1454, 1454, 1452, 1, 1, 1454, 3, 0, 0, 5, 1, 1454, 1454, 1452, 0, 1, 1454, 0, 1, 1454, 1, 1454, 1454, 1452, 1, 1454, 3, 3, 3, 5, 1, 1454, 1454, 1452, 0, 1, 1454, 1454, 1452, 1, 1, 1454, 3, 8]
noncomputable abbrev spA4L (P : Params) (rho2 tau2 : Nat → Nat) (ln : Int) (ts tl tt tkc tkn dt : Nat) (c0 : Nat) (rest l : List Nat) : List Sp := [⟨bi "int.__add__" [.int ln tl, .int 1 (tau2 3)], [], .int (ln + 1) (tau2 4), 4, 1⟩,
  ⟨bi "tuple.__contains__" [.ref (rho2 0), .str ⟨#[97]⟩ ts], [(3, rho2 0, tupAC (tau2 17) (tau2 18))], .bool true, 19, 0⟩,
  ⟨.builtin "len" ⟨[.str ⟨⟨c0 :: rest⟩⟩ tt], []⟩, [], .int (Int.ofNat (rest.length + 1)) (tau2 29), 28, 2⟩]
noncomputable def advA4W : List Nat := [5, 5, 5, 0, 0, 5, 1, 1454, 1454, 1452, 0, 1, 1454, 1454, 1452, 1, 1, 1454, 3, 0, 0, 5, 1, 1454, 1454, 1452, 0, 1, 1454, 1454, 1452, 1, 1, 1454, 3, 5, 1, 1454, 1454, 1452, 0, 1, 1454, 1454, 1452, 1, 1, 1454, 3, 0, 0, 5, 1, 1454, 1454, 1452, 0, 1, 1454, 1454, 1452, 1, 1, 1454, 3, 5, 1, 1454, 1454, 1452, 0, 1, 1454, 1454, 1452, 1, 1, 1454, 3, 0, 0, 5, 1, 1454, 1454, 1452, 0, 1, 1454, 1454, 1452, 1, 1, 1454, 3, 5, 1, 1454, 1454, 1452, 0, 1, 1454, 1454, 1452, 1, 1, 1454, 3, 0, 0, 5, 1, 1454, 1454, 1452, 0, 1, 1454, 1454, 1452, 1, 1, 1454, 3, 7, 7, 4, 5, 0, 0, 0, 5, 5, 1, 1454, 1454, 1452, 0, 1, 1454, 1454, 1452, 1, 1, 1454, 3, 0, 0, 5, 1, 1454, 1454, 1452, 0, 1, 1454, 1454, 1452, 1, 1, 1454, 3, 0, 0, 5, 1, 1454, 1454, 1452, 0, 1, 1454, 0, 1, 1454, 1, 1454, 1454, 1452, 1, 1454, 3, 3, 3, 5, 1, 1454, 1454, 1452, 0, 1, 1454, 1454, 1452, 1, 1, 1454, 3, 6]
noncomputable abbrev spA4W (P : Params) (rho2 tau2 : Nat → Nat) (ln : Int) (ts tl tt tkc tkn dt : Nat) (c0 : Nat) (rest l : List Nat) : List Sp := [⟨bi "tuple.__contains__" [.ref (rho2 0), .str ⟨#[97]⟩ ts], [(3, rho2 0, tupAC (tau2 12) (tau2 13))], .bool true, 14, 0⟩,
  ⟨.builtin "len" ⟨[.str ⟨⟨c0 :: rest⟩⟩ tt], []⟩, [], .int (Int.ofNat (rest.length + 1)) (tau2 24), 23, 2⟩]
noncomputable def advA4K : List Nat := [5, 5, 5, 0, 0, 5, 1, 1454, 1454, 1452, 0, 1, 1454, 1454, 1452, 1, 1, 1454, 3, 0, 0, 5, 1, 1454, 1454, 1452, 0, 1, 1454, 1454, 1452, 1, 1, 1454, 3, 5, 1, 1454, 1454, 1452, 0, 1, 1454, 1454, 1452, 1, 1, 1454, 3, 0, 0, 5, 1, 1454, 1454, 1452, 0, 1, 1454, 1454, 1452, 1, 1, 1454, 3, 5, 1, 1454, 1454, 1452, 0, 1, 1454, 1454, 1452, 1, 1, 1454, 3, 0, 0, 5, 1, 1454, 1454, 1452, 0, 1, 1454, 1454, 1452, 1, 1, 1454, 3, 5, 1, 1454, 1454, 1452, 0, 1, 1454, 1454, 1452, 1, 1, 1454, 3, 0, 0, 5, 1, 1454, 1454, 1452, 0, 1, 1454, 1454, 1452, 1, 1, 1454, 3, 7, 7, 4, 5, 0, 0, 0, 5, 5, 1, 1454, 1454, 1452, 0, 1, 1454, 1454, 1452, 1, 1, 1454, 3, 0, 0, 5, 5, 1, 1454, 1454, 1452, 0, 1, 1454, 1454, 1452, 1, 1, 1454, 3, 0, 0, 5, 1, 1454, 1454, 1452, 0, 1, 1454, 1454, 1452, 1, 1, 1454, 3, 0, 0, 5, 1, 1454, 1454, 1452, 0, 1, 1454, 1454, 1452, 1, 1, 1454, 3, 5, 5, 1, 1454, 1454, 1452, 0, 1, 1454, 1454, 1452, 1, 1, 1454, 3, 0, 0, 5, 1, 1454, 1454, 1452, 0, 1, 1454, 1454, 1452, 1, 1, 1454, 3, 5, 5, 1, 1454, 1454, 1452, 0, 1, 1454, 1454, 1452, 1, 1, 1454, 3, 0, 0, 5, 5, 5, 5, 1, 1454, 1454, 1452, 0, 1, 1454, 0, 1, 1454, 1, 1454, 1454, 1452, 1, 1454, 3, 3, 3, 1]
noncomputable abbrev spA4K (P : Params) (rho2 tau2 : Nat → Nat) (ln : Int) (ts tl tt tkc tkn dt : Nat) (c0 : Nat) (rest l : List Nat) : List Sp := [⟨bi "tuple.__contains__" [.ref (rho2 0), .str ⟨#[97]⟩ ts], [(3, rho2 0, tupAC (tau2 12) (tau2 13))], .bool true, 14, 0⟩]
noncomputable def advA4a : List Nat := [5, 5, 5, 0, 0, 5, 1, 1454, 1454, 1452, 0, 1, 1454, 1454, 1452, 1, 1, 1454, 3, 0, 0, 5, 1, 1454, 1454, 1452, 0, 1, 1454, 1454, 1452, 1, 1, 1454, 3, 5, 1, 1454, 1454, 1452, 0, 1, 1454, 1454, 1452, 1, 1, 1454, 3, 0, 0, 5, 1, 1454, 1454, 1452, 0, 1, 1454, 1454, 1452, 1, 1, 1454, 3, 5, 1, 1454, 1454, 1452, 0, 1, 1454, 1454, 1452, 1, 1, 1454, 3, 0, 0, 5, 1, 1454, 1454, 1452, 0, 1, 1454, 1454, 1452, 1, 1, 1454, 3, 5, 1, 1454, 1454, 1452, 0, 1, 1454, 1454, 1452, 1, 1, 1454, 3, 0, 0, 5, 1, 1454, 1454, 1452, 0, 1, 1454, 1454, 1452, 1, 1, 1454, 3, 7, 7, 4, 5, 0, 0, 0, 5, 5, 1, 1454, 1454, 1452, 0, 1, 1454, 1454, 1452, 1, 1, 1454, 3, 0, 0, 5, 5, 1, 1454, 1454, 1452, 0, 1, 1454, 1454, 1452, 1, 1, 1454, 3, 0, 0, 5, 1, 1454, 1454, 1452, 0, 1, 1454, 1454, 1452, 1, 1, 1454, 3, 0, 0, 5, 1, 1454, 1454, 1452, 0, 1, 1454, 1454, 1452, 1, 1, 1454, 3, 5, 5, 1, 1454, 1454, 1452, 0, 1, 1454, 1454, 1452, 1, 1, 1454, 3, 0, 0, 5, 1, 1454, 1454, 1452, 0, 1, 1454, 1454, 1452, 1, 1, 1454, 3, 5, 5, 1, 1454, 1454, 1452, 0, 1, 1454, 1454, 1452, 1, 1, 1454, 3, 0, 0, 5, 5, 1, 1454, 1454, 1452, 0, 1, 1454, 1454, 1452, 1, 1, 1454, 3, 0, 0, 5, 1, 1454, 1454, 1452, 0, 1, 1454, 1454, 1452, 1, 1, 1454, 3, 5, 6, 1, 1454, 1454, 1452, 0, 1, 1454, 0, 1, 1454, 1, 1454, 1454, 1452, 1, 1454, 3, 3, 3, 1]
noncomputable abbrev spA4a (P : Params) (rho2 tau2 : Nat → Nat) (ln : Int) (ts tl tt tkc tkn dt : Nat) (c0 : Nat) (rest l : List Nat) : List Sp := [⟨bi "tuple.__contains__" [.ref (rho2 0), .str ⟨#[97]⟩ ts], [(3, rho2 0, tupAC (tau2 12) (tau2 13))], .bool true, 14, 0⟩,
  ⟨bi "str.__add__" [.str ⟨⟨(c0 :: rest)⟩⟩ tt, .str ⟨#[97]⟩ tkc], [], .str ⟨⟨(c0 :: (rest ++ [97]))⟩⟩ tkn, 26, dt⟩]
noncomputable def advA4D : List Nat := [5, 5, 5, 0, 0, 5, 1, 1454, 1454, 1452, 0, 1, 1454, 1454, 1452, 1, 1, 1454, 3, 0, 0, 5, 1, 1454, 1454, 1452, 0, 1, 1454, 1454, 1452, 1, 1, 1454, 3, 5, 1, 1454, 1454, 1452, 0, 1, 1454, 1454, 1452, 1, 1, 1454, 3, 0, 0, 5, 1, 1454, 1454, 1452, 0, 1, 1454, 1454, 1452, 1, 1, 1454, 3, 5, 1, 1454, 1454, 1452, 0, 1, 1454, 1454, 1452, 1, 1, 1454, 3, 0, 0, 5, 1, 1454, 1454, 1452, 0, 1, 1454, 1454, 1452, 1, 1, 1454, 3, 5, 1, 1454, 1454, 1452, 0, 1, 1454, 1454, 1452, 1, 1, 1454, 3, 0, 0, 5, 1, 1454, 1454, 1452, 0, 1, 1454, 1454, 1452, 1, 1, 1454, 3, 7, 7, 4, 5, 0, 0, 0, 5, 5, 1, 1454, 1454, 1452, 0, 1, 1454, 1454, 1452, 1, 1, 1454, 3, 0, 0, 5, 5, 1, 1454, 1454, 1452, 0, 1, 1454, 1454, 1452, 1, 1, 1454, 3, 0, 0, 5, 1, 1454, 1454, 1452, 0, 1, 1454, 1454, 1452, 1, 1, 1454, 3, 0, 0, 5, 1, 1454, 1454, 1452, 0, 1, 1454, 1454, 1452, 1, 1, 1454, 3, 5, 5, 1, 1454, 1454, 1452, 0, 1, 1454, 1454, 1452, 1, 1, 1454, 3, 0, 0, 5, 1, 1454, 1454, 1452, 0, 1, 1454, 1454, 1452, 1, 1, 1454, 3, 5, 5, 1, 1454, 1454, 1452, 0, 1, 1454, 1454, 1452, 1, 1, 1454, 3, 0, 0, 5, 5, 1, 1454, 1454, 1452, 0, 1, 1454, 1454, 1452, 1, 1, 1454, 3, 0, 0, 5, 5, 1, 1454, 1454, 1452, 0, 1, 1454, 1454, 1452, 1, 1, 1454, 3, 0, 0, 5, 1, 1454, 1454, 1452, 0, 1, 1454, 1454, 1452, 1, 1, 1454, 3, 5, 5, 1, 1454, 1454, 1452, 0, 1, 1454, 1454, 1452, 1318, 1318, 1454, 1454, 1452, 0, 1318, 0, 1318, 1319, 9, 9, 2, 9, 1, 1454, 1454, 1452, 0, 1, 1454, 1454, 1452, 1, 1, 1454, 3, 0, 0, 5, 1, 1454, 1454, 1452, 0, 1, 1454, 1454, 1452, 1, 1, 1454, 3, 5, 6, 1, 1454, 1454, 1452, 0, 1, 1454, 0, 1, 1454, 1, 1454, 1454, 1452, 1, 1454, 3, 3, 3, 1]
noncomputable abbrev spA4D (P : Params) (rho2 tau2 : Nat → Nat) (ln : Int) (ts tl tt tkc tkn dt : Nat) (c0 : Nat) (rest l : List Nat) : List Sp := [⟨bi "tuple.__contains__" [.ref (rho2 0), .str ⟨#[97]⟩ ts], [(3, rho2 0, tupAC (tau2 12) (tau2 13))], .bool true, 14, 0⟩,
  ⟨bi "str.__add__" [.str ⟨⟨(c0 :: rest)⟩⟩ tt, .str ⟨#[46]⟩ tkc], [], .str ⟨⟨(c0 :: (rest ++ [46]))⟩⟩ tkn, 31, dt⟩]
noncomputable def advB4E : List Nat := [5, 5, 5, 0, 0, 5, 1, 1454, 1454, 1452, 0, 1, 1454, 1454, 1452, 1, 1, 1454, 3, 0, 0, 5, 1, 1454, 1454, 1452, 0, 1, 1454, 1454, 1452, 1, 1, 1454, 3, 5, 1, 1454, 1454, 1452, 0, 1, 1454, 1454, 1452, 1, 1, 1454, 3, 0, 0, 5, 1, 1454, 1454, 1452, 0, 1, 1454, 1454, 1452, 1, 1, 1454, 3, 5, 1, 1454, 1454, 1452, 0, 1, 1454, 1454, 1452, 1, 1, 1454, 3, 0, 0, 5, 1, 1454, 1454, 1452, 0, 1, 1454, 1454, 1452, 1, 1, 1454, 3, 5, 1, 1454, 1454, 1452, 0, 1, 1454, 1454, 1452, 1, 1, 1454, 3, 0, 0, 5, 0, 0, 0, 5, 1, 1454, 1454, 1452, 0, 1, 1454, 1454, 1452, 1, 1, 1454, 3, 0, 0, 6, 0, 0, 0, 0, 0, 9, 9, 0, 9, 9, 0, 9, 9, 9, 9, 9, 9, 9, 9]
noncomputable abbrev spB4E (P : Params) (rho2 tau2 : Nat → Nat) (ln : Int) (ts tl tt tkc tkn dt : Nat) (c0 : Nat) (rest l : List Nat) : List Sp := []
noncomputable def advB4R : List Nat := [5, 5, 5, 0, 0, 5, 1, 1454, 1454, 1452, 0, 1, 1454, 1454, 1452, 1, 1, 1454, 3, 0, 0, 5, 1, 1454, 1454, 1452, 0, 1, 1454, 1454, 1452, 1, 1, 1454, 3, 5, 1, 1454, 1454, 1452, 0, 1, 1454, 1454, 1452, 1, 1, 1454, 3, 0, 0, 5, 1, 1454, 1454, 1452, 0, 1, 1454, 1454, 1452, 1, 1, 1454, 3, 5, 1, 1454, 1454, 1452, 0, 1, 1454, 1454, 1452, 1, 1, 1454, 3, 0, 0, 5, 1, 1454, 1454, 1452, 0, 1, 1454, 1454, 1452, 1, 1, 1454, 3, 5, 1, 1454, 1454, 1452, 0, 1, 1454, 1454, 1452, 1, 1, 1454, 3, 0, 0, 5, 0, 0, 0, 5, 5, 1, 1454, 1454, 1452, 0, 1, 1454, 1454, 1452, 1, 1, 1454, 3, 0, 0, 5, 1, 1454, 1454, 1452, 0, 1, 1454, 1454, 1452, 1, 1, 1454, 3, 5, 4, 1, 1454, 1454, 1452, 0, 1, 1454, 0, 1, 1454, 1, 1454, 1454, 1452, 1, 1454, 3, 3, 3, 5, 5, 1, 1454, 1454, 1452, 0, 1, 1454, 0, 1, 1454, 1, 1454, 1454, 1452, 1, 1454, 3, 3, 3, 1]
noncomputable abbrev spB4R (P : Params) (rho2 tau2 : Nat → Nat) (ln : Int) (ts tl tt tkc tkn dt : Nat) (c0 : Nat) (rest l : List Nat) : List Sp := [⟨bi "str.__add__" [.str ⟨⟨l⟩⟩ tt, .str ⟨#[13]⟩ tkc], [], .str ⟨⟨(l ++ [13])⟩⟩ tkn, 15, dt⟩]
noncomputable def advB4L : List Nat := [5, 5, 5, 0, 0, 5, 1, 1454, 1454, 1452, 0, 1, 1454, 1454, 1452, 1, 1, 1454, 3, 4, 1, 1454, 1454, 1452, 0, 1, 1454, 0, 1, 1454, 1, 1454, 1454, 1452, 1, 1454, 3, 3, 3, 5, 1, 1454, 1454, 1452, 0, 1, 1454, 1454, 1452, 1, 1, 1454, 3, 0, 0, 5, 1, 1454, 1454, 1452, 0, 1, 1454, 1454, 1452, 1, 1, 1454, 3, 5, 1, 1454, 1454, 1452, 0, 1, 1454, 1454, 1452, 1, 1, 1454, 3, 0, 0, 5, 1, 1454, 1454, 1452, 0, 1, 1454, 1454, 1452, 1, 1, 1454, 3, 5, 1, 1454, 1454, 1452, 0, 1, 1454, 1454, 1452, 1, 1, 1454, 3, 0, 0, 5, 1, 1454, 1454, 1452, 0, 1, 1454, 1454, 1452, 1, 1, 1454, 3, 5, 1, 1454, 1454, 1452, 0, 1, 1454, 1454, 1452, 1, 1, 1454, 3, 0, 0, 5, 0, 0, 0, 5, 5, 1, 1454, 1454, 1452, 0, 1, 1454, 1454, 1452, 1, 1, 1454, 3, 0, 0, 5, 1, 1454, 1454, 1452, 0, 1, 1454, 1454, 1452, 1, 1, 1454, 3, 5, 6, 1, 1454, 1454, 1452, 0, 1, 1454, 0, 1, 1454, 1, 1454, 1454, 1452, 1, 1454, 3, 3, 3, 5, 5, 1, 1454, 1454, 1452, 0, 1, 1454, 0, 1, 1454, 1, 1454, 1454, 1452, 1, 1454, 3, 3, 3, 1]
noncomputable abbrev spB4L (P : Params) (rho2 tau2 : Nat → Nat) (ln : Int) (ts tl tt tkc tkn dt : Nat) (c0 : Nat) (rest l : List Nat) : List Sp := [⟨bi "int.__add__" [.int ln tl, .int 1 (tau2 3)], [], .int (ln + 1) (tau2 4), 4, 1⟩,
  ⟨bi "str.__add__" [.str ⟨⟨l⟩⟩ tt, .str ⟨#[10]⟩ tkc], [], .str ⟨⟨(l ++ [10])⟩⟩ tkn, 20, dt⟩]
noncomputable def advB4W : List Nat := [5, 5, 5, 0, 0, 5, 1, 1454, 1454, 1452, 0, 1, 1454, 1454, 1452, 1, 1, 1454, 3, 0, 0, 5, 1, 1454, 1454, 1452, 0, 1, 1454, 1454, 1452, 1, 1, 1454, 3, 5, 1, 1454, 1454, 1452, 0, 1, 1454, 1454, 1452, 1, 1, 1454, 3, 0, 0, 5, 1, 1454, 1454, 1452, 0, 1, 1454, 1454, 1452, 1, 1, 1454, 3, 5, 1, 1454, 1454, 1452, 0, 1, 1454, 1454, 1452, 1, 1, 1454, 3, 0, 0, 5, 1, 1454, 1454, 1452, 0, 1, 1454, 1454, 1452, 1, 1, 1454, 3, 5, 1, 1454, 1454, 1452, 0, 1, 1454, 1454, 1452, 1, 1, 1454, 3, 0, 0, 5, 0, 0, 0, 5, 5, 1, 1454, 1454, 1452, 0, 1, 1454, 1454, 1452, 1, 1, 1454, 3, 0, 0, 5, 1, 1454, 1454, 1452, 0, 1, 1454, 1454, 1452, 1, 1, 1454, 3, 5, 4, 1, 1454, 1454, 1452, 0, 1, 1454, 0, 1, 1454, 1, 1454, 1454, 1452, 1, 1454, 3, 3, 3, 5, 5, 1, 1454, 1454, 1452, 0, 1, 1454, 0, 1, 1454, 1, 1454, 1454, 1452, 1, 1454, 3, 3, 3, 1]
noncomputable abbrev spB4W (P : Params) (rho2 tau2 : Nat → Nat) (ln : Int) (ts tl tt tkc tkn dt : Nat) (c0 : Nat) (rest l : List Nat) : List Sp := [⟨bi "str.__add__" [.str ⟨⟨l⟩⟩ tt, .str ⟨#[32]⟩ tkc], [], .str ⟨⟨(l ++ [32])⟩⟩ tkn, 15, dt⟩]
noncomputable def advB4K : List Nat := [5, 5, 5, 0, 0, 5, 1, 1454, 1454, 1452, 0, 1, 1454, 1454, 1452, 1, 1, 1454, 3, 0, 0, 5, 1, 1454, 1454, 1452, 0, 1, 1454, 1454, 1452, 1, 1, 1454, 3, 5, 1, 1454, 1454, 1452, 0, 1, 1454, 1454, 1452, 1, 1, 1454, 3, 0, 0, 5, 1, 1454, 1454, 1452, 0, 1, 1454, 1454, 1452, 1, 1, 1454, 3, 5, 1, 1454, 1454, 1452, 0, 1, 1454, 1454, 1452, 1, 1, 1454, 3, 0, 0, 5, 1, 1454, 1454, 1452, 0, 1, 1454, 1454, 1452, 1, 1, 1454, 3, 5, 1, 1454, 1454, 1452, 0, 1, 1454, 1454, 1452, 1, 1, 1454, 3, 0, 0, 5, 0, 0, 0, 5, 5, 1, 1454, 1454, 1452, 0, 1, 1454, 1454, 1452, 1, 1, 1454, 3, 0, 0, 5, 1, 1454, 1454, 1452, 0, 1, 1454, 1454, 1452, 1, 1, 1454, 3, 5, 4, 1, 1454, 1454, 1452, 0, 1, 1454, 0, 1, 1454, 1, 1454, 1454, 1452, 1, 1454, 3, 3, 3, 5, 5, 1, 1454, 1454, 1452, 0, 1, 1454, 0, 1, 1454, 1, 1454, 1454, 1452, 1, 1454, 3, 3, 3, 1]
noncomputable abbrev spB4K (P : Params) (rho2 tau2 : Nat → Nat) (ln : Int) (ts tl tt tkc tkn dt : Nat) (c0 : Nat) (rest l : List Nat) : List Sp := [⟨bi "str.__add__" [.str ⟨⟨l⟩⟩ tt, .str ⟨#[92]⟩ tkc], [], .str ⟨⟨(l ++ [92])⟩⟩ tkn, 15, dt⟩]
noncomputable def advB4a : List Nat := [5, 5, 5, 0, 0, 5, 1, 1454, 1454, 1452, 0, 1, 1454, 1454, 1452, 1, 1, 1454, 3, 0, 0, 5, 1, 1454, 1454, 1452, 0, 1, 1454, 1454, 1452, 1, 1, 1454, 3, 5, 1, 1454, 1454, 1452, 0, 1, 1454, 1454, 1452, 1, 1, 1454, 3, 0, 0, 5, 1, 1454, 1454, 1452, 0, 1, 1454, 1454, 1452, 1, 1, 1454, 3, 5, 1, 1454, 1454, 1452, 0, 1, 1454, 1454, 1452, 1, 1, 1454, 3, 0, 0, 5, 1, 1454, 1454, 1452, 0, 1, 1454, 1454, 1452, 1, 1, 1454, 3, 5, 1, 1454, 1454, 1452, 0, 1, 1454, 1454, 1452, 1, 1, 1454, 3, 0, 0, 5, 0, 0, 0, 5, 5, 1, 1454, 1454, 1452, 0, 1, 1454, 1454, 1452, 1, 1, 1454, 3, 0, 0, 5, 1, 1454, 1454, 1452, 0, 1, 1454, 1454, 1452, 1, 1, 1454, 3, 5, 4, 1, 1454, 1454, 1452, 0, 1, 1454, 0, 1, 1454, 1, 1454, 1454, 1452, 1, 1454, 3, 3, 3, 5, 5, 1, 1454, 1454, 1452, 0, 1, 1454, 0, 1, 1454, 1, 1454, 1454, 1452, 1, 1454, 3, 3, 3, 1]
noncomputable abbrev spB4a (P : Params) (rho2 tau2 : Nat → Nat) (ln : Int) (ts tl tt tkc tkn dt : Nat) (c0 : Nat) (rest l : List Nat) : List Sp := [⟨bi "str.__add__" [.str ⟨⟨l⟩⟩ tt, .str ⟨#[97]⟩ tkc], [], .str ⟨⟨(l ++ [97])⟩⟩ tkn, 15, dt⟩]
noncomputable def advB4D : List Nat := [5, 5, 5, 0, 0, 5, 1, 1454, 1454, 1452, 0, 1, 1454, 1454, 1452, 1, 1, 1454, 3, 0, 0, 5, 1, 1454, 1454, 1452, 0, 1, 1454, 1454, 1452, 1, 1, 1454, 3, 5, 1, 1454, 1454, 1452, 0, 1, 1454, 1454, 1452, 1, 1, 1454, 3, 0, 0, 5, 1, 1454, 1454, 1452, 0, 1, 1454, 1454, 1452, 1, 1, 1454, 3, 5, 1, 1454, 1454, 1452, 0, 1, 1454, 1454, 1452, 1, 1, 1454, 3, 0, 0, 5, 1, 1454, 1454, 1452, 0, 1, 1454, 1454, 1452, 1, 1, 1454, 3, 5, 1, 1454, 1454, 1452, 0, 1, 1454, 1454, 1452, 1, 1, 1454, 3, 0, 0, 5, 0, 0, 0, 5, 5, 1, 1454, 1454, 1452, 0, 1, 1454, 1454, 1452, 1, 1, 1454, 3, 0, 0, 5, 1, 1454, 1454, 1452, 0, 1, 1454, 1454, 1452, 1, 1, 1454, 3, 5, 4, 1, 1454, 1454, 1452, 0, 1, 1454, 0, 1, 1454, 1, 1454, 1454, 1452, 1, 1454, 3, 3, 3, 5, 5, 1, 1454, 1454, 1452, 0, 1, 1454, 0, 1, 1454, 1, 1454, 1454, 1452, 1, 1454, 3, 3, 3, 1]
noncomputable abbrev spB4D (P : Params) (rho2 tau2 : Nat → Nat) (ln : Int) (ts tl tt tkc tkn dt : Nat) (c0 : Nat) (rest l : List Nat) : List Sp := [⟨bi "str.__add__" [.str ⟨⟨l⟩⟩ tt, .str ⟨#[46]⟩ tkc], [], .str ⟨⟨(l ++ [46])⟩⟩ tkn, 15, dt⟩]
noncomputable abbrev runS3E (P : Params) (b c : Bool) (rho1 tau1 rho2 tau2 : Nat → Nat) (stk1 stk2 : Stk) (h0 : Option Value) (L : LX) (ts tl tt tkc tkn dt fe fn f4 k t6 c0 : Nat) (rest l : List Nat) (es nc : Str) (ln : Int) : Out :=
  res (entered (cfg (fP P b c) rho1 tau1 h0 []) stk1 advT (WL (fP P b c) L.F) (ownT P L (.str ⟨#[32]⟩ ts) ln tl ⟨⟨[]⟩⟩ tt k t6 (frame3 P L es fe))) (.ok (.ret (.str ⟨#[]⟩ tkc))) (cfg (fP P b c) rho2 tau2 h0 (spS3E P rho2 tau2 ln ts tl tt tkc tkn dt c0 rest l)) stk2 advS3E (ownU P L (.str ⟨#[32]⟩ ts) ln tl ⟨⟨[]⟩⟩ tt (frame3 P L es fe))
theorem runS3E_is (P : Params) (b c : Bool) (rho1 tau1 rho2 tau2 : Nat → Nat) (stk1 stk2 : Stk) (h0 : Option Value) (L : LX) (ts tl tt tkc tkn dt fe fn f4 k t6 c0 : Nat) (rest l : List Nat) (es nc : Str) (ln : Int) :
    let o := runS3E P b c rho1 tau1 rho2 tau2 stk1 stk2 h0 L ts tl tt tkc tkn dt fe fn f4 k t6 c0 rest l es nc ln
    (chkL o, retV [0, 1, 2] o) = (chkR o, some (.ok .next, [(L.lx, instObj 727 L.d), (L.d, lexD P L .none ln tl ⟨⟨[]⟩⟩ tt), (L.F, (frame4q P L (tau2 0) es fe ⟨#[]⟩ tkc))])) := by
  cases b <;> kernel_rfl
noncomputable abbrev runS3R (P : Params) (b c : Bool) (rho1 tau1 rho2 tau2 : Nat → Nat) (stk1 stk2 : Stk) (h0 : Option Value) (L : LX) (ts tl tt tkc tkn dt fe fn f4 k t6 c0 : Nat) (rest l : List Nat) (es nc : Str) (ln : Int) : Out :=
  res (entered (cfg (fP P b c) rho1 tau1 h0 []) stk1 advT (WL (fP P b c) L.F) (ownT P L (.str ⟨#[32]⟩ ts) ln tl ⟨⟨[]⟩⟩ tt k t6 (frame3 P L es fe))) (.ok (.ret (.str ⟨#[13]⟩ tkc))) (cfg (fP P b c) rho2 tau2 h0 (spS3R P rho2 tau2 ln ts tl tt tkc tkn dt c0 rest l)) stk2 advS3R (ownU P L (.str ⟨#[32]⟩ ts) ln tl ⟨⟨[]⟩⟩ tt (frame3 P L es fe))
theorem runS3R_is (P : Params) (b c : Bool) (rho1 tau1 rho2 tau2 : Nat → Nat) (stk1 stk2 : Stk) (h0 : Option Value) (L : LX) (ts tl tt tkc tkn dt fe fn f4 k t6 c0 : Nat) (rest l : List Nat) (es nc : Str) (ln : Int) :
    let o := runS3R P b c rho1 tau1 rho2 tau2 stk1 stk2 h0 L ts tl tt tkc tkn dt fe fn f4 k t6 c0 rest l es nc ln
    (chkL o, cutV [0, 1, 2] o) = (chkR o, some (WL (fP P b c) L.F, [(L.lx, instObj 727 L.d), (L.d, lexD P L (.str ⟨#[32]⟩ ts) ln tl ⟨⟨[]⟩⟩ tt), (L.F, (frame4q P L (tau2 0) es fe ⟨#[13]⟩ tkc))])) := by
  cases b <;> kernel_rfl
noncomputable abbrev runS3L (P : Params) (b c : Bool) (rho1 tau1 rho2 tau2 : Nat → Nat) (stk1 stk2 : Stk) (h0 : Option Value) (L : LX) (ts tl tt tkc tkn dt fe fn f4 k t6 c0 : Nat) (rest l : List Nat) (es nc : Str) (ln : Int) : Out :=
  res (entered (cfg (fP P b c) rho1 tau1 h0 []) stk1 advT (WL (fP P b c) L.F) (ownT P L (.str ⟨#[32]⟩ ts) ln tl ⟨⟨[]⟩⟩ tt k t6 (frame3 P L es fe))) (.ok (.ret (.str ⟨#[10]⟩ tkc))) (cfg (fP P b c) rho2 tau2 h0 (spS3L P rho2 tau2 ln ts tl tt tkc tkn dt c0 rest l)) stk2 advS3L (ownU P L (.str ⟨#[32]⟩ ts) ln tl ⟨⟨[]⟩⟩ tt (frame3 P L es fe))
theorem runS3L_is (P : Params) (b c : Bool) (rho1 tau1 rho2 tau2 : Nat → Nat) (stk1 stk2 : Stk) (h0 : Option Value) (L : LX) (ts tl tt tkc tkn dt fe fn f4 k t6 c0 : Nat) (rest l : List Nat) (es nc : Str) (ln : Int) :
    let o := runS3L P b c rho1 tau1 rho2 tau2 stk1 stk2 h0 L ts tl tt tkc tkn dt fe fn f4 k t6 c0 rest l es nc ln
    (chkL o, cutV [0, 1, 2] o) = (chkR o, some (WL (fP P b c) L.F, [(L.lx, instObj 727 L.d), (L.d, lexD P L (.str ⟨#[32]⟩ ts) (ln + 1) (tau2 4) ⟨⟨[]⟩⟩ tt), (L.F, (frame4q P L (tau2 0) es fe ⟨#[10]⟩ tkc))])) := by
  cases b <;> kernel_rfl
noncomputable abbrev runS3W (P : Params) (b c : Bool) (rho1 tau1 rho2 tau2 : Nat → Nat) (stk1 stk2 : Stk) (h0 : Option Value) (L : LX) (ts tl tt tkc tkn dt fe fn f4 k t6 c0 : Nat) (rest l : List Nat) (es nc : Str) (ln : Int) : Out :=
  res (entered (cfg (fP P b c) rho1 tau1 h0 []) stk1 advT (WL (fP P b c) L.F) (ownT P L (.str ⟨#[32]⟩ ts) ln tl ⟨⟨[]⟩⟩ tt k t6 (frame3 P L es fe))) (.ok (.ret (.str ⟨#[32]⟩ tkc))) (cfg (fP P b c) rho2 tau2 h0 (spS3W P rho2 tau2 ln ts tl tt tkc tkn dt c0 rest l)) stk2 advS3W (ownU P L (.str ⟨#[32]⟩ ts) ln tl ⟨⟨[]⟩⟩ tt (frame3 P L es fe))
theorem runS3W_is (P : Params) (b c : Bool) (rho1 tau1 rho2 tau2 : Nat → Nat) (stk1 stk2 : Stk) (h0 : Option Value) (L : LX) (ts tl tt tkc tkn dt fe fn f4 k t6 c0 : Nat) (rest l : List Nat) (es nc : Str) (ln : Int) :
    let o := runS3W P b c rho1 tau1 rho2 tau2 stk1 stk2 h0 L ts tl tt tkc tkn dt fe fn f4 k t6 c0 rest l es nc ln
    (chkL o, cutV [0, 1, 2] o) = (chkR o, some (WL (fP P b c) L.F, [(L.lx, instObj 727 L.d), (L.d, lexD P L (.str ⟨#[32]⟩ ts) ln tl ⟨⟨[]⟩⟩ tt), (L.F, (frame4q P L (tau2 0) es fe ⟨#[32]⟩ tkc))])) := by
  cases b <;> kernel_rfl
noncomputable abbrev runS3K (P : Params) (b c : Bool) (rho1 tau1 rho2 tau2 : Nat → Nat) (stk1 stk2 : Stk) (h0 : Option Value) (L : LX) (ts tl tt tkc tkn dt fe fn f4 k t6 c0 : Nat) (rest l : List Nat) (es nc : Str) (ln : Int) : Out :=
  res (entered (cfg (fP P b c) rho1 tau1 h0 []) stk1 advT (WL (fP P b c) L.F) (ownT P L (.str ⟨#[32]⟩ ts) ln tl ⟨⟨[]⟩⟩ tt k t6 (frame3 P L es fe))) (.ok (.ret (.str ⟨#[92]⟩ tkc))) (cfg (fP P b c) rho2 tau2 h0 (spS3K P rho2 tau2 ln ts tl tt tkc tkn dt c0 rest l)) stk2 advS3K (ownU P L (.str ⟨#[32]⟩ ts) ln tl ⟨⟨[]⟩⟩ tt (frame3 P L es fe))
theorem runS3K_is (P : Params) (b c : Bool) (rho1 tau1 rho2 tau2 : Nat → Nat) (stk1 stk2 : Stk) (h0 : Option Value) (L : LX) (ts tl tt tkc tkn dt fe fn f4 k t6 c0 : Nat) (rest l : List Nat) (es nc : Str) (ln : Int) :
    let o := runS3K P b c rho1 tau1 rho2 tau2 stk1 stk2 h0 L ts tl tt tkc tkn dt fe fn f4 k t6 c0 rest l es nc ln
    (chkL o, cutV [0, 1, 2] o) = (chkR o, some (WL (fP P b c) L.F, [(L.lx, instObj 727 L.d), (L.d, lexD P L (.str ⟨#[92]⟩ tkc) ln tl ⟨⟨[]⟩⟩ tt), (L.F, (frame4q P L (tau2 0) ⟨#[97]⟩ (tau2 13) ⟨#[92]⟩ tkc))])) := by
  cases b <;> kernel_rfl
noncomputable abbrev runS3a (P : Params) (b c : Bool) (rho1 tau1 rho2 tau2 : Nat → Nat) (stk1 stk2 : Stk) (h0 : Option Value) (L : LX) (ts tl tt tkc tkn dt fe fn f4 k t6 c0 : Nat) (rest l : List Nat) (es nc : Str) (ln : Int) : Out :=
  res (entered (cfg (fP P b c) rho1 tau1 h0 []) stk1 advT (WL (fP P b c) L.F) (ownT P L (.str ⟨#[32]⟩ ts) ln tl ⟨⟨[]⟩⟩ tt k t6 (frame3 P L es fe))) (.ok (.ret (.str ⟨#[97]⟩ tkc))) (cfg (fP P b c) rho2 tau2 h0 (spS3a P rho2 tau2 ln ts tl tt tkc tkn dt c0 rest l)) stk2 advS3a (ownU P L (.str ⟨#[32]⟩ ts) ln tl ⟨⟨[]⟩⟩ tt (frame3 P L es fe))
theorem runS3a_is (P : Params) (b c : Bool) (rho1 tau1 rho2 tau2 : Nat → Nat) (stk1 stk2 : Stk) (h0 : Option Value) (L : LX) (ts tl tt tkc tkn dt fe fn f4 k t6 c0 : Nat) (rest l : List Nat) (es nc : Str) (ln : Int) :
    let o := runS3a P b c rho1 tau1 rho2 tau2 stk1 stk2 h0 L ts tl tt tkc tkn dt fe fn f4 k t6 c0 rest l es nc ln
    (chkL o, cutV [0, 1, 2] o) = (chkR o, some (WL (fP P b c) L.F, [(L.lx, instObj 727 L.d), (L.d, lexD P L (.str ⟨#[97]⟩ (tau2 16)) ln tl ⟨⟨[97]⟩⟩ tkc), (L.F, (frame4q P L (tau2 0) es fe ⟨#[97]⟩ tkc))])) := by
  cases b <;> kernel_rfl
noncomputable abbrev runS3D (P : Params) (b c : Bool) (rho1 tau1 rho2 tau2 : Nat → Nat) (stk1 stk2 : Stk) (h0 : Option Value) (L : LX) (ts tl tt tkc tkn dt fe fn f4 k t6 c0 : Nat) (rest l : List Nat) (es nc : Str) (ln : Int) : Out :=
  res (entered (cfg (fP P b c) rho1 tau1 h0 []) stk1 advT (WL (fP P b c) L.F) (ownT P L (.str ⟨#[32]⟩ ts) ln tl ⟨⟨[]⟩⟩ tt k t6 (frame3 P L es fe))) (.ok (.ret (.str ⟨#[46]⟩ tkc))) (cfg (fP P b c) rho2 tau2 h0 (spS3D P rho2 tau2 ln ts tl tt tkc tkn dt c0 rest l)) stk2 advS3D (ownU P L (.str ⟨#[32]⟩ ts) ln tl ⟨⟨[]⟩⟩ tt (frame3 P L es fe))
theorem runS3D_is (P : Params) (b c : Bool) (rho1 tau1 rho2 tau2 : Nat → Nat) (stk1 stk2 : Stk) (h0 : Option Value) (L : LX) (ts tl tt tkc tkn dt fe fn f4 k t6 c0 : Nat) (rest l : List Nat) (es nc : Str) (ln : Int) :
    let o := runS3D P b c rho1 tau1 rho2 tau2 stk1 stk2 h0 L ts tl tt tkc tkn dt fe fn f4 k t6 c0 rest l es nc ln
    (chkL o, cutV [0, 1, 2] o) = (chkR o, some (WL (fP P b c) L.F, [(L.lx, instObj 727 L.d), (L.d, lexD P L (.str ⟨#[97]⟩ (tau2 21)) ln tl ⟨⟨[46]⟩⟩ tkc), (L.F, (frame4q P L (tau2 0) es fe ⟨#[46]⟩ tkc))])) := by
  cases b <;> kernel_rfl
noncomputable abbrev runN3E (P : Params) (b c : Bool) (rho1 tau1 rho2 tau2 : Nat → Nat) (stk1 stk2 : Stk) (h0 : Option Value) (L : LX) (ts tl tt tkc tkn dt fe fn f4 k t6 c0 : Nat) (rest l : List Nat) (es nc : Str) (ln : Int) : Out :=
  res (entered (cfg (fP P b c) rho1 tau1 h0 []) stk1 advT (WL (fP P b c) L.F) (ownT P L .none ln tl ⟨⟨[]⟩⟩ tt k t6 (frame3 P L es fe))) (.ok (.ret (.str ⟨#[]⟩ tkc))) (cfg (fP P b c) rho2 tau2 h0 (spN3E P rho2 tau2 ln ts tl tt tkc tkn dt c0 rest l)) stk2 advN3E (ownU P L .none ln tl ⟨⟨[]⟩⟩ tt (frame3 P L es fe))
theorem runN3E_is (P : Params) (b c : Bool) (rho1 tau1 rho2 tau2 : Nat → Nat) (stk1 stk2 : Stk) (h0 : Option Value) (L : LX) (ts tl tt tkc tkn dt fe fn f4 k t6 c0 : Nat) (rest l : List Nat) (es nc : Str) (ln : Int) :
    let o := runN3E P b c rho1 tau1 rho2 tau2 stk1 stk2 h0 L ts tl tt tkc tkn dt fe fn f4 k t6 c0 rest l es nc ln
    (chkL o, retV [0, 1, 2] o) = (chkR o, some (.ok .next, [(L.lx, instObj 727 L.d), (L.d, lexD P L .none ln tl ⟨⟨[]⟩⟩ (tau2 5)), (L.F, (frame4q P L (tau2 0) es fe ⟨#[]⟩ tkc))])) := by
  cases b <;> kernel_rfl
noncomputable abbrev runS4E (P : Params) (b c : Bool) (rho1 tau1 rho2 tau2 : Nat → Nat) (stk1 stk2 : Stk) (h0 : Option Value) (L : LX) (ts tl tt tkc tkn dt fe fn f4 k t6 c0 : Nat) (rest l : List Nat) (es nc : Str) (ln : Int) : Out :=
  res (entered (cfg (fP P b c) rho1 tau1 h0 []) stk1 advT (WL (fP P b c) L.F) (ownT P L (.str ⟨#[32]⟩ ts) ln tl ⟨⟨[]⟩⟩ tt k t6 (frame4 P L f4 es fe nc fn))) (.ok (.ret (.str ⟨#[]⟩ tkc))) (cfg (fP P b c) rho2 tau2 h0 (spS4E P rho2 tau2 ln ts tl tt tkc tkn dt c0 rest l)) stk2 advS4E (ownU P L (.str ⟨#[32]⟩ ts) ln tl ⟨⟨[]⟩⟩ tt (frame4 P L f4 es fe nc fn))
theorem runS4E_is (P : Params) (b c : Bool) (rho1 tau1 rho2 tau2 : Nat → Nat) (stk1 stk2 : Stk) (h0 : Option Value) (L : LX) (ts tl tt tkc tkn dt fe fn f4 k t6 c0 : Nat) (rest l : List Nat) (es nc : Str) (ln : Int) :
    let o := runS4E P b c rho1 tau1 rho2 tau2 stk1 stk2 h0 L ts tl tt tkc tkn dt fe fn f4 k t6 c0 rest l es nc ln
    (chkL o, retV [0, 1, 2] o) = (chkR o, some (.ok .next, [(L.lx, instObj 727 L.d), (L.d, lexD P L .none ln tl ⟨⟨[]⟩⟩ tt), (L.F, (frame4 P L f4 es fe ⟨#[]⟩ tkc))])) := by
  cases b <;> kernel_rfl
noncomputable abbrev runS4R (P : Params) (b c : Bool) (rho1 tau1 rho2 tau2 : Nat → Nat) (stk1 stk2 : Stk) (h0 : Option Value) (L : LX) (ts tl tt tkc tkn dt fe fn f4 k t6 c0 : Nat) (rest l : List Nat) (es nc : Str) (ln : Int) : Out :=
  res (entered (cfg (fP P b c) rho1 tau1 h0 []) stk1 advT (WL (fP P b c) L.F) (ownT P L (.str ⟨#[32]⟩ ts) ln tl ⟨⟨[]⟩⟩ tt k t6 (frame4 P L f4 es fe nc fn))) (.ok (.ret (.str ⟨#[13]⟩ tkc))) (cfg (fP P b c) rho2 tau2 h0 (spS4R P rho2 tau2 ln ts tl tt tkc tkn dt c0 rest l)) stk2 advS4R (ownU P L (.str ⟨#[32]⟩ ts) ln tl ⟨⟨[]⟩⟩ tt (frame4 P L f4 es fe nc fn))
theorem runS4R_is (P : Params) (b c : Bool) (rho1 tau1 rho2 tau2 : Nat → Nat) (stk1 stk2 : Stk) (h0 : Option Value) (L : LX) (ts tl tt tkc tkn dt fe fn f4 k t6 c0 : Nat) (rest l : List Nat) (es nc : Str) (ln : Int) :
    let o := runS4R P b c rho1 tau1 rho2 tau2 stk1 stk2 h0 L ts tl tt tkc tkn dt fe fn f4 k t6 c0 rest l es nc ln
    (chkL o, cutV [0, 1, 2] o) = (chkR o, some (WL (fP P b c) L.F, [(L.lx, instObj 727 L.d), (L.d, lexD P L (.str ⟨#[32]⟩ ts) ln tl ⟨⟨[]⟩⟩ tt), (L.F, (frame4 P L f4 es fe ⟨#[13]⟩ tkc))])) := by
  cases b <;> kernel_rfl
noncomputable abbrev runS4L (P : Params) (b c : Bool) (rho1 tau1 rho2 tau2 : Nat → Nat) (stk1 stk2 : Stk) (h0 : Option Value) (L : LX) (ts tl tt tkc tkn dt fe fn f4 k t6 c0 : Nat) (rest l : List Nat) (es nc : Str) (ln : Int) : Out :=
  res (entered (cfg (fP P b c) rho1 tau1 h0 []) stk1 advT (WL (fP P b c) L.F) (ownT P L (.str ⟨#[32]⟩ ts) ln tl ⟨⟨[]⟩⟩ tt k t6 (frame4 P L f4 es fe nc fn))) (.ok (.ret (.str ⟨#[10]⟩ tkc))) (cfg (fP P b c) rho2 tau2 h0 (spS4L P rho2 tau2 ln ts tl tt tkc tkn dt c0 rest l)) stk2 advS4L (ownU P L (.str ⟨#[32]⟩ ts) ln tl ⟨⟨[]⟩⟩ tt (frame4 P L f4 es fe nc fn))
theorem runS4L_is (P : Params) (b c : Bool) (rho1 tau1 rho2 tau2 : Nat → Nat) (stk1 stk2 : Stk) (h0 : Option Value) (L : LX) (ts tl tt tkc tkn dt fe fn f4 k t6 c0 : Nat) (rest l : List Nat) (es nc : Str) (ln : Int) :
    let o := runS4L P b c rho1 tau1 rho2 tau2 stk1 stk2 h0 L ts tl tt tkc tkn dt fe fn f4 k t6 c0 rest l es nc ln
    (chkL o, cutV [0, 1, 2] o) = (chkR o, some (WL (fP P b c) L.F, [(L.lx, instObj 727 L.d), (L.d, lexD P L (.str ⟨#[32]⟩ ts) (ln + 1) (tau2 4) ⟨⟨[]⟩⟩ tt), (L.F, (frame4 P L f4 es fe ⟨#[10]⟩ tkc))])) := by
  cases b <;> kernel_rfl
noncomputable abbrev runS4W (P : Params) (b c : Bool) (rho1 tau1 rho2 tau2 : Nat → Nat) (stk1 stk2 : Stk) (h0 : Option Value) (L : LX) (ts tl tt tkc tkn dt fe fn f4 k t6 c0 : Nat) (rest l : List Nat) (es nc : Str) (ln : Int) : Out :=
  res (entered (cfg (fP P b c) rho1 tau1 h0 []) stk1 advT (WL (fP P b c) L.F) (ownT P L (.str ⟨#[32]⟩ ts) ln tl ⟨⟨[]⟩⟩ tt k t6 (frame4 P L f4 es fe nc fn))) (.ok (.ret (.str ⟨#[32]⟩ tkc))) (cfg (fP P b c) rho2 tau2 h0 (spS4W P rho2 tau2 ln ts tl tt tkc tkn dt c0 rest l)) stk2 advS4W (ownU P L (.str ⟨#[32]⟩ ts) ln tl ⟨⟨[]⟩⟩ tt (frame4 P L f4 es fe nc fn))
theorem runS4W_is (P : Params) (b c : Bool) (rho1 tau1 rho2 tau2 : Nat → Nat) (stk1 stk2 : Stk) (h0 : Option Value) (L : LX) (ts tl tt tkc tkn dt fe fn f4 k t6 c0 : Nat) (rest l : List Nat) (es nc : Str) (ln : Int) :
    let o := runS4W P b c rho1 tau1 rho2 tau2 stk1 stk2 h0 L ts tl tt tkc tkn dt fe fn f4 k t6 c0 rest l es nc ln
    (chkL o, cutV [0, 1, 2] o) = (chkR o, some (WL (fP P b c) L.F, [(L.lx, instObj 727 L.d), (L.d, lexD P L (.str ⟨#[32]⟩ ts) ln tl ⟨⟨[]⟩⟩ tt), (L.F, (frame4 P L f4 es fe ⟨#[32]⟩ tkc))])) := by
  cases b <;> kernel_rfl
noncomputable abbrev runS4K (P : Params) (b c : Bool) (rho1 tau1 rho2 tau2 : Nat → Nat) (stk1 stk2 : Stk) (h0 : Option Value) (L : LX) (ts tl tt tkc tkn dt fe fn f4 k t6 c0 : Nat) (rest l : List Nat) (es nc : Str) (ln : Int) : Out :=
  res (entered (cfg (fP P b c) rho1 tau1 h0 []) stk1 advT (WL (fP P b c) L.F) (ownT P L (.str ⟨#[32]⟩ ts) ln tl ⟨⟨[]⟩⟩ tt k t6 (frame4 P L f4 es fe nc fn))) (.ok (.ret (.str ⟨#[92]⟩ tkc))) (cfg (fP P b c) rho2 tau2 h0 (spS4K P rho2 tau2 ln ts tl tt tkc tkn dt c0 rest l)) stk2 advS4K (ownU P L (.str ⟨#[32]⟩ ts) ln tl ⟨⟨[]⟩⟩ tt (frame4 P L f4 es fe nc fn))
theorem runS4K_is (P : Params) (b c : Bool) (rho1 tau1 rho2 tau2 : Nat → Nat) (stk1 stk2 : Stk) (h0 : Option Value) (L : LX) (ts tl tt tkc tkn dt fe fn f4 k t6 c0 : Nat) (rest l : List Nat) (es nc : Str) (ln : Int) :
    let o := runS4K P b c rho1 tau1 rho2 tau2 stk1 stk2 h0 L ts tl tt tkc tkn dt fe fn f4 k t6 c0 rest l es nc ln
    (chkL o, cutV [0, 1, 2] o) = (chkR o, some (WL (fP P b c) L.F, [(L.lx, instObj 727 L.d), (L.d, lexD P L (.str ⟨#[92]⟩ tkc) ln tl ⟨⟨[]⟩⟩ tt), (L.F, (frame4 P L f4 ⟨#[97]⟩ (tau2 13) ⟨#[92]⟩ tkc))])) := by
  cases b <;> kernel_rfl
noncomputable abbrev runS4a (P : Params) (b c : Bool) (rho1 tau1 rho2 tau2 : Nat → Nat) (stk1 stk2 : Stk) (h0 : Option Value) (L : LX) (ts tl tt tkc tkn dt fe fn f4 k t6 c0 : Nat) (rest l : List Nat) (es nc : Str) (ln : Int) : Out :=
  res (entered (cfg (fP P b c) rho1 tau1 h0 []) stk1 advT (WL (fP P b c) L.F) (ownT P L (.str ⟨#[32]⟩ ts) ln tl ⟨⟨[]⟩⟩ tt k t6 (frame4 P L f4 es fe nc fn))) (.ok (.ret (.str ⟨#[97]⟩ tkc))) (cfg (fP P b c) rho2 tau2 h0 (spS4a P rho2 tau2 ln ts tl tt tkc tkn dt c0 rest l)) stk2 advS4a (ownU P L (.str ⟨#[32]⟩ ts) ln tl ⟨⟨[]⟩⟩ tt (frame4 P L f4 es fe nc fn))
theorem runS4a_is (P : Params) (b c : Bool) (rho1 tau1 rho2 tau2 : Nat → Nat) (stk1 stk2 : Stk) (h0 : Option Value) (L : LX) (ts tl tt tkc tkn dt fe fn f4 k t6 c0 : Nat) (rest l : List Nat) (es nc : Str) (ln : Int) :
    let o := runS4a P b c rho1 tau1 rho2 tau2 stk1 stk2 h0 L ts tl tt tkc tkn dt fe fn f4 k t6 c0 rest l es nc ln
    (chkL o, cutV [0, 1, 2] o) = (chkR o, some (WL (fP P b c) L.F, [(L.lx, instObj 727 L.d), (L.d, lexD P L (.str ⟨#[97]⟩ (tau2 16)) ln tl ⟨⟨[97]⟩⟩ tkc), (L.F, (frame4 P L f4 es fe ⟨#[97]⟩ tkc))])) := by
  cases b <;> kernel_rfl
noncomputable abbrev runS4D (P : Params) (b c : Bool) (rho1 tau1 rho2 tau2 : Nat → Nat) (stk1 stk2 : Stk) (h0 : Option Value) (L : LX) (ts tl tt tkc tkn dt fe fn f4 k t6 c0 : Nat) (rest l : List Nat) (es nc : Str) (ln : Int) : Out :=
  res (entered (cfg (fP P b c) rho1 tau1 h0 []) stk1 advT (WL (fP P b c) L.F) (ownT P L (.str ⟨#[32]⟩ ts) ln tl ⟨⟨[]⟩⟩ tt k t6 (frame4 P L f4 es fe nc fn))) (.ok (.ret (.str ⟨#[46]⟩ tkc))) (cfg (fP P b c) rho2 tau2 h0 (spS4D P rho2 tau2 ln ts tl tt tkc tkn dt c0 rest l)) stk2 advS4D (ownU P L (.str ⟨#[32]⟩ ts) ln tl ⟨⟨[]⟩⟩ tt (frame4 P L f4 es fe nc fn))
theorem runS4D_is (P : Params) (b c : Bool) (rho1 tau1 rho2 tau2 : Nat → Nat) (stk1 stk2 : Stk) (h0 : Option Value) (L : LX) (ts tl tt tkc tkn dt fe fn f4 k t6 c0 : Nat) (rest l : List Nat) (es nc : Str) (ln : Int) :
    let o := runS4D P b c rho1 tau1 rho2 tau2 stk1 stk2 h0 L ts tl tt tkc tkn dt fe fn f4 k t6 c0 rest l es nc ln
    (chkL o, cutV [0, 1, 2] o) = (chkR o, some (WL (fP P b c) L.F, [(L.lx, instObj 727 L.d), (L.d, lexD P L (.str ⟨#[97]⟩ (tau2 21)) ln tl ⟨⟨[46]⟩⟩ tkc), (L.F, (frame4 P L f4 es fe ⟨#[46]⟩ tkc))])) := by
  cases b <;> kernel_rfl
noncomputable abbrev runA4E (P : Params) (b c : Bool) (rho1 tau1 rho2 tau2 : Nat → Nat) (stk1 stk2 : Stk) (h0 : Option Value) (L : LX) (ts tl tt tkc tkn dt fe fn f4 k t6 c0 : Nat) (rest l : List Nat) (es nc : Str) (ln : Int) : Out :=
  res (entered (cfg (fP P b c) rho1 tau1 h0 []) stk1 advT (WL (fP P b c) L.F) (ownT P L (.str ⟨#[97]⟩ ts) ln tl ⟨⟨(c0 :: rest)⟩⟩ tt k t6 (frame4 P L f4 es fe nc fn))) (.ok (.ret (.str ⟨#[]⟩ tkc))) (cfg (fP P b c) rho2 tau2 h0 (spA4E P rho2 tau2 ln ts tl tt tkc tkn dt c0 rest l)) stk2 advA4E (ownU P L (.str ⟨#[97]⟩ ts) ln tl ⟨⟨(c0 :: rest)⟩⟩ tt (frame4 P L f4 es fe nc fn))
theorem runA4E_is (P : Params) (b c : Bool) (rho1 tau1 rho2 tau2 : Nat → Nat) (stk1 stk2 : Stk) (h0 : Option Value) (L : LX) (ts tl tt tkc tkn dt fe fn f4 k t6 c0 : Nat) (rest l : List Nat) (es nc : Str) (ln : Int) :
    let o := runA4E P b c rho1 tau1 rho2 tau2 stk1 stk2 h0 L ts tl tt tkc tkn dt fe fn f4 k t6 c0 rest l es nc ln
    (chkL o, retV [0, 1, 2] o) = (chkR o, some (.ok .next, [(L.lx, instObj 727 L.d), (L.d, lexD P L .none ln tl ⟨⟨(c0 :: rest)⟩⟩ tt), (L.F, (frame4 P L f4 es fe ⟨#[]⟩ tkc))])) := by
  cases b <;> kernel_rfl
noncomputable abbrev runA4R (P : Params) (b c : Bool) (rho1 tau1 rho2 tau2 : Nat → Nat) (stk1 stk2 : Stk) (h0 : Option Value) (L : LX) (ts tl tt tkc tkn dt fe fn f4 k t6 c0 : Nat) (rest l : List Nat) (es nc : Str) (ln : Int) : Out :=
  res (entered (cfg (fP P b c) rho1 tau1 h0 []) stk1 advT (WL (fP P b c) L.F) (ownT P L (.str ⟨#[97]⟩ ts) ln tl ⟨⟨(c0 :: rest)⟩⟩ tt k t6 (frame4 P L f4 es fe nc fn))) (.ok (.ret (.str ⟨#[13]⟩ tkc))) (cfg (fP P b c) rho2 tau2 h0 (spA4R P rho2 tau2 ln ts tl tt tkc tkn dt c0 rest l)) stk2 advA4R (ownU P L (.str ⟨#[97]⟩ ts) ln tl ⟨⟨(c0 :: rest)⟩⟩ tt (frame4 P L f4 es fe nc fn))
theorem runA4R_is (P : Params) (b c : Bool) (rho1 tau1 rho2 tau2 : Nat → Nat) (stk1 stk2 : Stk) (h0 : Option Value) (L : LX) (ts tl tt tkc tkn dt fe fn f4 k t6 c0 : Nat) (rest l : List Nat) (es nc : Str) (ln : Int) :
    let o := runA4R P b c rho1 tau1 rho2 tau2 stk1 stk2 h0 L ts tl tt tkc tkn dt fe fn f4 k t6 c0 rest l es nc ln
    (chkL o, retV [0, 1, 2] o) = (chkR o, some (.ok .next, [(L.lx, instObj 727 L.d), (L.d, lexD P L (.str ⟨#[32]⟩ (tau2 19)) ln tl ⟨⟨(c0 :: rest)⟩⟩ tt), (L.F, (frame4 P L f4 es fe ⟨#[13]⟩ tkc))])) := by
  cases b <;> kernel_rfl
noncomputable abbrev runA4L (P : Params) (b c : Bool) (rho1 tau1 rho2 tau2 : Nat → Nat) (stk1 stk2 : Stk) (h0 : Option Value) (L : LX) (ts tl tt tkc tkn dt fe fn f4 k t6 c0 : Nat) (rest l : List Nat) (es nc : Str) (ln : Int) : Out :=
  res (entered (cfg (fP P b c) rho1 tau1 h0 []) stk1 advT (WL (fP P b c) L.F) (ownT P L (.str ⟨#[97]⟩ ts) ln tl ⟨⟨(c0 :: rest)⟩⟩ tt k t6 (frame4 P L f4 es fe nc fn))) (.ok (.ret (.str ⟨#[10]⟩ tkc))) (cfg (fP P b c) rho2 tau2 h0 (spA4L P rho2 tau2 ln ts tl tt tkc tkn dt c0 rest l)) stk2 advA4L (ownU P L (.str ⟨#[97]⟩ ts) ln tl ⟨⟨(c0 :: rest)⟩⟩ tt (frame4 P L f4 es fe nc fn))
theorem runA4L_is (P : Params) (b c : Bool) (rho1 tau1 rho2 tau2 : Nat → Nat) (stk1 stk2 : Stk) (h0 : Option Value) (L : LX) (ts tl tt tkc tkn dt fe fn f4 k t6 c0 : Nat) (rest l : List Nat) (es nc : Str) (ln : Int) :
    let o := runA4L P b c rho1 tau1 rho2 tau2 stk1 stk2 h0 L ts tl tt tkc tkn dt fe fn f4 k t6 c0 rest l es nc ln
    (chkL o, retV [0, 1, 2] o) = (chkR o, some (.ok .next, [(L.lx, instObj 727 L.d), (L.d, lexD P L (.str ⟨#[32]⟩ (tau2 24)) (ln + 1) (tau2 4) ⟨⟨(c0 :: rest)⟩⟩ tt), (L.F, (frame4 P L f4 es fe ⟨#[10]⟩ tkc))])) := by
  cases b <;> kernel_rfl
noncomputable abbrev runA4W (P : Params) (b c : Bool) (rho1 tau1 rho2 tau2 : Nat → Nat) (stk1 stk2 : Stk) (h0 : Option Value) (L : LX) (ts tl tt tkc tkn dt fe fn f4 k t6 c0 : Nat) (rest l : List Nat) (es nc : Str) (ln : Int) : Out :=
  res (entered (cfg (fP P b c) rho1 tau1 h0 []) stk1 advT (WL (fP P b c) L.F) (ownT P L (.str ⟨#[97]⟩ ts) ln tl ⟨⟨(c0 :: rest)⟩⟩ tt k t6 (frame4 P L f4 es fe nc fn))) (.ok (.ret (.str ⟨#[32]⟩ tkc))) (cfg (fP P b c) rho2 tau2 h0 (spA4W P rho2 tau2 ln ts tl tt tkc tkn dt c0 rest l)) stk2 advA4W (ownU P L (.str ⟨#[97]⟩ ts) ln tl ⟨⟨(c0 :: rest)⟩⟩ tt (frame4 P L f4 es fe nc fn))
theorem runA4W_is (P : Params) (b c : Bool) (rho1 tau1 rho2 tau2 : Nat → Nat) (stk1 stk2 : Stk) (h0 : Option Value) (L : LX) (ts tl tt tkc tkn dt fe fn f4 k t6 c0 : Nat) (rest l : List Nat) (es nc : Str) (ln : Int) :
    let o := runA4W P b c rho1 tau1 rho2 tau2 stk1 stk2 h0 L ts tl tt tkc tkn dt fe fn f4 k t6 c0 rest l es nc ln
    (chkL o, retV [0, 1, 2] o) = (chkR o, some (.ok .next, [(L.lx, instObj 727 L.d), (L.d, lexD P L (.str ⟨#[32]⟩ (tau2 19)) ln tl ⟨⟨(c0 :: rest)⟩⟩ tt), (L.F, (frame4 P L f4 es fe ⟨#[32]⟩ tkc))])) := by
  cases b <;> kernel_rfl
noncomputable abbrev runA4K (P : Params) (b c : Bool) (rho1 tau1 rho2 tau2 : Nat → Nat) (stk1 stk2 : Stk) (h0 : Option Value) (L : LX) (ts tl tt tkc tkn dt fe fn f4 k t6 c0 : Nat) (rest l : List Nat) (es nc : Str) (ln : Int) : Out :=
  res (entered (cfg (fP P b c) rho1 tau1 h0 []) stk1 advT (WL (fP P b c) L.F) (ownT P L (.str ⟨#[97]⟩ ts) ln tl ⟨⟨(c0 :: rest)⟩⟩ tt k t6 (frame4 P L f4 es fe nc fn))) (.ok (.ret (.str ⟨#[92]⟩ tkc))) (cfg (fP P b c) rho2 tau2 h0 (spA4K P rho2 tau2 ln ts tl tt tkc tkn dt c0 rest l)) stk2 advA4K (ownU P L (.str ⟨#[97]⟩ ts) ln tl ⟨⟨(c0 :: rest)⟩⟩ tt (frame4 P L f4 es fe nc fn))
theorem runA4K_is (P : Params) (b c : Bool) (rho1 tau1 rho2 tau2 : Nat → Nat) (stk1 stk2 : Stk) (h0 : Option Value) (L : LX) (ts tl tt tkc tkn dt fe fn f4 k t6 c0 : Nat) (rest l : List Nat) (es nc : Str) (ln : Int) :
    let o := runA4K P b c rho1 tau1 rho2 tau2 stk1 stk2 h0 L ts tl tt tkc tkn dt fe fn f4 k t6 c0 rest l es nc ln
    (chkL o, cutV [0, 1, 2] o) = (chkR o, some (WL (fP P b c) L.F, [(L.lx, instObj 727 L.d), (L.d, lexD P L (.str ⟨#[92]⟩ tkc) ln tl ⟨⟨(c0 :: rest)⟩⟩ tt), (L.F, (frame4 P L f4 ⟨#[97]⟩ (tau2 24) ⟨#[92]⟩ tkc))])) := by
  cases b <;> kernel_rfl
noncomputable abbrev runA4a (P : Params) (b c : Bool) (rho1 tau1 rho2 tau2 : Nat → Nat) (stk1 stk2 : Stk) (h0 : Option Value) (L : LX) (ts tl tt tkc tkn dt fe fn f4 k t6 c0 : Nat) (rest l : List Nat) (es nc : Str) (ln : Int) : Out :=
  res (entered (cfg (fP P b c) rho1 tau1 h0 []) stk1 advT (WL (fP P b c) L.F) (ownT P L (.str ⟨#[97]⟩ ts) ln tl ⟨⟨(c0 :: rest)⟩⟩ tt k t6 (frame4 P L f4 es fe nc fn))) (.ok (.ret (.str ⟨#[97]⟩ tkc))) (cfg (fP P b c) rho2 tau2 h0 (spA4a P rho2 tau2 ln ts tl tt tkc tkn dt c0 rest l)) stk2 advA4a (ownU P L (.str ⟨#[97]⟩ ts) ln tl ⟨⟨(c0 :: rest)⟩⟩ tt (frame4 P L f4 es fe nc fn))
theorem runA4a_is (P : Params) (b c : Bool) (rho1 tau1 rho2 tau2 : Nat → Nat) (stk1 stk2 : Stk) (h0 : Option Value) (L : LX) (ts tl tt tkc tkn dt fe fn f4 k t6 c0 : Nat) (rest l : List Nat) (es nc : Str) (ln : Int) :
    let o := runA4a P b c rho1 tau1 rho2 tau2 stk1 stk2 h0 L ts tl tt tkc tkn dt fe fn f4 k t6 c0 rest l es nc ln
    (chkL o, cutV [0, 1, 2] o) = (chkR o, some (WL (fP P b c) L.F, [(L.lx, instObj 727 L.d), (L.d, lexD P L (.str ⟨#[97]⟩ ts) ln tl ⟨⟨(c0 :: (rest ++ [97]))⟩⟩ tkn), (L.F, (frame4 P L f4 es fe ⟨#[97]⟩ tkc))])) := by
  cases b <;> kernel_rfl
noncomputable abbrev runA4D (P : Params) (b c : Bool) (rho1 tau1 rho2 tau2 : Nat → Nat) (stk1 stk2 : Stk) (h0 : Option Value) (L : LX) (ts tl tt tkc tkn dt fe fn f4 k t6 c0 : Nat) (rest l : List Nat) (es nc : Str) (ln : Int) : Out :=
  res (entered (cfg (fP P b c) rho1 tau1 h0 []) stk1 advT (WL (fP P b c) L.F) (ownT P L (.str ⟨#[97]⟩ ts) ln tl ⟨⟨(c0 :: rest)⟩⟩ tt k t6 (frame4 P L f4 es fe nc fn))) (.ok (.ret (.str ⟨#[46]⟩ tkc))) (cfg (fP P b c) rho2 tau2 h0 (spA4D P rho2 tau2 ln ts tl tt tkc tkn dt c0 rest l)) stk2 advA4D (ownU P L (.str ⟨#[97]⟩ ts) ln tl ⟨⟨(c0 :: rest)⟩⟩ tt (frame4 P L f4 es fe nc fn))
theorem runA4D_is (P : Params) (b c : Bool) (rho1 tau1 rho2 tau2 : Nat → Nat) (stk1 stk2 : Stk) (h0 : Option Value) (L : LX) (ts tl tt tkc tkn dt fe fn f4 k t6 c0 : Nat) (rest l : List Nat) (es nc : Str) (ln : Int) :
    let o := runA4D P b c rho1 tau1 rho2 tau2 stk1 stk2 h0 L ts tl tt tkc tkn dt fe fn f4 k t6 c0 rest l es nc ln
    (chkL o, cutV [0, 1, 2] o) = (chkR o, some (WL (fP P b c) L.F, [(L.lx, instObj 727 L.d), (L.d, lexD P L (.str ⟨#[97]⟩ ts) ln tl ⟨⟨(c0 :: (rest ++ [46]))⟩⟩ tkn), (L.F, (frame4 P L f4 es fe ⟨#[46]⟩ tkc))])) := by
  cases b <;> kernel_rfl
noncomputable abbrev runB4E (P : Params) (b c : Bool) (rho1 tau1 rho2 tau2 : Nat → Nat) (stk1 stk2 : Stk) (h0 : Option Value) (L : LX) (ts tl tt tkc tkn dt fe fn f4 k t6 c0 : Nat) (rest l : List Nat) (es nc : Str) (ln : Int) : Out :=
  res (entered (cfg (fP P b c) rho1 tau1 h0 []) stk1 advT (WL (fP P b c) L.F) (ownT P L (.str ⟨#[92]⟩ ts) ln tl ⟨⟨l⟩⟩ tt k t6 (frame4 P L f4 ⟨#[97]⟩ fe nc fn))) (.ok (.ret (.str ⟨#[]⟩ tkc))) (cfg (fP P b c) rho2 tau2 h0 (spB4E P rho2 tau2 ln ts tl tt tkc tkn dt c0 rest l)) stk2 advB4E (ownU P L (.str ⟨#[92]⟩ ts) ln tl ⟨⟨l⟩⟩ tt (frame4 P L f4 ⟨#[97]⟩ fe nc fn))
noncomputable abbrev runB4R (P : Params) (b c : Bool) (rho1 tau1 rho2 tau2 : Nat → Nat) (stk1 stk2 : Stk) (h0 : Option Value) (L : LX) (ts tl tt tkc tkn dt fe fn f4 k t6 c0 : Nat) (rest l : List Nat) (es nc : Str) (ln : Int) : Out :=
  res (entered (cfg (fP P b c) rho1 tau1 h0 []) stk1 advT (WL (fP P b c) L.F) (ownT P L (.str ⟨#[92]⟩ ts) ln tl ⟨⟨l⟩⟩ tt k t6 (frame4 P L f4 ⟨#[97]⟩ fe nc fn))) (.ok (.ret (.str ⟨#[13]⟩ tkc))) (cfg (fP P b c) rho2 tau2 h0 (spB4R P rho2 tau2 ln ts tl tt tkc tkn dt c0 rest l)) stk2 advB4R (ownU P L (.str ⟨#[92]⟩ ts) ln tl ⟨⟨l⟩⟩ tt (frame4 P L f4 ⟨#[97]⟩ fe nc fn))
theorem runB4R_is (P : Params) (b c : Bool) (rho1 tau1 rho2 tau2 : Nat → Nat) (stk1 stk2 : Stk) (h0 : Option Value) (L : LX) (ts tl tt tkc tkn dt fe fn f4 k t6 c0 : Nat) (rest l : List Nat) (es nc : Str) (ln : Int) :
    let o := runB4R P b c rho1 tau1 rho2 tau2 stk1 stk2 h0 L ts tl tt tkc tkn dt fe fn f4 k t6 c0 rest l es nc ln
    (chkL o, cutV [0, 1, 2] o) = (chkR o, some (WL (fP P b c) L.F, [(L.lx, instObj 727 L.d), (L.d, lexD P L (.str ⟨#[97]⟩ fe) ln tl ⟨⟨(l ++ [13])⟩⟩ tkn), (L.F, (frame4 P L f4 ⟨#[97]⟩ fe ⟨#[13]⟩ tkc))])) := by
  cases b <;> kernel_rfl
noncomputable abbrev runB4L (P : Params) (b c : Bool) (rho1 tau1 rho2 tau2 : Nat → Nat) (stk1 stk2 : Stk) (h0 : Option Value) (L : LX) (ts tl tt tkc tkn dt fe fn f4 k t6 c0 : Nat) (rest l : List Nat) (es nc : Str) (ln : Int) : Out :=
  res (entered (cfg (fP P b c) rho1 tau1 h0 []) stk1 advT (WL (fP P b c) L.F) (ownT P L (.str ⟨#[92]⟩ ts) ln tl ⟨⟨l⟩⟩ tt k t6 (frame4 P L f4 ⟨#[97]⟩ fe nc fn))) (.ok (.ret (.str ⟨#[10]⟩ tkc))) (cfg (fP P b c) rho2 tau2 h0 (spB4L P rho2 tau2 ln ts tl tt tkc tkn dt c0 rest l)) stk2 advB4L (ownU P L (.str ⟨#[92]⟩ ts) ln tl ⟨⟨l⟩⟩ tt (frame4 P L f4 ⟨#[97]⟩ fe nc fn))
theorem runB4L_is (P : Params) (b c : Bool) (rho1 tau1 rho2 tau2 : Nat → Nat) (stk1 stk2 : Stk) (h0 : Option Value) (L : LX) (ts tl tt tkc tkn dt fe fn f4 k t6 c0 : Nat) (rest l : List Nat) (es nc : Str) (ln : Int) :
    let o := runB4L P b c rho1 tau1 rho2 tau2 stk1 stk2 h0 L ts tl tt tkc tkn dt fe fn f4 k t6 c0 rest l es nc ln
    (chkL o, cutV [0, 1, 2] o) = (chkR o, some (WL (fP P b c) L.F, [(L.lx, instObj 727 L.d), (L.d, lexD P L (.str ⟨#[97]⟩ fe) (ln + 1) (tau2 4) ⟨⟨(l ++ [10])⟩⟩ tkn), (L.F, (frame4 P L f4 ⟨#[97]⟩ fe ⟨#[10]⟩ tkc))])) := by
  cases b <;> kernel_rfl
noncomputable abbrev runB4W (P : Params) (b c : Bool) (rho1 tau1 rho2 tau2 : Nat → Nat) (stk1 stk2 : Stk) (h0 : Option Value) (L : LX) (ts tl tt tkc tkn dt fe fn f4 k t6 c0 : Nat) (rest l : List Nat) (es nc : Str) (ln : Int) : Out :=
  res (entered (cfg (fP P b c) rho1 tau1 h0 []) stk1 advT (WL (fP P b c) L.F) (ownT P L (.str ⟨#[92]⟩ ts) ln tl ⟨⟨l⟩⟩ tt k t6 (frame4 P L f4 ⟨#[97]⟩ fe nc fn))) (.ok (.ret (.str ⟨#[32]⟩ tkc))) (cfg (fP P b c) rho2 tau2 h0 (spB4W P rho2 tau2 ln ts tl tt tkc tkn dt c0 rest l)) stk2 advB4W (ownU P L (.str ⟨#[92]⟩ ts) ln tl ⟨⟨l⟩⟩ tt (frame4 P L f4 ⟨#[97]⟩ fe nc fn))
theorem runB4W_is (P : Params) (b c : Bool) (rho1 tau1 rho2 tau2 : Nat → Nat) (stk1 stk2 : Stk) (h0 : Option Value) (L : LX) (ts tl tt tkc tkn dt fe fn f4 k t6 c0 : Nat) (rest l : List Nat) (es nc : Str) (ln : Int) :
    let o := runB4W P b c rho1 tau1 rho2 tau2 stk1 stk2 h0 L ts tl tt tkc tkn dt fe fn f4 k t6 c0 rest l es nc ln
    (chkL o, cutV [0, 1, 2] o) = (chkR o, some (WL (fP P b c) L.F, [(L.lx, instObj 727 L.d), (L.d, lexD P L (.str ⟨#[97]⟩ fe) ln tl ⟨⟨(l ++ [32])⟩⟩ tkn), (L.F, (frame4 P L f4 ⟨#[97]⟩ fe ⟨#[32]⟩ tkc))])) := by
  cases b <;> kernel_rfl
noncomputable abbrev runB4K (P : Params) (b c : Bool) (rho1 tau1 rho2 tau2 : Nat → Nat) (stk1 stk2 : Stk) (h0 : Option Value) (L : LX) (ts tl tt tkc tkn dt fe fn f4 k t6 c0 : Nat) (rest l : List Nat) (es nc : Str) (ln : Int) : Out :=
  res (entered (cfg (fP P b c) rho1 tau1 h0 []) stk1 advT (WL (fP P b c) L.F) (ownT P L (.str ⟨#[92]⟩ ts) ln tl ⟨⟨l⟩⟩ tt k t6 (frame4 P L f4 ⟨#[97]⟩ fe nc fn))) (.ok (.ret (.str ⟨#[92]⟩ tkc))) (cfg (fP P b c) rho2 tau2 h0 (spB4K P rho2 tau2 ln ts tl tt tkc tkn dt c0 rest l)) stk2 advB4K (ownU P L (.str ⟨#[92]⟩ ts) ln tl ⟨⟨l⟩⟩ tt (frame4 P L f4 ⟨#[97]⟩ fe nc fn))
theorem runB4K_is (P : Params) (b c : Bool) (rho1 tau1 rho2 tau2 : Nat → Nat) (stk1 stk2 : Stk) (h0 : Option Value) (L : LX) (ts tl tt tkc tkn dt fe fn f4 k t6 c0 : Nat) (rest l : List Nat) (es nc : Str) (ln : Int) :
    let o := runB4K P b c rho1 tau1 rho2 tau2 stk1 stk2 h0 L ts tl tt tkc tkn dt fe fn f4 k t6 c0 rest l es nc ln
    (chkL o, cutV [0, 1, 2] o) = (chkR o, some (WL (fP P b c) L.F, [(L.lx, instObj 727 L.d), (L.d, lexD P L (.str ⟨#[97]⟩ fe) ln tl ⟨⟨(l ++ [92])⟩⟩ tkn), (L.F, (frame4 P L f4 ⟨#[97]⟩ fe ⟨#[92]⟩ tkc))])) := by
  cases b <;> kernel_rfl
noncomputable abbrev runB4a (P : Params) (b c : Bool) (rho1 tau1 rho2 tau2 : Nat → Nat) (stk1 stk2 : Stk) (h0 : Option Value) (L : LX) (ts tl tt tkc tkn dt fe fn f4 k t6 c0 : Nat) (rest l : List Nat) (es nc : Str) (ln : Int) : Out :=
  res (entered (cfg (fP P b c) rho1 tau1 h0 []) stk1 advT (WL (fP P b c) L.F) (ownT P L (.str ⟨#[92]⟩ ts) ln tl ⟨⟨l⟩⟩ tt k t6 (frame4 P L f4 ⟨#[97]⟩ fe nc fn))) (.ok (.ret (.str ⟨#[97]⟩ tkc))) (cfg (fP P b c) rho2 tau2 h0 (spB4a P rho2 tau2 ln ts tl tt tkc tkn dt c0 rest l)) stk2 advB4a (ownU P L (.str ⟨#[92]⟩ ts) ln tl ⟨⟨l⟩⟩ tt (frame4 P L f4 ⟨#[97]⟩ fe nc fn))
theorem runB4a_is (P : Params) (b c : Bool) (rho1 tau1 rho2 tau2 : Nat → Nat) (stk1 stk2 : Stk) (h0 : Option Value) (L : LX) (ts tl tt tkc tkn dt fe fn f4 k t6 c0 : Nat) (rest l : List Nat) (es nc : Str) (ln : Int) :
    let o := runB4a P b c rho1 tau1 rho2 tau2 stk1 stk2 h0 L ts tl tt tkc tkn dt fe fn f4 k t6 c0 rest l es nc ln
    (chkL o, cutV [0, 1, 2] o) = (chkR o, some (WL (fP P b c) L.F, [(L.lx, instObj 727 L.d), (L.d, lexD P L (.str ⟨#[97]⟩ fe) ln tl ⟨⟨(l ++ [97])⟩⟩ tkn), (L.F, (frame4 P L f4 ⟨#[97]⟩ fe ⟨#[97]⟩ tkc))])) := by
  cases b <;> kernel_rfl
noncomputable abbrev runB4D (P : Params) (b c : Bool) (rho1 tau1 rho2 tau2 : Nat → Nat) (stk1 stk2 : Stk) (h0 : Option Value) (L : LX) (ts tl tt tkc tkn dt fe fn f4 k t6 c0 : Nat) (rest l : List Nat) (es nc : Str) (ln : Int) : Out :=
  res (entered (cfg (fP P b c) rho1 tau1 h0 []) stk1 advT (WL (fP P b c) L.F) (ownT P L (.str ⟨#[92]⟩ ts) ln tl ⟨⟨l⟩⟩ tt k t6 (frame4 P L f4 ⟨#[97]⟩ fe nc fn))) (.ok (.ret (.str ⟨#[46]⟩ tkc))) (cfg (fP P b c) rho2 tau2 h0 (spB4D P rho2 tau2 ln ts tl tt tkc tkn dt c0 rest l)) stk2 advB4D (ownU P L (.str ⟨#[92]⟩ ts) ln tl ⟨⟨l⟩⟩ tt (frame4 P L f4 ⟨#[97]⟩ fe nc fn))
theorem runB4D_is (P : Params) (b c : Bool) (rho1 tau1 rho2 tau2 : Nat → Nat) (stk1 stk2 : Stk) (h0 : Option Value) (L : LX) (ts tl tt tkc tkn dt fe fn f4 k t6 c0 : Nat) (rest l : List Nat) (es nc : Str) (ln : Int) :
    let o := runB4D P b c rho1 tau1 rho2 tau2 stk1 stk2 h0 L ts tl tt tkc tkn dt fe fn f4 k t6 c0 rest l es nc ln
    (chkL o, cutV [0, 1, 2] o) = (chkR o, some (WL (fP P b c) L.F, [(L.lx, instObj 727 L.d), (L.d, lexD P L (.str ⟨#[97]⟩ fe) ln tl ⟨⟨(l ++ [46])⟩⟩ tkn), (L.F, (frame4 P L f4 ⟨#[97]⟩ fe ⟨#[46]⟩ tkc))])) := by
  cases b <;> kernel_rfl
end
section
theorem mkHp {h : Heap} {own : List (Addr × Obj)} (hh : ∀ p ∈ own, h.get? p.1 = some p.2) (hn : (own.map (·.1)).Nodup) : Hp (own.map (·.1)) h h own 0 :=
  ⟨rfl, hh, hn, fun p hp => .inl (List.mem_map_of_mem hp), fun b o e _ => e⟩
structure LX.Ok (L : LX) : Prop where
  apart : [L.lx, L.d, L.io, L.di, L.F].Nodup
  high : ∀ a ∈ [L.lx, L.d, L.io, L.di, L.F], 781 ≤ a
  len : L.buf.length < 1000
structure LexAt (w : World) (L : LX) (h : Heap) (stv : Value) (ln : Int) (tl : Nat) (tok : Str) (tt k t6 : Nat) (fr : Obj) : Prop where
  lx : h.get? L.lx = some (instObj 727 L.d)
  d : h.get? L.d = some (lexD w.params L stv ln tl tok tt)
  io : h.get? L.io = some (instObj 592 L.di)
  di : h.get? L.di = some (ioDL w.params L k t6)
  F : h.get? L.F = some fr
/-- the part of a turn up to the reading of a sign -/
theorem part1_3 (P : Params) (b c : Bool) (rho tau : Nat → Nat) (stk : Stk) (h0 : Option Value) (L : LX) (stv : Value) (ln : Int) (tl : Nat) (tok : Str) (tt k t6 : Nat) (es : Str) (fe : Nat) :
    let o := entered (cfg (fP P b c) rho tau h0 []) stk advT (WL (fP P b c) L.F) (ownT P L stv ln tl tok tt k t6 (frame3 P L es fe))
    (chkL o, cutR [0, 1, 2, 3, 4] o) = (chkR o, some (readC L.io (tau 6), ownT P L stv ln tl tok tt k t6 (frame3 P L es fe))) := by
  cases b <;> kernel_rfl
theorem part1_4 (P : Params) (b c : Bool) (rho tau : Nat → Nat) (stk : Stk) (h0 : Option Value) (L : LX) (stv : Value) (ln : Int) (tl : Nat) (tok : Str) (tt k t6 : Nat) (es : Str) (fe f4 : Nat) (nc : Str) (fn : Nat) :
    let o := entered (cfg (fP P b c) rho tau h0 []) stk advT (WL (fP P b c) L.F) (ownT P L stv ln tl tok tt k t6 (frame4 P L f4 es fe nc fn))
    (chkL o, cutR [0, 1, 2, 3, 4] o) = (chkR o, some (readC L.io (tau 6), ownT P L stv ln tl tok tt k t6 (frame4 P L f4 es fe nc fn))) := by
  cases b <;> kernel_rfl
end
section
section
variable {w : World} {A : Around} {R : Result → Shared → Prop} {L : LX}
/-- what stands behind a turn -/
structure TurnTo (w : World) (L : LX) (k : Nat) (l : List (Addr × Obj)) (h h' : Heap) : Prop where
  new : ∀ p ∈ l, h'.get? p.1 = some p.2
  lx : h'.get? L.lx = some (instObj 727 L.d)
  io : h'.get? L.io = some (instObj 592 L.di)
  di : ∃ t6, h'.get? L.di = some (ioDL w.params L k t6)
  keep : ∀ b o, h.get? b = some o → b ≠ L.d → b ≠ L.di → b ≠ L.F → h'.get? b = some o
noncomputable abbrev Part1 (w : World) (L : LX) (stv : Value) (ln : Int) (tl : Nat) (tok : Str) (tt k t6 : Nat) (fr : Obj) : Prop :=
  ∀ b c rho tau stk h0, (chkL (entered (cfg (fP w.params b c) rho tau h0 []) stk advT (WL (fP w.params b c) L.F) (ownT w.params L stv ln tl tok tt k t6 fr)), cutR [0, 1, 2, 3, 4] (entered (cfg (fP w.params b c) rho tau h0 []) stk advT (WL (fP w.params b c) L.F) (ownT w.params L stv ln tl tok tt k t6 fr))) =
    (chkR (entered (cfg (fP w.params b c) rho tau h0 []) stk advT (WL (fP w.params b c) L.F) (ownT w.params L stv ln tl tok tt k t6 fr)), some (readC L.io (tau 6), ownT w.params L stv ln tl tok tt k t6 fr))
noncomputable abbrev ReadIs (w : World) (L : LX) (v : Str) (k k' t6 : Nat) : Prop :=
  ∀ (A' : Around) (R' : Result → Shared → Prop) (s' : Shared) (t0 : Nat), Gr w s'.heap → A'.depth + 100 ≤ recursionLimit → s'.heap.get? L.io = some (instObj 592 L.di) → s'.heap.get? L.di = some (ioDL w.params L k t6) →
    (∀ h tk i, ReadBack w L.io L.di (L.tk 30) (L.tk 31) (L.tk 32) (L.tk 33) (L.tk 34) L.ni k' L.buf s'.heap h → R' (.ok (.ret (.str v tk))) ⟨h, s'.gens, s'.drawn, i, s'.os⟩) →
    codeAny (model theProg w) A' (readC L.io t0) R' s'
noncomputable abbrev runOf (w : World) (L : LX) (b c : Bool) (rho1 tau1 rho2 tau2 : Nat → Nat) (stk1 stk2 : Stk) (h0 : Option Value) (stv : Value) (ln : Int) (tl : Nat) (tok : Str) (tt k t6 : Nat) (fr : Obj) (v : Str) (tk : Nat) (sps : List Sp) (advX : List Nat) : Out :=
  res (entered (cfg (fP w.params b c) rho1 tau1 h0 []) stk1 advT (WL (fP w.params b c) L.F) (ownT w.params L stv ln tl tok tt k t6 fr)) (.ok (.ret (.str v tk))) (cfg (fP w.params b c) rho2 tau2 h0 sps) stk2 advX (ownU w.params L stv ln tl tok tt fr)
theorem sign_is (OL : L.Ok) {k ch t6 : Nat} (hch : L.buf.cps[k]? = some ch) : ReadIs w L ⟨#[ch]⟩ k (k + 1) t6 := fun A' R' s' t0 G hA h1 h2 hR =>
  read_sign G hA (OL.high _ (by first | trivial | simp)) (OL.high _ (by first | trivial | simp)) h1 h2 OL.len hch hR
theorem end_is (OL : L.Ok) {k t6 : Nat} (hk : L.buf.length = k) : ReadIs w L ⟨#[]⟩ k k t6 := fun A' R' s' t0 G hA h1 h2 hR =>
  read_end G hA (OL.high _ (by first | trivial | simp)) (OL.high _ (by first | trivial | simp)) h1 h2 OL.len hk hR
/-- a turn of the loop, from the run of its second part -/
theorem turn_gen {s : Shared} (OL : L.Ok) (G : Gr w s.heap) (hA : A.depth + 140 ≤ recursionLimit) {stv : Value} {ln : Int} {tl : Nat} {tok : Str} {tt k k' t6 : Nat} {fr : Obj} (X : LexAt w L s.heap stv ln tl tok tt k t6 fr)
    (hp1 : Part1 w L stv ln tl tok tt k t6 fr) {v : Str} (hread : ReadIs w L v k k' t6) (spsF : (rho2 tau2 : Nat → Nat) → Nat → List Sp) (advX : List Nat)
    (hsp : ∀ b c (h2 : Heap) (i2 tk : Nat), ∀ sp ∈ spsF (fun m => h2.objs.size + m) (fun i => i2 + i) tk, SpOk (cfgH w b c h2 i2 A.handled (spsF (fun m => h2.objs.size + m) (fun i => i2 + i) tk)) w sp)
    (hfin : ∀ b c rho1 tau1 stk1 stk2 tk (h2 : Heap) (i2 : Nat), fP w.params b c = w.params → (cfgH w b c h2 i2 A.handled (spsF (fun m => h2.objs.size + m) (fun i => i2 + i) tk)).Ok w A i2 [L.lx, L.d, L.F] h2 →
      (∀ p ∈ ownU w.params L stv ln tl tok tt fr, h2.get? p.1 = some p.2) → ReadBack w L.io L.di (L.tk 30) (L.tk 31) (L.tk 32) (L.tk 33) (L.tk 34) L.ni k' L.buf h2 h2 →
      h2.get? L.io = some (instObj 592 L.di) → (∀ b o, s.heap.get? b = some o → b ≠ L.d → b ≠ L.di → b ≠ L.F → h2.get? b = some o) →
      Fine (cfgH w b c h2 i2 A.handled (spsF (fun m => h2.objs.size + m) (fun i => i2 + i) tk)) w A R s.gens s.drawn s.os i2 [L.lx, L.d, L.F] h2
        (runOf w L b c rho1 tau1 (fun m => h2.objs.size + m) (fun i => i2 + i) stk1 stk2 A.handled stv ln tl tok tt k t6 fr v tk (spsF (fun m => h2.objs.size + m) (fun i => i2 + i) tk) advX)) :
    codeAny (model theProg w) A (WL w.params L.F) R s := by
  obtain ⟨h₀, g, dr, t₀, os⟩ := s
  have hb := fP_self w.params
  generalize w.params.followText "special-get-raises" = b at hb
  generalize w.params.followText "comprehension-iter-twice" = c at hb
  have eW : WL w.params L.F = WL (fP w.params b c) L.F := by rw [hb]
  rw [eW]
  have ap := OL.apart
  have O1 := mkOk (A := A) (t₀ := t₀) (sps := []) (ini := [L.lx, L.d, L.io, L.di, L.F]) G hb OL.high (by omega) (fun sp hm => nomatch hm)
  have D1 : Hp [L.lx, L.d, L.io, L.di, L.F] h₀ h₀ (ownT w.params L stv ln tl tok tt k t6 fr) 0 := mkHp (own := ownT w.params L stv ln tl tok tt k t6 fr) (by
    intro p hp
    replace hp := memL hp
    rcases hp with rfl | rfl | rfl | rfl | rfl
    · exact X.lx
    · exact X.d
    · exact X.io
    · exact X.di
    · exact X.F) ap
  refine run_cut (V := cfgH w b c h₀ t₀ A.handled []) O1 D1 (fun stk => hp1 b c _ _ stk _) fun stk A' R' h i hdep hh hl hk hcont => ?_
  have hlx : h.get? L.lx = some (instObj 727 L.d) := hl (L.lx, instObj 727 L.d) (by first | trivial | simp)
  have hd1 : h.get? L.d = some (lexD w.params L stv ln tl tok tt) := hl (L.d, _) (by first | trivial | simp)
  have hio : h.get? L.io = some (instObj 592 L.di) := hl (L.io, instObj 592 L.di) (by first | trivial | simp)
  have hdi : h.get? L.di = some (ioDL w.params L k t6) := hl (L.di, ioDL w.params L k t6) (by first | trivial | simp)
  have hF : h.get? L.F = some fr := hl (L.F, fr) (by first | trivial | simp)
  have G1 : Gr w h := G.keeps fun b o hlt e => hk b o e fun hm => absurd hlt (Nat.not_lt.mpr (OL.high b hm))
  refine hread A' R' ⟨h, g, dr, i, os⟩ _ G1 (by omega) hio hdi fun h2 tk i2 RB => ?_
  have hne : ∀ a, a ≠ L.di → ∀ o, h.get? a = some o → h2.get? a = some o := fun a ha o e => RB.2 a o e ha
  replace ap := ndL' ap
  obtain ⟨⟨a1, a2, a3, a4⟩, ⟨b1, b2, b3⟩, ⟨c1, c2⟩, d1⟩ := ap
  have hU : ∀ p ∈ ownU w.params L stv ln tl tok tt fr, h2.get? p.1 = some p.2 := by
    intro p hp
    replace hp := memL hp
    rcases hp with rfl | rfl | rfl
    · exact hne _ a3 _ hlx
    · exact hne _ b2 _ hd1
    · exact hne _ (fun q => d1 q.symm) _ hF
  have G2 : Gr w h2 := G1.keeps fun b o hlt e => hne b (fun q => absurd hlt (Nat.not_lt.mpr (q ▸ OL.high L.di (by first | trivial | simp)))) o e
  have O2 := mkOk (A := A) (t₀ := i2) (sps := spsF (fun m => h2.objs.size + m) (fun i => i2 + i) tk) (ini := [L.lx, L.d, L.F]) G2 hb (fun a ha => OL.high a (by simp only [List.mem_cons, List.not_mem_nil, or_false] at ha ⊢; rcases ha with h | h | h <;> simp [h])) (by omega) (hsp b c h2 i2 tk)
  have D2 : Hp [L.lx, L.d, L.F] h2 h2 (ownU w.params L stv ln tl tok tt fr) 0 := mkHp (own := ownU w.params L stv ln tl tok tt fr) hU (by
    refine ndM ?_
    exact ⟨⟨a1, a4⟩, b3⟩)
  refine hcont _ h2 i2 (cfgH w b c h2 i2 A.handled (spsF (fun m => h2.objs.size + m) (fun i => i2 + i) tk)) (ownU w.params L stv ln tl tok tt fr) [L.lx, L.d, L.F] advX rfl O2 D2 fun stk2 => ?_
  refine hfin b c _ _ stk stk2 tk h2 i2 hb O2 hU ⟨RB.1, fun b o e _ => e⟩ (hne _ c1 _ hio) ?_
  intro x o e hx1 hx2 hx3
  by_cases h1 : x = L.lx
  · subst h1
    have : o = instObj 727 L.d := Option.some.inj (e.symm.trans X.lx)
    rw [this]; exact hne _ a3 _ hlx
  · by_cases h2' : x = L.io
    · subst h2'
      have : o = instObj 592 L.di := Option.some.inj (e.symm.trans X.io)
      rw [this]; exact hne _ c1 _ hio
    · exact hne _ hx2 _ (hk x o e (nmL ⟨h1, hx1, h2', hx2, hx3⟩))
theorem turnTo (OL : L.Ok) {k' : Nat} {l : List (Addr × Obj)} {h h2 h3 : Heap} (hl3 : ∀ p ∈ l, h3.get? p.1 = some p.2) (hl2 : (L.lx, instObj 727 L.d) ∈ l) (hk3 : ∀ b o, h2.get? b = some o → b ∉ [L.lx, L.d, L.F] → h3.get? b = some o)
    (hdi : ∃ t6, h2.get? L.di = some (ioD w.params (L.tk 30) (L.tk 31) (L.tk 32) (L.tk 33) (L.tk 34) t6 L.ni L.buf k')) (hio : h2.get? L.io = some (instObj 592 L.di)) (hk : ∀ b o, h.get? b = some o → b ≠ L.d → b ≠ L.di → b ≠ L.F → h2.get? b = some o)
    (hlx : h2.get? L.lx = some (instObj 727 L.d)) : TurnTo w L k' l h h3 := by
  have ap := OL.apart
  replace ap := ndL' ap
  obtain ⟨⟨a1, a2, a3, a4⟩, ⟨b1, b2, b3⟩, ⟨c1, c2⟩, d1⟩ := ap
  refine ⟨hl3, hl3 _ hl2, hk3 _ _ hio (by refine nmL ?_; exact ⟨fun q => a2 q.symm, fun q => b1 q.symm, c2⟩), ?_, fun b o e e1 e2 e3 => ?_⟩
  · obtain ⟨t6, e⟩ := hdi
    exact ⟨t6, hk3 _ _ e (by refine nmL ?_; exact ⟨fun q => a3 q.symm, fun q => b2 q.symm, d1⟩)⟩
  · have e' := hk b o e e1 e2 e3
    by_cases hb : b = L.lx
    · subst hb
      have : o = instObj 727 L.d := Option.some.inj (e'.symm.trans hlx)
      rw [this]; exact hl3 _ hl2
    · exact hk3 b o e' (nmL ⟨hb, e1, e3⟩)
/-- a turn that goes on to the next -/
theorem turn_cut {s : Shared} (OL : L.Ok) (G : Gr w s.heap) (hA : A.depth + 140 ≤ recursionLimit) {stv : Value} {ln : Int} {tl : Nat} {tok : Str} {tt k k' t6 : Nat} {fr : Obj} (X : LexAt w L s.heap stv ln tl tok tt k t6 fr)
    (hp1 : Part1 w L stv ln tl tok tt k t6 fr) {v : Str} (hread : ReadIs w L v k k' t6) (spsF : (rho2 tau2 : Nat → Nat) → Nat → List Sp) (advX : List Nat)
    (hsp : ∀ b c (h2 : Heap) (i2 tk : Nat), ∀ sp ∈ spsF (fun m => h2.objs.size + m) (fun i => i2 + i) tk, SpOk (cfgH w b c h2 i2 A.handled (spsF (fun m => h2.objs.size + m) (fun i => i2 + i) tk)) w sp)
    (l2 : (tau1 tau2 : Nat → Nat) → Nat → List (Addr × Obj))
    (hrun : ∀ b c rho1 tau1 rho2 tau2 stk1 stk2 h0 tk, (chkL (runOf w L b c rho1 tau1 rho2 tau2 stk1 stk2 h0 stv ln tl tok tt k t6 fr v tk (spsF rho2 tau2 tk) advX), cutV [0, 1, 2] (runOf w L b c rho1 tau1 rho2 tau2 stk1 stk2 h0 stv ln tl tok tt k t6 fr v tk (spsF rho2 tau2 tk) advX)) =
      (chkR (runOf w L b c rho1 tau1 rho2 tau2 stk1 stk2 h0 stv ln tl tok tt k t6 fr v tk (spsF rho2 tau2 tk) advX), some (WL (fP w.params b c) L.F, l2 tau1 tau2 tk)))
    (hl2 : ∀ tau1 tau2 tk, (L.lx, instObj 727 L.d) ∈ l2 tau1 tau2 tk)
    (hgo : ∀ h i tau1 tau2 tk, TurnTo w L k' (l2 tau1 tau2 tk) s.heap h → codeAny (model theProg w) A (WL w.params L.F) R ⟨h, s.gens, s.drawn, i, s.os⟩) :
    codeAny (model theProg w) A (WL w.params L.F) R s := by
  refine turn_gen OL G hA X hp1 hread spsF advX hsp fun b c rho1 tau1 stk1 stk2 tk h2 i2 hb O2 hU RB hio hk => ?_
  refine fine_cut (hrun b c rho1 tau1 _ _ stk1 stk2 _ tk) fun h3 i3 hl3 hk3 => ?_
  have := hgo h3 i3 tau1 (fun i => i2 + i) tk (turnTo OL hl3 (hl2 _ _ _) hk3 RB.1 hio hk (hU (L.lx, instObj 727 L.d) (by first | trivial | simp)))
  have eW : WL w.params L.F = WL (fP w.params b c) L.F := by rw [hb]
  rw [← eW]; exact this
/-- a turn that leaves the loop -/
theorem turn_ret {s : Shared} (OL : L.Ok) (G : Gr w s.heap) (hA : A.depth + 140 ≤ recursionLimit) {stv : Value} {ln : Int} {tl : Nat} {tok : Str} {tt k k' t6 : Nat} {fr : Obj} (X : LexAt w L s.heap stv ln tl tok tt k t6 fr)
    (hp1 : Part1 w L stv ln tl tok tt k t6 fr) {v : Str} (hread : ReadIs w L v k k' t6) (spsF : (rho2 tau2 : Nat → Nat) → Nat → List Sp) (advX : List Nat)
    (hsp : ∀ b c (h2 : Heap) (i2 tk : Nat), ∀ sp ∈ spsF (fun m => h2.objs.size + m) (fun i => i2 + i) tk, SpOk (cfgH w b c h2 i2 A.handled (spsF (fun m => h2.objs.size + m) (fun i => i2 + i) tk)) w sp)
    (l2 : (tau1 tau2 : Nat → Nat) → Nat → List (Addr × Obj))
    (hrun : ∀ b c rho1 tau1 rho2 tau2 stk1 stk2 h0 tk, (chkL (runOf w L b c rho1 tau1 rho2 tau2 stk1 stk2 h0 stv ln tl tok tt k t6 fr v tk (spsF rho2 tau2 tk) advX), retV [0, 1, 2] (runOf w L b c rho1 tau1 rho2 tau2 stk1 stk2 h0 stv ln tl tok tt k t6 fr v tk (spsF rho2 tau2 tk) advX)) =
      (chkR (runOf w L b c rho1 tau1 rho2 tau2 stk1 stk2 h0 stv ln tl tok tt k t6 fr v tk (spsF rho2 tau2 tk) advX), some (.ok .next, l2 tau1 tau2 tk)))
    (hl2 : ∀ tau1 tau2 tk, (L.lx, instObj 727 L.d) ∈ l2 tau1 tau2 tk)
    (hgo : ∀ h i tau1 tau2 tk, TurnTo w L k' (l2 tau1 tau2 tk) s.heap h → R (.ok .next) ⟨h, s.gens, s.drawn, i, s.os⟩) :
    codeAny (model theProg w) A (WL w.params L.F) R s := by
  refine turn_gen OL G hA X hp1 hread spsF advX hsp fun b c rho1 tau1 stk1 stk2 tk h2 i2 hb O2 hU RB hio hk => ?_
  exact fine_ret (hrun b c rho1 tau1 _ _ stk1 stk2 _ tk) fun h3 i3 hl3 hk3 => hgo h3 i3 tau1 (fun i => i2 + i) tk (turnTo OL hl3 (hl2 _ _ _) hk3 RB.1 hio hk (hU (L.lx, instObj 727 L.d) (by first | trivial | simp)))
end
end
section
section
variable {prog : Program} {w : World} {A : Around} {s : Shared}
theorem ans_gives {T : String} {name : Str} {id : String} {b : Builtin} {self : Value} {rest : List Value} {v : Value} {dt : Nat} {m : Made} (h : Slot T name id) (hT : s.TypeIs self T) (hb : entryFor table id = some b) (ha : argsOk id ⟨self :: rest, []⟩)
    (hm : Gives (b ⟨self :: rest, []⟩) m) (hp : ∀ R : Value → Shared → Prop, R v { s with toks := s.toks + dt } → m.post R s) : Ans prog w A s (bi id (self :: rest)) v dt := by
  show wpAny _ _ (runValue (.call (.builtin id) ⟨self :: rest, []⟩)) _ _ _
  refine wpAny_runValue (codeAny_call_builtin h.plain hb (h.check _ _ _ _ _ _ _ _ hT ha ?_))
  exact hm prog w A (fun r s' => match r with | .ok (.ret x) => x = v ∧ s' = { s with toks := s.toks + dt } | .ok _ => False | .error e => False) s (hp _ ⟨rfl, rfl⟩)
theorem ans_cat (x y : Str) (t u : Tok) (hx : x.length ≠ 0) (hy : y.length ≠ 0) (hl : (x ++ y).length ≤ sizeLine) : Ans prog w A s (bi "str.__add__" [.str x t, .str y u]) (.str (x ++ y) s.toks) 1 := by
  refine ans_gives F.slot_str_add (typeIs_str s x t) F.entry_str_add (F.args_str_add_2 _ _) (gives_str_add x y t u) fun R hR => ?_
  rw [if_neg (by simpa using hx), if_neg (by simpa using hy)]
  exact ⟨hl, hR⟩
theorem ans_cat0 (x y : Str) (t u : Tok) (hx : x.length = 0) : Ans prog w A s (bi "str.__add__" [.str x t, .str y u]) (.str y u) 0 := by
  refine ans_gives F.slot_str_add (typeIs_str s x t) F.entry_str_add (F.args_str_add_2 _ _) (gives_str_add x y t u) fun R hR => ?_
  rw [if_pos (by simpa using hx)]
  exact hR
theorem ans_tupin (a : Addr) (ta tb : Nat) (u : Tok) (hh : s.heap.get? a = some (tupAC ta tb)) : Ans prog w A s (bi "tuple.__contains__" [.ref a, .str ⟨#[97]⟩ u]) (.bool true) 0 := by
  refine wpAny_call_entry F.slot_tuple_contains (T := "tuple") ⟨_, hh, rfl⟩ F.entry_tuple_contains ?_ (F.args_tuple_contains_2 _ _)
  refine tuple_contains_strs (ys := [⟨#[97]⟩, ⟨#[99]⟩]) ⟨_, hh, rfl, 0, rfl⟩ (.cons _ _ (.cons _ _ .nil)) ⟨_, ?_, rfl, rfl⟩
  have : ([⟨#[97]⟩, ⟨#[99]⟩] : List Str).any (fun x => x == ⟨#[97]⟩) = true := by decide +kernel
  rw [this]
theorem ans_lenB (x : Str) (t k : Tok) (n : Int) (hn : n = x.length) (hx : x.length < 2000) (hk : s.toks + 1 = k) : Ans prog w A s (.builtin "len" ⟨[.str x t], []⟩) (.int n k) 2 := by
  subst hk hn
  refine wpAny_runValue (codeAny_builtin entry_len ?_)
  unfold Builtin.«len»
  refine wpAny_bind (m := oneArg "len" _) (wpAny_pure ?_)
  refine wpAny_bind (m := callSpecial? (.str x t) (Str.ofString "__len__")) (wpAny_callSpecial?_slot (name := Str.ofString "__len__") (typeIs_str s x t) F.slot_str_len (call_gives F.slot_str_len (typeIs_str s x t) F.entry_str_len (F.args_str_len_1 _) (gives_str_len x t) ?_))
  show wpAny _ _ _ _ _ { s with toks := s.toks + 1 }
  refine wpAny_bind (wpAny_holding (wpAny_pure ?_))
  refine wpAny_bind (wpAny_letGo ?_)
  show wpAny _ _ (if (x.length : Int) < 0 then _ else _) _ _ _
  rw [if_neg (by omega)]
  show wpAny _ _ (if (x.length : Int) ≥ 2 ^ 63 then _ else _) _ _ _
  rw [if_neg (by omega)]
  refine wpAny_bind (wpAny_mkInt (wpAny_pure ?_))
  exact ⟨rfl, rfl⟩
noncomputable def addT (l : List Nat) (a b : Nat) : Nat := match l with
  | [] => a
  | _ :: _ => b
noncomputable def addN (l : List Nat) : Nat := match l with
  | [] => 0
  | _ :: _ => 1
theorem cat_mk (l : List Nat) (ch : Nat) : ((⟨⟨l⟩⟩ : Str) ++ (⟨#[ch]⟩ : Str)) = ⟨⟨l ++ [ch]⟩⟩ := by
  apply Str.ext'
  rw [Str.cps_append]
  simp
theorem ans_catL (l : List Nat) (ch : Nat) (t u : Tok) (hl : l.length < 1900) : Ans prog w A s (bi "str.__add__" [.str ⟨⟨l⟩⟩ t, .str ⟨#[ch]⟩ u]) (.str ⟨⟨l ++ [ch]⟩⟩ (addT l u s.toks)) (addN l) := by
  cases l with
  | nil => exact ans_cat0 _ _ _ _ rfl
  | cons a r =>
    have := ans_cat (prog := prog) (w := w) (A := A) (s := s) ⟨⟨a :: r⟩⟩ ⟨#[ch]⟩ t u (by show (a :: r).length ≠ 0; simp) (by show 1 ≠ 0; decide) (by
      rw [cat_mk]
      show (a :: r ++ [ch]).length ≤ sizeLine
      rw [sizeLine_eq, List.length_append]
      simp only [List.length_cons, List.length_nil] at hl ⊢
      omega)
    rw [cat_mk] at this
    exact this
end
end
section
section
variable {w : World} {A : Around} {R : Result → Shared → Prop} {L : LX}
theorem stepS3E {s : Shared} (OL : L.Ok) (G : Gr w s.heap) (hA : A.depth + 140 ≤ recursionLimit) {ts tl tt fe fn f4 k t6 c0 : Nat} {rest l : List Nat} {es nc : Str} {ln : Int} (hl : ([] : List Nat).length < 1900) (X : LexAt w L s.heap (.str ⟨#[32]⟩ ts) ln tl ⟨⟨[]⟩⟩ tt k t6 (frame3 w.params L es fe)) (hk : L.buf.length = k)
    (hgo : ∀ (h : Heap) (i : Nat) (tau1 tau2 : Nat → Nat) (tkc : Nat), TurnTo w L k [(L.lx, instObj 727 L.d), (L.d, lexD w.params L .none ln tl ⟨⟨[]⟩⟩ tt), (L.F, (frame4q w.params L (tau2 0) es fe ⟨#[]⟩ tkc))] s.heap h → R (.ok .next) ⟨h, s.gens, s.drawn, i, s.os⟩) : codeAny (model theProg w) A (WL w.params L.F) R s :=
  turn_ret OL G hA X (fun b c rho tau stk h0 => part1_3 w.params b c rho tau stk h0 L _ ln tl _ tt k t6 es fe) (end_is OL hk) (fun rho2 tau2 tkc => spS3E w.params rho2 tau2 ln ts tl tt tkc 0 0 c0 rest l) advS3E (fun b c h2 i2 tk sp hm => nomatch hm) (fun tau1 tau2 tkc => [(L.lx, instObj 727 L.d), (L.d, lexD w.params L .none ln tl ⟨⟨[]⟩⟩ tt), (L.F, (frame4q w.params L (tau2 0) es fe ⟨#[]⟩ tkc))])
    (fun b c rho1 tau1 rho2 tau2 stk1 stk2 h0 tkc => runS3E_is w.params b c rho1 tau1 rho2 tau2 stk1 stk2 h0 L ts tl tt tkc 0 0 fe fn f4 k t6 c0 rest l es nc ln) (fun _ _ _ => List.mem_cons_self ..) hgo
theorem stepS3R {s : Shared} (OL : L.Ok) (G : Gr w s.heap) (hA : A.depth + 140 ≤ recursionLimit) {ts tl tt fe fn f4 k t6 c0 : Nat} {rest l : List Nat} {es nc : Str} {ln : Int} (hl : ([] : List Nat).length < 1900) (X : LexAt w L s.heap (.str ⟨#[32]⟩ ts) ln tl ⟨⟨[]⟩⟩ tt k t6 (frame3 w.params L es fe)) (hch : L.buf.cps[k]? = some 13)
    (hgo : ∀ (h : Heap) (i : Nat) (tau1 tau2 : Nat → Nat) (tkc : Nat), TurnTo w L (k + 1) [(L.lx, instObj 727 L.d), (L.d, lexD w.params L (.str ⟨#[32]⟩ ts) ln tl ⟨⟨[]⟩⟩ tt), (L.F, (frame4q w.params L (tau2 0) es fe ⟨#[13]⟩ tkc))] s.heap h → codeAny (model theProg w) A (WL w.params L.F) R ⟨h, s.gens, s.drawn, i, s.os⟩) : codeAny (model theProg w) A (WL w.params L.F) R s :=
  turn_cut OL G hA X (fun b c rho tau stk h0 => part1_3 w.params b c rho tau stk h0 L _ ln tl _ tt k t6 es fe) (sign_is OL hch) (fun rho2 tau2 tkc => spS3R w.params rho2 tau2 ln ts tl tt tkc 0 0 c0 rest l) advS3R (fun b c h2 i2 tk sp hm => nomatch hm) (fun tau1 tau2 tkc => [(L.lx, instObj 727 L.d), (L.d, lexD w.params L (.str ⟨#[32]⟩ ts) ln tl ⟨⟨[]⟩⟩ tt), (L.F, (frame4q w.params L (tau2 0) es fe ⟨#[13]⟩ tkc))])
    (fun b c rho1 tau1 rho2 tau2 stk1 stk2 h0 tkc => runS3R_is w.params b c rho1 tau1 rho2 tau2 stk1 stk2 h0 L ts tl tt tkc 0 0 fe fn f4 k t6 c0 rest l es nc ln) (fun _ _ _ => List.mem_cons_self ..) hgo
theorem stepS3L {s : Shared} (OL : L.Ok) (G : Gr w s.heap) (hA : A.depth + 140 ≤ recursionLimit) {ts tl tt fe fn f4 k t6 c0 : Nat} {rest l : List Nat} {es nc : Str} {ln : Int} (hl : ([] : List Nat).length < 1900) (X : LexAt w L s.heap (.str ⟨#[32]⟩ ts) ln tl ⟨⟨[]⟩⟩ tt k t6 (frame3 w.params L es fe)) (hch : L.buf.cps[k]? = some 10)
    (hgo : ∀ (h : Heap) (i : Nat) (tau1 tau2 : Nat → Nat) (tkc : Nat), TurnTo w L (k + 1) [(L.lx, instObj 727 L.d), (L.d, lexD w.params L (.str ⟨#[32]⟩ ts) (ln + 1) (tau2 4) ⟨⟨[]⟩⟩ tt), (L.F, (frame4q w.params L (tau2 0) es fe ⟨#[10]⟩ tkc))] s.heap h → codeAny (model theProg w) A (WL w.params L.F) R ⟨h, s.gens, s.drawn, i, s.os⟩) : codeAny (model theProg w) A (WL w.params L.F) R s :=
  turn_cut OL G hA X (fun b c rho tau stk h0 => part1_3 w.params b c rho tau stk h0 L _ ln tl _ tt k t6 es fe) (sign_is OL hch) (fun rho2 tau2 tkc => spS3L w.params rho2 tau2 ln ts tl tt tkc 0 0 c0 rest l) advS3L (by
      intro b c h2 i2 tk sp hm
      replace hm := memL hm
      rcases hm with rfl <;> intro A' s' hn ht
      · exact ans_add _ _ _ _ _ ht) (fun tau1 tau2 tkc => [(L.lx, instObj 727 L.d), (L.d, lexD w.params L (.str ⟨#[32]⟩ ts) (ln + 1) (tau2 4) ⟨⟨[]⟩⟩ tt), (L.F, (frame4q w.params L (tau2 0) es fe ⟨#[10]⟩ tkc))])
    (fun b c rho1 tau1 rho2 tau2 stk1 stk2 h0 tkc => runS3L_is w.params b c rho1 tau1 rho2 tau2 stk1 stk2 h0 L ts tl tt tkc 0 0 fe fn f4 k t6 c0 rest l es nc ln) (fun _ _ _ => List.mem_cons_self ..) hgo
theorem stepS3W {s : Shared} (OL : L.Ok) (G : Gr w s.heap) (hA : A.depth + 140 ≤ recursionLimit) {ts tl tt fe fn f4 k t6 c0 : Nat} {rest l : List Nat} {es nc : Str} {ln : Int} (hl : ([] : List Nat).length < 1900) (X : LexAt w L s.heap (.str ⟨#[32]⟩ ts) ln tl ⟨⟨[]⟩⟩ tt k t6 (frame3 w.params L es fe)) (hch : L.buf.cps[k]? = some 32)
    (hgo : ∀ (h : Heap) (i : Nat) (tau1 tau2 : Nat → Nat) (tkc : Nat), TurnTo w L (k + 1) [(L.lx, instObj 727 L.d), (L.d, lexD w.params L (.str ⟨#[32]⟩ ts) ln tl ⟨⟨[]⟩⟩ tt), (L.F, (frame4q w.params L (tau2 0) es fe ⟨#[32]⟩ tkc))] s.heap h → codeAny (model theProg w) A (WL w.params L.F) R ⟨h, s.gens, s.drawn, i, s.os⟩) : codeAny (model theProg w) A (WL w.params L.F) R s :=
  turn_cut OL G hA X (fun b c rho tau stk h0 => part1_3 w.params b c rho tau stk h0 L _ ln tl _ tt k t6 es fe) (sign_is OL hch) (fun rho2 tau2 tkc => spS3W w.params rho2 tau2 ln ts tl tt tkc 0 0 c0 rest l) advS3W (fun b c h2 i2 tk sp hm => nomatch hm) (fun tau1 tau2 tkc => [(L.lx, instObj 727 L.d), (L.d, lexD w.params L (.str ⟨#[32]⟩ ts) ln tl ⟨⟨[]⟩⟩ tt), (L.F, (frame4q w.params L (tau2 0) es fe ⟨#[32]⟩ tkc))])
    (fun b c rho1 tau1 rho2 tau2 stk1 stk2 h0 tkc => runS3W_is w.params b c rho1 tau1 rho2 tau2 stk1 stk2 h0 L ts tl tt tkc 0 0 fe fn f4 k t6 c0 rest l es nc ln) (fun _ _ _ => List.mem_cons_self ..) hgo
theorem stepS3K {s : Shared} (OL : L.Ok) (G : Gr w s.heap) (hA : A.depth + 140 ≤ recursionLimit) {ts tl tt fe fn f4 k t6 c0 : Nat} {rest l : List Nat} {es nc : Str} {ln : Int} (hl : ([] : List Nat).length < 1900) (X : LexAt w L s.heap (.str ⟨#[32]⟩ ts) ln tl ⟨⟨[]⟩⟩ tt k t6 (frame3 w.params L es fe)) (hch : L.buf.cps[k]? = some 92)
    (hgo : ∀ (h : Heap) (i : Nat) (tau1 tau2 : Nat → Nat) (tkc : Nat), TurnTo w L (k + 1) [(L.lx, instObj 727 L.d), (L.d, lexD w.params L (.str ⟨#[92]⟩ tkc) ln tl ⟨⟨[]⟩⟩ tt), (L.F, (frame4q w.params L (tau2 0) ⟨#[97]⟩ (tau2 13) ⟨#[92]⟩ tkc))] s.heap h → codeAny (model theProg w) A (WL w.params L.F) R ⟨h, s.gens, s.drawn, i, s.os⟩) : codeAny (model theProg w) A (WL w.params L.F) R s :=
  turn_cut OL G hA X (fun b c rho tau stk h0 => part1_3 w.params b c rho tau stk h0 L _ ln tl _ tt k t6 es fe) (sign_is OL hch) (fun rho2 tau2 tkc => spS3K w.params rho2 tau2 ln ts tl tt tkc 0 0 c0 rest l) advS3K (fun b c h2 i2 tk sp hm => nomatch hm) (fun tau1 tau2 tkc => [(L.lx, instObj 727 L.d), (L.d, lexD w.params L (.str ⟨#[92]⟩ tkc) ln tl ⟨⟨[]⟩⟩ tt), (L.F, (frame4q w.params L (tau2 0) ⟨#[97]⟩ (tau2 13) ⟨#[92]⟩ tkc))])
    (fun b c rho1 tau1 rho2 tau2 stk1 stk2 h0 tkc => runS3K_is w.params b c rho1 tau1 rho2 tau2 stk1 stk2 h0 L ts tl tt tkc 0 0 fe fn f4 k t6 c0 rest l es nc ln) (fun _ _ _ => List.mem_cons_self ..) hgo
theorem stepS3a {s : Shared} (OL : L.Ok) (G : Gr w s.heap) (hA : A.depth + 140 ≤ recursionLimit) {ts tl tt fe fn f4 k t6 c0 : Nat} {rest l : List Nat} {es nc : Str} {ln : Int} (hl : ([] : List Nat).length < 1900) (X : LexAt w L s.heap (.str ⟨#[32]⟩ ts) ln tl ⟨⟨[]⟩⟩ tt k t6 (frame3 w.params L es fe)) (hch : L.buf.cps[k]? = some 97)
    (hgo : ∀ (h : Heap) (i : Nat) (tau1 tau2 : Nat → Nat) (tkc : Nat), TurnTo w L (k + 1) [(L.lx, instObj 727 L.d), (L.d, lexD w.params L (.str ⟨#[97]⟩ (tau2 16)) ln tl ⟨⟨[97]⟩⟩ tkc), (L.F, (frame4q w.params L (tau2 0) es fe ⟨#[97]⟩ tkc))] s.heap h → codeAny (model theProg w) A (WL w.params L.F) R ⟨h, s.gens, s.drawn, i, s.os⟩) : codeAny (model theProg w) A (WL w.params L.F) R s :=
  turn_cut OL G hA X (fun b c rho tau stk h0 => part1_3 w.params b c rho tau stk h0 L _ ln tl _ tt k t6 es fe) (sign_is OL hch) (fun rho2 tau2 tkc => spS3a w.params rho2 tau2 ln ts tl tt tkc 0 0 c0 rest l) advS3a (fun b c h2 i2 tk sp hm => nomatch hm) (fun tau1 tau2 tkc => [(L.lx, instObj 727 L.d), (L.d, lexD w.params L (.str ⟨#[97]⟩ (tau2 16)) ln tl ⟨⟨[97]⟩⟩ tkc), (L.F, (frame4q w.params L (tau2 0) es fe ⟨#[97]⟩ tkc))])
    (fun b c rho1 tau1 rho2 tau2 stk1 stk2 h0 tkc => runS3a_is w.params b c rho1 tau1 rho2 tau2 stk1 stk2 h0 L ts tl tt tkc 0 0 fe fn f4 k t6 c0 rest l es nc ln) (fun _ _ _ => List.mem_cons_self ..) hgo
theorem stepS3D {s : Shared} (OL : L.Ok) (G : Gr w s.heap) (hA : A.depth + 140 ≤ recursionLimit) {ts tl tt fe fn f4 k t6 c0 : Nat} {rest l : List Nat} {es nc : Str} {ln : Int} (hl : ([] : List Nat).length < 1900) (X : LexAt w L s.heap (.str ⟨#[32]⟩ ts) ln tl ⟨⟨[]⟩⟩ tt k t6 (frame3 w.params L es fe)) (hch : L.buf.cps[k]? = some 46)
    (hgo : ∀ (h : Heap) (i : Nat) (tau1 tau2 : Nat → Nat) (tkc : Nat), TurnTo w L (k + 1) [(L.lx, instObj 727 L.d), (L.d, lexD w.params L (.str ⟨#[97]⟩ (tau2 21)) ln tl ⟨⟨[46]⟩⟩ tkc), (L.F, (frame4q w.params L (tau2 0) es fe ⟨#[46]⟩ tkc))] s.heap h → codeAny (model theProg w) A (WL w.params L.F) R ⟨h, s.gens, s.drawn, i, s.os⟩) : codeAny (model theProg w) A (WL w.params L.F) R s :=
  turn_cut OL G hA X (fun b c rho tau stk h0 => part1_3 w.params b c rho tau stk h0 L _ ln tl _ tt k t6 es fe) (sign_is OL hch) (fun rho2 tau2 tkc => spS3D w.params rho2 tau2 ln ts tl tt tkc 0 0 c0 rest l) advS3D (fun b c h2 i2 tk sp hm => nomatch hm) (fun tau1 tau2 tkc => [(L.lx, instObj 727 L.d), (L.d, lexD w.params L (.str ⟨#[97]⟩ (tau2 21)) ln tl ⟨⟨[46]⟩⟩ tkc), (L.F, (frame4q w.params L (tau2 0) es fe ⟨#[46]⟩ tkc))])
    (fun b c rho1 tau1 rho2 tau2 stk1 stk2 h0 tkc => runS3D_is w.params b c rho1 tau1 rho2 tau2 stk1 stk2 h0 L ts tl tt tkc 0 0 fe fn f4 k t6 c0 rest l es nc ln) (fun _ _ _ => List.mem_cons_self ..) hgo
theorem stepN3E {s : Shared} (OL : L.Ok) (G : Gr w s.heap) (hA : A.depth + 140 ≤ recursionLimit) {ts tl tt fe fn f4 k t6 c0 : Nat} {rest l : List Nat} {es nc : Str} {ln : Int} (hl : ([] : List Nat).length < 1900) (X : LexAt w L s.heap .none ln tl ⟨⟨[]⟩⟩ tt k t6 (frame3 w.params L es fe)) (hk : L.buf.length = k)
    (hgo : ∀ (h : Heap) (i : Nat) (tau1 tau2 : Nat → Nat) (tkc : Nat), TurnTo w L k [(L.lx, instObj 727 L.d), (L.d, lexD w.params L .none ln tl ⟨⟨[]⟩⟩ (tau2 5)), (L.F, (frame4q w.params L (tau2 0) es fe ⟨#[]⟩ tkc))] s.heap h → R (.ok .next) ⟨h, s.gens, s.drawn, i, s.os⟩) : codeAny (model theProg w) A (WL w.params L.F) R s :=
  turn_ret OL G hA X (fun b c rho tau stk h0 => part1_3 w.params b c rho tau stk h0 L _ ln tl _ tt k t6 es fe) (end_is OL hk) (fun rho2 tau2 tkc => spN3E w.params rho2 tau2 ln ts tl tt tkc 0 0 c0 rest l) advN3E (fun b c h2 i2 tk sp hm => nomatch hm) (fun tau1 tau2 tkc => [(L.lx, instObj 727 L.d), (L.d, lexD w.params L .none ln tl ⟨⟨[]⟩⟩ (tau2 5)), (L.F, (frame4q w.params L (tau2 0) es fe ⟨#[]⟩ tkc))])
    (fun b c rho1 tau1 rho2 tau2 stk1 stk2 h0 tkc => runN3E_is w.params b c rho1 tau1 rho2 tau2 stk1 stk2 h0 L ts tl tt tkc 0 0 fe fn f4 k t6 c0 rest l es nc ln) (fun _ _ _ => List.mem_cons_self ..) hgo
theorem stepS4E {s : Shared} (OL : L.Ok) (G : Gr w s.heap) (hA : A.depth + 140 ≤ recursionLimit) {ts tl tt fe fn f4 k t6 c0 : Nat} {rest l : List Nat} {es nc : Str} {ln : Int} (hl : ([] : List Nat).length < 1900) (X : LexAt w L s.heap (.str ⟨#[32]⟩ ts) ln tl ⟨⟨[]⟩⟩ tt k t6 (frame4 w.params L f4 es fe nc fn)) (hk : L.buf.length = k)
    (hgo : ∀ (h : Heap) (i : Nat) (tau1 tau2 : Nat → Nat) (tkc : Nat), TurnTo w L k [(L.lx, instObj 727 L.d), (L.d, lexD w.params L .none ln tl ⟨⟨[]⟩⟩ tt), (L.F, (frame4 w.params L f4 es fe ⟨#[]⟩ tkc))] s.heap h → R (.ok .next) ⟨h, s.gens, s.drawn, i, s.os⟩) : codeAny (model theProg w) A (WL w.params L.F) R s :=
  turn_ret OL G hA X (fun b c rho tau stk h0 => part1_4 w.params b c rho tau stk h0 L _ ln tl _ tt k t6 es fe f4 nc fn) (end_is OL hk) (fun rho2 tau2 tkc => spS4E w.params rho2 tau2 ln ts tl tt tkc 0 0 c0 rest l) advS4E (fun b c h2 i2 tk sp hm => nomatch hm) (fun tau1 tau2 tkc => [(L.lx, instObj 727 L.d), (L.d, lexD w.params L .none ln tl ⟨⟨[]⟩⟩ tt), (L.F, (frame4 w.params L f4 es fe ⟨#[]⟩ tkc))])
    (fun b c rho1 tau1 rho2 tau2 stk1 stk2 h0 tkc => runS4E_is w.params b c rho1 tau1 rho2 tau2 stk1 stk2 h0 L ts tl tt tkc 0 0 fe fn f4 k t6 c0 rest l es nc ln) (fun _ _ _ => List.mem_cons_self ..) hgo
theorem stepS4R {s : Shared} (OL : L.Ok) (G : Gr w s.heap) (hA : A.depth + 140 ≤ recursionLimit) {ts tl tt fe fn f4 k t6 c0 : Nat} {rest l : List Nat} {es nc : Str} {ln : Int} (hl : ([] : List Nat).length < 1900) (X : LexAt w L s.heap (.str ⟨#[32]⟩ ts) ln tl ⟨⟨[]⟩⟩ tt k t6 (frame4 w.params L f4 es fe nc fn)) (hch : L.buf.cps[k]? = some 13)
    (hgo : ∀ (h : Heap) (i : Nat) (tau1 tau2 : Nat → Nat) (tkc : Nat), TurnTo w L (k + 1) [(L.lx, instObj 727 L.d), (L.d, lexD w.params L (.str ⟨#[32]⟩ ts) ln tl ⟨⟨[]⟩⟩ tt), (L.F, (frame4 w.params L f4 es fe ⟨#[13]⟩ tkc))] s.heap h → codeAny (model theProg w) A (WL w.params L.F) R ⟨h, s.gens, s.drawn, i, s.os⟩) : codeAny (model theProg w) A (WL w.params L.F) R s :=
  turn_cut OL G hA X (fun b c rho tau stk h0 => part1_4 w.params b c rho tau stk h0 L _ ln tl _ tt k t6 es fe f4 nc fn) (sign_is OL hch) (fun rho2 tau2 tkc => spS4R w.params rho2 tau2 ln ts tl tt tkc 0 0 c0 rest l) advS4R (fun b c h2 i2 tk sp hm => nomatch hm) (fun tau1 tau2 tkc => [(L.lx, instObj 727 L.d), (L.d, lexD w.params L (.str ⟨#[32]⟩ ts) ln tl ⟨⟨[]⟩⟩ tt), (L.F, (frame4 w.params L f4 es fe ⟨#[13]⟩ tkc))])
    (fun b c rho1 tau1 rho2 tau2 stk1 stk2 h0 tkc => runS4R_is w.params b c rho1 tau1 rho2 tau2 stk1 stk2 h0 L ts tl tt tkc 0 0 fe fn f4 k t6 c0 rest l es nc ln) (fun _ _ _ => List.mem_cons_self ..) hgo
theorem stepS4L {s : Shared} (OL : L.Ok) (G : Gr w s.heap) (hA : A.depth + 140 ≤ recursionLimit) {ts tl tt fe fn f4 k t6 c0 : Nat} {rest l : List Nat} {es nc : Str} {ln : Int} (hl : ([] : List Nat).length < 1900) (X : LexAt w L s.heap (.str ⟨#[32]⟩ ts) ln tl ⟨⟨[]⟩⟩ tt k t6 (frame4 w.params L f4 es fe nc fn)) (hch : L.buf.cps[k]? = some 10)
    (hgo : ∀ (h : Heap) (i : Nat) (tau1 tau2 : Nat → Nat) (tkc : Nat), TurnTo w L (k + 1) [(L.lx, instObj 727 L.d), (L.d, lexD w.params L (.str ⟨#[32]⟩ ts) (ln + 1) (tau2 4) ⟨⟨[]⟩⟩ tt), (L.F, (frame4 w.params L f4 es fe ⟨#[10]⟩ tkc))] s.heap h → codeAny (model theProg w) A (WL w.params L.F) R ⟨h, s.gens, s.drawn, i, s.os⟩) : codeAny (model theProg w) A (WL w.params L.F) R s :=
  turn_cut OL G hA X (fun b c rho tau stk h0 => part1_4 w.params b c rho tau stk h0 L _ ln tl _ tt k t6 es fe f4 nc fn) (sign_is OL hch) (fun rho2 tau2 tkc => spS4L w.params rho2 tau2 ln ts tl tt tkc 0 0 c0 rest l) advS4L (by
      intro b c h2 i2 tk sp hm
      replace hm := memL hm
      rcases hm with rfl <;> intro A' s' hn ht
      · exact ans_add _ _ _ _ _ ht) (fun tau1 tau2 tkc => [(L.lx, instObj 727 L.d), (L.d, lexD w.params L (.str ⟨#[32]⟩ ts) (ln + 1) (tau2 4) ⟨⟨[]⟩⟩ tt), (L.F, (frame4 w.params L f4 es fe ⟨#[10]⟩ tkc))])
    (fun b c rho1 tau1 rho2 tau2 stk1 stk2 h0 tkc => runS4L_is w.params b c rho1 tau1 rho2 tau2 stk1 stk2 h0 L ts tl tt tkc 0 0 fe fn f4 k t6 c0 rest l es nc ln) (fun _ _ _ => List.mem_cons_self ..) hgo
theorem stepS4W {s : Shared} (OL : L.Ok) (G : Gr w s.heap) (hA : A.depth + 140 ≤ recursionLimit) {ts tl tt fe fn f4 k t6 c0 : Nat} {rest l : List Nat} {es nc : Str} {ln : Int} (hl : ([] : List Nat).length < 1900) (X : LexAt w L s.heap (.str ⟨#[32]⟩ ts) ln tl ⟨⟨[]⟩⟩ tt k t6 (frame4 w.params L f4 es fe nc fn)) (hch : L.buf.cps[k]? = some 32)
    (hgo : ∀ (h : Heap) (i : Nat) (tau1 tau2 : Nat → Nat) (tkc : Nat), TurnTo w L (k + 1) [(L.lx, instObj 727 L.d), (L.d, lexD w.params L (.str ⟨#[32]⟩ ts) ln tl ⟨⟨[]⟩⟩ tt), (L.F, (frame4 w.params L f4 es fe ⟨#[32]⟩ tkc))] s.heap h → codeAny (model theProg w) A (WL w.params L.F) R ⟨h, s.gens, s.drawn, i, s.os⟩) : codeAny (model theProg w) A (WL w.params L.F) R s :=
  turn_cut OL G hA X (fun b c rho tau stk h0 => part1_4 w.params b c rho tau stk h0 L _ ln tl _ tt k t6 es fe f4 nc fn) (sign_is OL hch) (fun rho2 tau2 tkc => spS4W w.params rho2 tau2 ln ts tl tt tkc 0 0 c0 rest l) advS4W (fun b c h2 i2 tk sp hm => nomatch hm) (fun tau1 tau2 tkc => [(L.lx, instObj 727 L.d), (L.d, lexD w.params L (.str ⟨#[32]⟩ ts) ln tl ⟨⟨[]⟩⟩ tt), (L.F, (frame4 w.params L f4 es fe ⟨#[32]⟩ tkc))])
    (fun b c rho1 tau1 rho2 tau2 stk1 stk2 h0 tkc => runS4W_is w.params b c rho1 tau1 rho2 tau2 stk1 stk2 h0 L ts tl tt tkc 0 0 fe fn f4 k t6 c0 rest l es nc ln) (fun _ _ _ => List.mem_cons_self ..) hgo
theorem stepS4K {s : Shared} (OL : L.Ok) (G : Gr w s.heap) (hA : A.depth + 140 ≤ recursionLimit) {ts tl tt fe fn f4 k t6 c0 : Nat} {rest l : List Nat} {es nc : Str} {ln : Int} (hl : ([] : List Nat).length < 1900) (X : LexAt w L s.heap (.str ⟨#[32]⟩ ts) ln tl ⟨⟨[]⟩⟩ tt k t6 (frame4 w.params L f4 es fe nc fn)) (hch : L.buf.cps[k]? = some 92)
    (hgo : ∀ (h : Heap) (i : Nat) (tau1 tau2 : Nat → Nat) (tkc : Nat), TurnTo w L (k + 1) [(L.lx, instObj 727 L.d), (L.d, lexD w.params L (.str ⟨#[92]⟩ tkc) ln tl ⟨⟨[]⟩⟩ tt), (L.F, (frame4 w.params L f4 ⟨#[97]⟩ (tau2 13) ⟨#[92]⟩ tkc))] s.heap h → codeAny (model theProg w) A (WL w.params L.F) R ⟨h, s.gens, s.drawn, i, s.os⟩) : codeAny (model theProg w) A (WL w.params L.F) R s :=
  turn_cut OL G hA X (fun b c rho tau stk h0 => part1_4 w.params b c rho tau stk h0 L _ ln tl _ tt k t6 es fe f4 nc fn) (sign_is OL hch) (fun rho2 tau2 tkc => spS4K w.params rho2 tau2 ln ts tl tt tkc 0 0 c0 rest l) advS4K (fun b c h2 i2 tk sp hm => nomatch hm) (fun tau1 tau2 tkc => [(L.lx, instObj 727 L.d), (L.d, lexD w.params L (.str ⟨#[92]⟩ tkc) ln tl ⟨⟨[]⟩⟩ tt), (L.F, (frame4 w.params L f4 ⟨#[97]⟩ (tau2 13) ⟨#[92]⟩ tkc))])
    (fun b c rho1 tau1 rho2 tau2 stk1 stk2 h0 tkc => runS4K_is w.params b c rho1 tau1 rho2 tau2 stk1 stk2 h0 L ts tl tt tkc 0 0 fe fn f4 k t6 c0 rest l es nc ln) (fun _ _ _ => List.mem_cons_self ..) hgo
theorem stepS4a {s : Shared} (OL : L.Ok) (G : Gr w s.heap) (hA : A.depth + 140 ≤ recursionLimit) {ts tl tt fe fn f4 k t6 c0 : Nat} {rest l : List Nat} {es nc : Str} {ln : Int} (hl : ([] : List Nat).length < 1900) (X : LexAt w L s.heap (.str ⟨#[32]⟩ ts) ln tl ⟨⟨[]⟩⟩ tt k t6 (frame4 w.params L f4 es fe nc fn)) (hch : L.buf.cps[k]? = some 97)
    (hgo : ∀ (h : Heap) (i : Nat) (tau1 tau2 : Nat → Nat) (tkc : Nat), TurnTo w L (k + 1) [(L.lx, instObj 727 L.d), (L.d, lexD w.params L (.str ⟨#[97]⟩ (tau2 16)) ln tl ⟨⟨[97]⟩⟩ tkc), (L.F, (frame4 w.params L f4 es fe ⟨#[97]⟩ tkc))] s.heap h → codeAny (model theProg w) A (WL w.params L.F) R ⟨h, s.gens, s.drawn, i, s.os⟩) : codeAny (model theProg w) A (WL w.params L.F) R s :=
  turn_cut OL G hA X (fun b c rho tau stk h0 => part1_4 w.params b c rho tau stk h0 L _ ln tl _ tt k t6 es fe f4 nc fn) (sign_is OL hch) (fun rho2 tau2 tkc => spS4a w.params rho2 tau2 ln ts tl tt tkc 0 0 c0 rest l) advS4a (fun b c h2 i2 tk sp hm => nomatch hm) (fun tau1 tau2 tkc => [(L.lx, instObj 727 L.d), (L.d, lexD w.params L (.str ⟨#[97]⟩ (tau2 16)) ln tl ⟨⟨[97]⟩⟩ tkc), (L.F, (frame4 w.params L f4 es fe ⟨#[97]⟩ tkc))])
    (fun b c rho1 tau1 rho2 tau2 stk1 stk2 h0 tkc => runS4a_is w.params b c rho1 tau1 rho2 tau2 stk1 stk2 h0 L ts tl tt tkc 0 0 fe fn f4 k t6 c0 rest l es nc ln) (fun _ _ _ => List.mem_cons_self ..) hgo
theorem stepS4D {s : Shared} (OL : L.Ok) (G : Gr w s.heap) (hA : A.depth + 140 ≤ recursionLimit) {ts tl tt fe fn f4 k t6 c0 : Nat} {rest l : List Nat} {es nc : Str} {ln : Int} (hl : ([] : List Nat).length < 1900) (X : LexAt w L s.heap (.str ⟨#[32]⟩ ts) ln tl ⟨⟨[]⟩⟩ tt k t6 (frame4 w.params L f4 es fe nc fn)) (hch : L.buf.cps[k]? = some 46)
    (hgo : ∀ (h : Heap) (i : Nat) (tau1 tau2 : Nat → Nat) (tkc : Nat), TurnTo w L (k + 1) [(L.lx, instObj 727 L.d), (L.d, lexD w.params L (.str ⟨#[97]⟩ (tau2 21)) ln tl ⟨⟨[46]⟩⟩ tkc), (L.F, (frame4 w.params L f4 es fe ⟨#[46]⟩ tkc))] s.heap h → codeAny (model theProg w) A (WL w.params L.F) R ⟨h, s.gens, s.drawn, i, s.os⟩) : codeAny (model theProg w) A (WL w.params L.F) R s :=
  turn_cut OL G hA X (fun b c rho tau stk h0 => part1_4 w.params b c rho tau stk h0 L _ ln tl _ tt k t6 es fe f4 nc fn) (sign_is OL hch) (fun rho2 tau2 tkc => spS4D w.params rho2 tau2 ln ts tl tt tkc 0 0 c0 rest l) advS4D (fun b c h2 i2 tk sp hm => nomatch hm) (fun tau1 tau2 tkc => [(L.lx, instObj 727 L.d), (L.d, lexD w.params L (.str ⟨#[97]⟩ (tau2 21)) ln tl ⟨⟨[46]⟩⟩ tkc), (L.F, (frame4 w.params L f4 es fe ⟨#[46]⟩ tkc))])
    (fun b c rho1 tau1 rho2 tau2 stk1 stk2 h0 tkc => runS4D_is w.params b c rho1 tau1 rho2 tau2 stk1 stk2 h0 L ts tl tt tkc 0 0 fe fn f4 k t6 c0 rest l es nc ln) (fun _ _ _ => List.mem_cons_self ..) hgo
theorem stepA4E {s : Shared} (OL : L.Ok) (G : Gr w s.heap) (hA : A.depth + 140 ≤ recursionLimit) {ts tl tt fe fn f4 k t6 c0 : Nat} {rest l : List Nat} {es nc : Str} {ln : Int} (hl : (c0 :: rest : List Nat).length < 1900) (X : LexAt w L s.heap (.str ⟨#[97]⟩ ts) ln tl ⟨⟨(c0 :: rest)⟩⟩ tt k t6 (frame4 w.params L f4 es fe nc fn)) (hk : L.buf.length = k)
    (hgo : ∀ (h : Heap) (i : Nat) (tau1 tau2 : Nat → Nat) (tkc : Nat), TurnTo w L k [(L.lx, instObj 727 L.d), (L.d, lexD w.params L .none ln tl ⟨⟨(c0 :: rest)⟩⟩ tt), (L.F, (frame4 w.params L f4 es fe ⟨#[]⟩ tkc))] s.heap h → R (.ok .next) ⟨h, s.gens, s.drawn, i, s.os⟩) : codeAny (model theProg w) A (WL w.params L.F) R s :=
  turn_ret OL G hA X (fun b c rho tau stk h0 => part1_4 w.params b c rho tau stk h0 L _ ln tl _ tt k t6 es fe f4 nc fn) (end_is OL hk) (fun rho2 tau2 tkc => spA4E w.params rho2 tau2 ln ts tl tt tkc 0 0 c0 rest l) advA4E (by
      intro b c h2 i2 tk sp hm
      replace hm := memL hm
      rcases hm with rfl <;> intro A' s' hn ht
      · exact ans_tupin _ _ _ _ (hn _ (List.mem_singleton.mpr rfl))) (fun tau1 tau2 tkc => [(L.lx, instObj 727 L.d), (L.d, lexD w.params L .none ln tl ⟨⟨(c0 :: rest)⟩⟩ tt), (L.F, (frame4 w.params L f4 es fe ⟨#[]⟩ tkc))])
    (fun b c rho1 tau1 rho2 tau2 stk1 stk2 h0 tkc => runA4E_is w.params b c rho1 tau1 rho2 tau2 stk1 stk2 h0 L ts tl tt tkc 0 0 fe fn f4 k t6 c0 rest l es nc ln) (fun _ _ _ => List.mem_cons_self ..) hgo
theorem stepA4R {s : Shared} (OL : L.Ok) (G : Gr w s.heap) (hA : A.depth + 140 ≤ recursionLimit) {ts tl tt fe fn f4 k t6 c0 : Nat} {rest l : List Nat} {es nc : Str} {ln : Int} (hl : (c0 :: rest : List Nat).length < 1900) (X : LexAt w L s.heap (.str ⟨#[97]⟩ ts) ln tl ⟨⟨(c0 :: rest)⟩⟩ tt k t6 (frame4 w.params L f4 es fe nc fn)) (hch : L.buf.cps[k]? = some 13)
    (hgo : ∀ (h : Heap) (i : Nat) (tau1 tau2 : Nat → Nat) (tkc : Nat), TurnTo w L (k + 1) [(L.lx, instObj 727 L.d), (L.d, lexD w.params L (.str ⟨#[32]⟩ (tau2 19)) ln tl ⟨⟨(c0 :: rest)⟩⟩ tt), (L.F, (frame4 w.params L f4 es fe ⟨#[13]⟩ tkc))] s.heap h → R (.ok .next) ⟨h, s.gens, s.drawn, i, s.os⟩) : codeAny (model theProg w) A (WL w.params L.F) R s :=
  turn_ret OL G hA X (fun b c rho tau stk h0 => part1_4 w.params b c rho tau stk h0 L _ ln tl _ tt k t6 es fe f4 nc fn) (sign_is OL hch) (fun rho2 tau2 tkc => spA4R w.params rho2 tau2 ln ts tl tt tkc 0 0 c0 rest l) advA4R (by
      intro b c h2 i2 tk sp hm
      replace hm := memL hm
      rcases hm with rfl | rfl <;> intro A' s' hn ht
      · exact ans_tupin _ _ _ _ (hn _ (List.mem_singleton.mpr rfl))
      · exact ans_lenB _ _ _ _ rfl (by show (c0 :: rest).length < 2000; omega) (by rw [ht]; rfl)) (fun tau1 tau2 tkc => [(L.lx, instObj 727 L.d), (L.d, lexD w.params L (.str ⟨#[32]⟩ (tau2 19)) ln tl ⟨⟨(c0 :: rest)⟩⟩ tt), (L.F, (frame4 w.params L f4 es fe ⟨#[13]⟩ tkc))])
    (fun b c rho1 tau1 rho2 tau2 stk1 stk2 h0 tkc => runA4R_is w.params b c rho1 tau1 rho2 tau2 stk1 stk2 h0 L ts tl tt tkc 0 0 fe fn f4 k t6 c0 rest l es nc ln) (fun _ _ _ => List.mem_cons_self ..) hgo
theorem stepA4L {s : Shared} (OL : L.Ok) (G : Gr w s.heap) (hA : A.depth + 140 ≤ recursionLimit) {ts tl tt fe fn f4 k t6 c0 : Nat} {rest l : List Nat} {es nc : Str} {ln : Int} (hl : (c0 :: rest : List Nat).length < 1900) (X : LexAt w L s.heap (.str ⟨#[97]⟩ ts) ln tl ⟨⟨(c0 :: rest)⟩⟩ tt k t6 (frame4 w.params L f4 es fe nc fn)) (hch : L.buf.cps[k]? = some 10)
    (hgo : ∀ (h : Heap) (i : Nat) (tau1 tau2 : Nat → Nat) (tkc : Nat), TurnTo w L (k + 1) [(L.lx, instObj 727 L.d), (L.d, lexD w.params L (.str ⟨#[32]⟩ (tau2 24)) (ln + 1) (tau2 4) ⟨⟨(c0 :: rest)⟩⟩ tt), (L.F, (frame4 w.params L f4 es fe ⟨#[10]⟩ tkc))] s.heap h → R (.ok .next) ⟨h, s.gens, s.drawn, i, s.os⟩) : codeAny (model theProg w) A (WL w.params L.F) R s :=
  turn_ret OL G hA X (fun b c rho tau stk h0 => part1_4 w.params b c rho tau stk h0 L _ ln tl _ tt k t6 es fe f4 nc fn) (sign_is OL hch) (fun rho2 tau2 tkc => spA4L w.params rho2 tau2 ln ts tl tt tkc 0 0 c0 rest l) advA4L (by
      intro b c h2 i2 tk sp hm
      replace hm := memL hm
      rcases hm with rfl | rfl | rfl <;> intro A' s' hn ht
      · exact ans_add _ _ _ _ _ ht
      · exact ans_tupin _ _ _ _ (hn _ (List.mem_singleton.mpr rfl))
      · exact ans_lenB _ _ _ _ rfl (by show (c0 :: rest).length < 2000; omega) (by rw [ht]; rfl)) (fun tau1 tau2 tkc => [(L.lx, instObj 727 L.d), (L.d, lexD w.params L (.str ⟨#[32]⟩ (tau2 24)) (ln + 1) (tau2 4) ⟨⟨(c0 :: rest)⟩⟩ tt), (L.F, (frame4 w.params L f4 es fe ⟨#[10]⟩ tkc))])
    (fun b c rho1 tau1 rho2 tau2 stk1 stk2 h0 tkc => runA4L_is w.params b c rho1 tau1 rho2 tau2 stk1 stk2 h0 L ts tl tt tkc 0 0 fe fn f4 k t6 c0 rest l es nc ln) (fun _ _ _ => List.mem_cons_self ..) hgo
theorem stepA4W {s : Shared} (OL : L.Ok) (G : Gr w s.heap) (hA : A.depth + 140 ≤ recursionLimit) {ts tl tt fe fn f4 k t6 c0 : Nat} {rest l : List Nat} {es nc : Str} {ln : Int} (hl : (c0 :: rest : List Nat).length < 1900) (X : LexAt w L s.heap (.str ⟨#[97]⟩ ts) ln tl ⟨⟨(c0 :: rest)⟩⟩ tt k t6 (frame4 w.params L f4 es fe nc fn)) (hch : L.buf.cps[k]? = some 32)
    (hgo : ∀ (h : Heap) (i : Nat) (tau1 tau2 : Nat → Nat) (tkc : Nat), TurnTo w L (k + 1) [(L.lx, instObj 727 L.d), (L.d, lexD w.params L (.str ⟨#[32]⟩ (tau2 19)) ln tl ⟨⟨(c0 :: rest)⟩⟩ tt), (L.F, (frame4 w.params L f4 es fe ⟨#[32]⟩ tkc))] s.heap h → R (.ok .next) ⟨h, s.gens, s.drawn, i, s.os⟩) : codeAny (model theProg w) A (WL w.params L.F) R s :=
  turn_ret OL G hA X (fun b c rho tau stk h0 => part1_4 w.params b c rho tau stk h0 L _ ln tl _ tt k t6 es fe f4 nc fn) (sign_is OL hch) (fun rho2 tau2 tkc => spA4W w.params rho2 tau2 ln ts tl tt tkc 0 0 c0 rest l) advA4W (by
      intro b c h2 i2 tk sp hm
      replace hm := memL hm
      rcases hm with rfl | rfl <;> intro A' s' hn ht
      · exact ans_tupin _ _ _ _ (hn _ (List.mem_singleton.mpr rfl))
      · exact ans_lenB _ _ _ _ rfl (by show (c0 :: rest).length < 2000; omega) (by rw [ht]; rfl)) (fun tau1 tau2 tkc => [(L.lx, instObj 727 L.d), (L.d, lexD w.params L (.str ⟨#[32]⟩ (tau2 19)) ln tl ⟨⟨(c0 :: rest)⟩⟩ tt), (L.F, (frame4 w.params L f4 es fe ⟨#[32]⟩ tkc))])
    (fun b c rho1 tau1 rho2 tau2 stk1 stk2 h0 tkc => runA4W_is w.params b c rho1 tau1 rho2 tau2 stk1 stk2 h0 L ts tl tt tkc 0 0 fe fn f4 k t6 c0 rest l es nc ln) (fun _ _ _ => List.mem_cons_self ..) hgo
theorem stepA4K {s : Shared} (OL : L.Ok) (G : Gr w s.heap) (hA : A.depth + 140 ≤ recursionLimit) {ts tl tt fe fn f4 k t6 c0 : Nat} {rest l : List Nat} {es nc : Str} {ln : Int} (hl : (c0 :: rest : List Nat).length < 1900) (X : LexAt w L s.heap (.str ⟨#[97]⟩ ts) ln tl ⟨⟨(c0 :: rest)⟩⟩ tt k t6 (frame4 w.params L f4 es fe nc fn)) (hch : L.buf.cps[k]? = some 92)
    (hgo : ∀ (h : Heap) (i : Nat) (tau1 tau2 : Nat → Nat) (tkc : Nat), TurnTo w L (k + 1) [(L.lx, instObj 727 L.d), (L.d, lexD w.params L (.str ⟨#[92]⟩ tkc) ln tl ⟨⟨(c0 :: rest)⟩⟩ tt), (L.F, (frame4 w.params L f4 ⟨#[97]⟩ (tau2 24) ⟨#[92]⟩ tkc))] s.heap h → codeAny (model theProg w) A (WL w.params L.F) R ⟨h, s.gens, s.drawn, i, s.os⟩) : codeAny (model theProg w) A (WL w.params L.F) R s :=
  turn_cut OL G hA X (fun b c rho tau stk h0 => part1_4 w.params b c rho tau stk h0 L _ ln tl _ tt k t6 es fe f4 nc fn) (sign_is OL hch) (fun rho2 tau2 tkc => spA4K w.params rho2 tau2 ln ts tl tt tkc 0 0 c0 rest l) advA4K (by
      intro b c h2 i2 tk sp hm
      replace hm := memL hm
      rcases hm with rfl <;> intro A' s' hn ht
      · exact ans_tupin _ _ _ _ (hn _ (List.mem_singleton.mpr rfl))) (fun tau1 tau2 tkc => [(L.lx, instObj 727 L.d), (L.d, lexD w.params L (.str ⟨#[92]⟩ tkc) ln tl ⟨⟨(c0 :: rest)⟩⟩ tt), (L.F, (frame4 w.params L f4 ⟨#[97]⟩ (tau2 24) ⟨#[92]⟩ tkc))])
    (fun b c rho1 tau1 rho2 tau2 stk1 stk2 h0 tkc => runA4K_is w.params b c rho1 tau1 rho2 tau2 stk1 stk2 h0 L ts tl tt tkc 0 0 fe fn f4 k t6 c0 rest l es nc ln) (fun _ _ _ => List.mem_cons_self ..) hgo
theorem stepA4a {s : Shared} (OL : L.Ok) (G : Gr w s.heap) (hA : A.depth + 140 ≤ recursionLimit) {ts tl tt fe fn f4 k t6 c0 : Nat} {rest l : List Nat} {es nc : Str} {ln : Int} (hl : (c0 :: rest : List Nat).length < 1900) (X : LexAt w L s.heap (.str ⟨#[97]⟩ ts) ln tl ⟨⟨(c0 :: rest)⟩⟩ tt k t6 (frame4 w.params L f4 es fe nc fn)) (hch : L.buf.cps[k]? = some 97)
    (hgo : ∀ (h : Heap) (i : Nat) (tau1 tau2 : Nat → Nat) (tkc : Nat), TurnTo w L (k + 1) [(L.lx, instObj 727 L.d), (L.d, lexD w.params L (.str ⟨#[97]⟩ ts) ln tl ⟨⟨(c0 :: (rest ++ [97]))⟩⟩ (addT (c0 :: rest) tkc (tau2 26))), (L.F, (frame4 w.params L f4 es fe ⟨#[97]⟩ tkc))] s.heap h → codeAny (model theProg w) A (WL w.params L.F) R ⟨h, s.gens, s.drawn, i, s.os⟩) : codeAny (model theProg w) A (WL w.params L.F) R s :=
  turn_cut OL G hA X (fun b c rho tau stk h0 => part1_4 w.params b c rho tau stk h0 L _ ln tl _ tt k t6 es fe f4 nc fn) (sign_is OL hch) (fun rho2 tau2 tkc => spA4a w.params rho2 tau2 ln ts tl tt tkc (addT (c0 :: rest) tkc (tau2 26)) (addN (c0 :: rest)) c0 rest l) advA4a (by
      intro b c h2 i2 tk sp hm
      replace hm := memL hm
      rcases hm with rfl | rfl <;> intro A' s' hn ht
      · exact ans_tupin _ _ _ _ (hn _ (List.mem_singleton.mpr rfl))
      · (have := ans_catL (prog := theProg) (w := w) (A := A') (s := s') (c0 :: rest) 97 tt tk hl; rw [ht] at this; exact this)) (fun tau1 tau2 tkc => [(L.lx, instObj 727 L.d), (L.d, lexD w.params L (.str ⟨#[97]⟩ ts) ln tl ⟨⟨(c0 :: (rest ++ [97]))⟩⟩ (addT (c0 :: rest) tkc (tau2 26))), (L.F, (frame4 w.params L f4 es fe ⟨#[97]⟩ tkc))])
    (fun b c rho1 tau1 rho2 tau2 stk1 stk2 h0 tkc => runA4a_is w.params b c rho1 tau1 rho2 tau2 stk1 stk2 h0 L ts tl tt tkc (addT (c0 :: rest) tkc (tau2 26)) (addN (c0 :: rest)) fe fn f4 k t6 c0 rest l es nc ln) (fun _ _ _ => List.mem_cons_self ..) hgo
theorem stepA4D {s : Shared} (OL : L.Ok) (G : Gr w s.heap) (hA : A.depth + 140 ≤ recursionLimit) {ts tl tt fe fn f4 k t6 c0 : Nat} {rest l : List Nat} {es nc : Str} {ln : Int} (hl : (c0 :: rest : List Nat).length < 1900) (X : LexAt w L s.heap (.str ⟨#[97]⟩ ts) ln tl ⟨⟨(c0 :: rest)⟩⟩ tt k t6 (frame4 w.params L f4 es fe nc fn)) (hch : L.buf.cps[k]? = some 46)
    (hgo : ∀ (h : Heap) (i : Nat) (tau1 tau2 : Nat → Nat) (tkc : Nat), TurnTo w L (k + 1) [(L.lx, instObj 727 L.d), (L.d, lexD w.params L (.str ⟨#[97]⟩ ts) ln tl ⟨⟨(c0 :: (rest ++ [46]))⟩⟩ (addT (c0 :: rest) tkc (tau2 31))), (L.F, (frame4 w.params L f4 es fe ⟨#[46]⟩ tkc))] s.heap h → codeAny (model theProg w) A (WL w.params L.F) R ⟨h, s.gens, s.drawn, i, s.os⟩) : codeAny (model theProg w) A (WL w.params L.F) R s :=
  turn_cut OL G hA X (fun b c rho tau stk h0 => part1_4 w.params b c rho tau stk h0 L _ ln tl _ tt k t6 es fe f4 nc fn) (sign_is OL hch) (fun rho2 tau2 tkc => spA4D w.params rho2 tau2 ln ts tl tt tkc (addT (c0 :: rest) tkc (tau2 31)) (addN (c0 :: rest)) c0 rest l) advA4D (by
      intro b c h2 i2 tk sp hm
      replace hm := memL hm
      rcases hm with rfl | rfl <;> intro A' s' hn ht
      · exact ans_tupin _ _ _ _ (hn _ (List.mem_singleton.mpr rfl))
      · (have := ans_catL (prog := theProg) (w := w) (A := A') (s := s') (c0 :: rest) 46 tt tk hl; rw [ht] at this; exact this)) (fun tau1 tau2 tkc => [(L.lx, instObj 727 L.d), (L.d, lexD w.params L (.str ⟨#[97]⟩ ts) ln tl ⟨⟨(c0 :: (rest ++ [46]))⟩⟩ (addT (c0 :: rest) tkc (tau2 31))), (L.F, (frame4 w.params L f4 es fe ⟨#[46]⟩ tkc))])
    (fun b c rho1 tau1 rho2 tau2 stk1 stk2 h0 tkc => runA4D_is w.params b c rho1 tau1 rho2 tau2 stk1 stk2 h0 L ts tl tt tkc (addT (c0 :: rest) tkc (tau2 31)) (addN (c0 :: rest)) fe fn f4 k t6 c0 rest l es nc ln) (fun _ _ _ => List.mem_cons_self ..) hgo
theorem stepB4R {s : Shared} (OL : L.Ok) (G : Gr w s.heap) (hA : A.depth + 140 ≤ recursionLimit) {ts tl tt fe fn f4 k t6 c0 : Nat} {rest l : List Nat} {es nc : Str} {ln : Int} (hl : (l : List Nat).length < 1900) (X : LexAt w L s.heap (.str ⟨#[92]⟩ ts) ln tl ⟨⟨l⟩⟩ tt k t6 (frame4 w.params L f4 ⟨#[97]⟩ fe nc fn)) (hch : L.buf.cps[k]? = some 13)
    (hgo : ∀ (h : Heap) (i : Nat) (tau1 tau2 : Nat → Nat) (tkc : Nat), TurnTo w L (k + 1) [(L.lx, instObj 727 L.d), (L.d, lexD w.params L (.str ⟨#[97]⟩ fe) ln tl ⟨⟨(l ++ [13])⟩⟩ (addT l tkc (tau2 15))), (L.F, (frame4 w.params L f4 ⟨#[97]⟩ fe ⟨#[13]⟩ tkc))] s.heap h → codeAny (model theProg w) A (WL w.params L.F) R ⟨h, s.gens, s.drawn, i, s.os⟩) : codeAny (model theProg w) A (WL w.params L.F) R s :=
  turn_cut OL G hA X (fun b c rho tau stk h0 => part1_4 w.params b c rho tau stk h0 L _ ln tl _ tt k t6 ⟨#[97]⟩ fe f4 nc fn) (sign_is OL hch) (fun rho2 tau2 tkc => spB4R w.params rho2 tau2 ln ts tl tt tkc (addT l tkc (tau2 15)) (addN l) c0 rest l) advB4R (by
      intro b c h2 i2 tk sp hm
      replace hm := memL hm
      rcases hm with rfl <;> intro A' s' hn ht
      · (have := ans_catL (prog := theProg) (w := w) (A := A') (s := s') l 13 tt tk hl; rw [ht] at this; exact this)) (fun tau1 tau2 tkc => [(L.lx, instObj 727 L.d), (L.d, lexD w.params L (.str ⟨#[97]⟩ fe) ln tl ⟨⟨(l ++ [13])⟩⟩ (addT l tkc (tau2 15))), (L.F, (frame4 w.params L f4 ⟨#[97]⟩ fe ⟨#[13]⟩ tkc))])
    (fun b c rho1 tau1 rho2 tau2 stk1 stk2 h0 tkc => runB4R_is w.params b c rho1 tau1 rho2 tau2 stk1 stk2 h0 L ts tl tt tkc (addT l tkc (tau2 15)) (addN l) fe fn f4 k t6 c0 rest l es nc ln) (fun _ _ _ => List.mem_cons_self ..) hgo
theorem stepB4L {s : Shared} (OL : L.Ok) (G : Gr w s.heap) (hA : A.depth + 140 ≤ recursionLimit) {ts tl tt fe fn f4 k t6 c0 : Nat} {rest l : List Nat} {es nc : Str} {ln : Int} (hl : (l : List Nat).length < 1900) (X : LexAt w L s.heap (.str ⟨#[92]⟩ ts) ln tl ⟨⟨l⟩⟩ tt k t6 (frame4 w.params L f4 ⟨#[97]⟩ fe nc fn)) (hch : L.buf.cps[k]? = some 10)
    (hgo : ∀ (h : Heap) (i : Nat) (tau1 tau2 : Nat → Nat) (tkc : Nat), TurnTo w L (k + 1) [(L.lx, instObj 727 L.d), (L.d, lexD w.params L (.str ⟨#[97]⟩ fe) (ln + 1) (tau2 4) ⟨⟨(l ++ [10])⟩⟩ (addT l tkc (tau2 20))), (L.F, (frame4 w.params L f4 ⟨#[97]⟩ fe ⟨#[10]⟩ tkc))] s.heap h → codeAny (model theProg w) A (WL w.params L.F) R ⟨h, s.gens, s.drawn, i, s.os⟩) : codeAny (model theProg w) A (WL w.params L.F) R s :=
  turn_cut OL G hA X (fun b c rho tau stk h0 => part1_4 w.params b c rho tau stk h0 L _ ln tl _ tt k t6 ⟨#[97]⟩ fe f4 nc fn) (sign_is OL hch) (fun rho2 tau2 tkc => spB4L w.params rho2 tau2 ln ts tl tt tkc (addT l tkc (tau2 20)) (addN l) c0 rest l) advB4L (by
      intro b c h2 i2 tk sp hm
      replace hm := memL hm
      rcases hm with rfl | rfl <;> intro A' s' hn ht
      · exact ans_add _ _ _ _ _ ht
      · (have := ans_catL (prog := theProg) (w := w) (A := A') (s := s') l 10 tt tk hl; rw [ht] at this; exact this)) (fun tau1 tau2 tkc => [(L.lx, instObj 727 L.d), (L.d, lexD w.params L (.str ⟨#[97]⟩ fe) (ln + 1) (tau2 4) ⟨⟨(l ++ [10])⟩⟩ (addT l tkc (tau2 20))), (L.F, (frame4 w.params L f4 ⟨#[97]⟩ fe ⟨#[10]⟩ tkc))])
    (fun b c rho1 tau1 rho2 tau2 stk1 stk2 h0 tkc => runB4L_is w.params b c rho1 tau1 rho2 tau2 stk1 stk2 h0 L ts tl tt tkc (addT l tkc (tau2 20)) (addN l) fe fn f4 k t6 c0 rest l es nc ln) (fun _ _ _ => List.mem_cons_self ..) hgo
theorem stepB4W {s : Shared} (OL : L.Ok) (G : Gr w s.heap) (hA : A.depth + 140 ≤ recursionLimit) {ts tl tt fe fn f4 k t6 c0 : Nat} {rest l : List Nat} {es nc : Str} {ln : Int} (hl : (l : List Nat).length < 1900) (X : LexAt w L s.heap (.str ⟨#[92]⟩ ts) ln tl ⟨⟨l⟩⟩ tt k t6 (frame4 w.params L f4 ⟨#[97]⟩ fe nc fn)) (hch : L.buf.cps[k]? = some 32)
    (hgo : ∀ (h : Heap) (i : Nat) (tau1 tau2 : Nat → Nat) (tkc : Nat), TurnTo w L (k + 1) [(L.lx, instObj 727 L.d), (L.d, lexD w.params L (.str ⟨#[97]⟩ fe) ln tl ⟨⟨(l ++ [32])⟩⟩ (addT l tkc (tau2 15))), (L.F, (frame4 w.params L f4 ⟨#[97]⟩ fe ⟨#[32]⟩ tkc))] s.heap h → codeAny (model theProg w) A (WL w.params L.F) R ⟨h, s.gens, s.drawn, i, s.os⟩) : codeAny (model theProg w) A (WL w.params L.F) R s :=
  turn_cut OL G hA X (fun b c rho tau stk h0 => part1_4 w.params b c rho tau stk h0 L _ ln tl _ tt k t6 ⟨#[97]⟩ fe f4 nc fn) (sign_is OL hch) (fun rho2 tau2 tkc => spB4W w.params rho2 tau2 ln ts tl tt tkc (addT l tkc (tau2 15)) (addN l) c0 rest l) advB4W (by
      intro b c h2 i2 tk sp hm
      replace hm := memL hm
      rcases hm with rfl <;> intro A' s' hn ht
      · (have := ans_catL (prog := theProg) (w := w) (A := A') (s := s') l 32 tt tk hl; rw [ht] at this; exact this)) (fun tau1 tau2 tkc => [(L.lx, instObj 727 L.d), (L.d, lexD w.params L (.str ⟨#[97]⟩ fe) ln tl ⟨⟨(l ++ [32])⟩⟩ (addT l tkc (tau2 15))), (L.F, (frame4 w.params L f4 ⟨#[97]⟩ fe ⟨#[32]⟩ tkc))])
    (fun b c rho1 tau1 rho2 tau2 stk1 stk2 h0 tkc => runB4W_is w.params b c rho1 tau1 rho2 tau2 stk1 stk2 h0 L ts tl tt tkc (addT l tkc (tau2 15)) (addN l) fe fn f4 k t6 c0 rest l es nc ln) (fun _ _ _ => List.mem_cons_self ..) hgo
theorem stepB4K {s : Shared} (OL : L.Ok) (G : Gr w s.heap) (hA : A.depth + 140 ≤ recursionLimit) {ts tl tt fe fn f4 k t6 c0 : Nat} {rest l : List Nat} {es nc : Str} {ln : Int} (hl : (l : List Nat).length < 1900) (X : LexAt w L s.heap (.str ⟨#[92]⟩ ts) ln tl ⟨⟨l⟩⟩ tt k t6 (frame4 w.params L f4 ⟨#[97]⟩ fe nc fn)) (hch : L.buf.cps[k]? = some 92)
    (hgo : ∀ (h : Heap) (i : Nat) (tau1 tau2 : Nat → Nat) (tkc : Nat), TurnTo w L (k + 1) [(L.lx, instObj 727 L.d), (L.d, lexD w.params L (.str ⟨#[97]⟩ fe) ln tl ⟨⟨(l ++ [92])⟩⟩ (addT l tkc (tau2 15))), (L.F, (frame4 w.params L f4 ⟨#[97]⟩ fe ⟨#[92]⟩ tkc))] s.heap h → codeAny (model theProg w) A (WL w.params L.F) R ⟨h, s.gens, s.drawn, i, s.os⟩) : codeAny (model theProg w) A (WL w.params L.F) R s :=
  turn_cut OL G hA X (fun b c rho tau stk h0 => part1_4 w.params b c rho tau stk h0 L _ ln tl _ tt k t6 ⟨#[97]⟩ fe f4 nc fn) (sign_is OL hch) (fun rho2 tau2 tkc => spB4K w.params rho2 tau2 ln ts tl tt tkc (addT l tkc (tau2 15)) (addN l) c0 rest l) advB4K (by
      intro b c h2 i2 tk sp hm
      replace hm := memL hm
      rcases hm with rfl <;> intro A' s' hn ht
      · (have := ans_catL (prog := theProg) (w := w) (A := A') (s := s') l 92 tt tk hl; rw [ht] at this; exact this)) (fun tau1 tau2 tkc => [(L.lx, instObj 727 L.d), (L.d, lexD w.params L (.str ⟨#[97]⟩ fe) ln tl ⟨⟨(l ++ [92])⟩⟩ (addT l tkc (tau2 15))), (L.F, (frame4 w.params L f4 ⟨#[97]⟩ fe ⟨#[92]⟩ tkc))])
    (fun b c rho1 tau1 rho2 tau2 stk1 stk2 h0 tkc => runB4K_is w.params b c rho1 tau1 rho2 tau2 stk1 stk2 h0 L ts tl tt tkc (addT l tkc (tau2 15)) (addN l) fe fn f4 k t6 c0 rest l es nc ln) (fun _ _ _ => List.mem_cons_self ..) hgo
theorem stepB4a {s : Shared} (OL : L.Ok) (G : Gr w s.heap) (hA : A.depth + 140 ≤ recursionLimit) {ts tl tt fe fn f4 k t6 c0 : Nat} {rest l : List Nat} {es nc : Str} {ln : Int} (hl : (l : List Nat).length < 1900) (X : LexAt w L s.heap (.str ⟨#[92]⟩ ts) ln tl ⟨⟨l⟩⟩ tt k t6 (frame4 w.params L f4 ⟨#[97]⟩ fe nc fn)) (hch : L.buf.cps[k]? = some 97)
    (hgo : ∀ (h : Heap) (i : Nat) (tau1 tau2 : Nat → Nat) (tkc : Nat), TurnTo w L (k + 1) [(L.lx, instObj 727 L.d), (L.d, lexD w.params L (.str ⟨#[97]⟩ fe) ln tl ⟨⟨(l ++ [97])⟩⟩ (addT l tkc (tau2 15))), (L.F, (frame4 w.params L f4 ⟨#[97]⟩ fe ⟨#[97]⟩ tkc))] s.heap h → codeAny (model theProg w) A (WL w.params L.F) R ⟨h, s.gens, s.drawn, i, s.os⟩) : codeAny (model theProg w) A (WL w.params L.F) R s :=
  turn_cut OL G hA X (fun b c rho tau stk h0 => part1_4 w.params b c rho tau stk h0 L _ ln tl _ tt k t6 ⟨#[97]⟩ fe f4 nc fn) (sign_is OL hch) (fun rho2 tau2 tkc => spB4a w.params rho2 tau2 ln ts tl tt tkc (addT l tkc (tau2 15)) (addN l) c0 rest l) advB4a (by
      intro b c h2 i2 tk sp hm
      replace hm := memL hm
      rcases hm with rfl <;> intro A' s' hn ht
      · (have := ans_catL (prog := theProg) (w := w) (A := A') (s := s') l 97 tt tk hl; rw [ht] at this; exact this)) (fun tau1 tau2 tkc => [(L.lx, instObj 727 L.d), (L.d, lexD w.params L (.str ⟨#[97]⟩ fe) ln tl ⟨⟨(l ++ [97])⟩⟩ (addT l tkc (tau2 15))), (L.F, (frame4 w.params L f4 ⟨#[97]⟩ fe ⟨#[97]⟩ tkc))])
    (fun b c rho1 tau1 rho2 tau2 stk1 stk2 h0 tkc => runB4a_is w.params b c rho1 tau1 rho2 tau2 stk1 stk2 h0 L ts tl tt tkc (addT l tkc (tau2 15)) (addN l) fe fn f4 k t6 c0 rest l es nc ln) (fun _ _ _ => List.mem_cons_self ..) hgo
theorem stepB4D {s : Shared} (OL : L.Ok) (G : Gr w s.heap) (hA : A.depth + 140 ≤ recursionLimit) {ts tl tt fe fn f4 k t6 c0 : Nat} {rest l : List Nat} {es nc : Str} {ln : Int} (hl : (l : List Nat).length < 1900) (X : LexAt w L s.heap (.str ⟨#[92]⟩ ts) ln tl ⟨⟨l⟩⟩ tt k t6 (frame4 w.params L f4 ⟨#[97]⟩ fe nc fn)) (hch : L.buf.cps[k]? = some 46)
    (hgo : ∀ (h : Heap) (i : Nat) (tau1 tau2 : Nat → Nat) (tkc : Nat), TurnTo w L (k + 1) [(L.lx, instObj 727 L.d), (L.d, lexD w.params L (.str ⟨#[97]⟩ fe) ln tl ⟨⟨(l ++ [46])⟩⟩ (addT l tkc (tau2 15))), (L.F, (frame4 w.params L f4 ⟨#[97]⟩ fe ⟨#[46]⟩ tkc))] s.heap h → codeAny (model theProg w) A (WL w.params L.F) R ⟨h, s.gens, s.drawn, i, s.os⟩) : codeAny (model theProg w) A (WL w.params L.F) R s :=
  turn_cut OL G hA X (fun b c rho tau stk h0 => part1_4 w.params b c rho tau stk h0 L _ ln tl _ tt k t6 ⟨#[97]⟩ fe f4 nc fn) (sign_is OL hch) (fun rho2 tau2 tkc => spB4D w.params rho2 tau2 ln ts tl tt tkc (addT l tkc (tau2 15)) (addN l) c0 rest l) advB4D (by
      intro b c h2 i2 tk sp hm
      replace hm := memL hm
      rcases hm with rfl <;> intro A' s' hn ht
      · (have := ans_catL (prog := theProg) (w := w) (A := A') (s := s') l 46 tt tk hl; rw [ht] at this; exact this)) (fun tau1 tau2 tkc => [(L.lx, instObj 727 L.d), (L.d, lexD w.params L (.str ⟨#[97]⟩ fe) ln tl ⟨⟨(l ++ [46])⟩⟩ (addT l tkc (tau2 15))), (L.F, (frame4 w.params L f4 ⟨#[97]⟩ fe ⟨#[46]⟩ tkc))])
    (fun b c rho1 tau1 rho2 tau2 stk1 stk2 h0 tkc => runB4D_is w.params b c rho1 tau1 rho2 tau2 stk1 stk2 h0 L ts tl tt tkc (addT l tkc (tau2 15)) (addN l) fe fn f4 k t6 c0 rest l es nc ln) (fun _ _ _ => List.mem_cons_self ..) hgo
end
end
section
inductive LS where
  | S | A | B
noncomputable def isWs (c : Nat) : Bool := c == 13 || c == 10 || c == 32
/-- the loop of read_token over the signs that are left: has it come to the end, the word, the rest; none: it raises -/
noncomputable def loopF : LS → List Nat → List Nat → Option (Bool × List Nat × List Nat)
  | .S, _, [] => some (true, [], [])
  | .S, _, c :: r => if isWs c then loopF .S [] r else if c == 92 then loopF .B [] r else loopF .A [c] r
  | .A, l, [] => some (true, l, [])
  | .A, l, c :: r => if isWs c then some (false, l, r) else if c == 92 then loopF .B l r else loopF .A (l ++ [c]) r
  | .B, _, [] => none
  | .B, l, c :: r => loopF .A (l ++ [c]) r
noncomputable def isSign (c : Nat) : Prop := c = 92 ∨ c = 13 ∨ c = 10 ∨ c = 46 ∨ c = 97 ∨ c = 32
/-- one call of read_token's loop -/
noncomputable def tokF (eof : Bool) (rem : List Nat) : Option (Bool × List Nat × List Nat) := if eof then some (true, [], []) else loopF .S [] rem
end
section
set_option linter.unusedSimpArgs false
noncomputable def stv : LS → Nat → Value
  | .S, t => .str ⟨#[32]⟩ t
  | .A, t => .str ⟨#[97]⟩ t
  | .B, t => .str ⟨#[92]⟩ t
noncomputable def inv : LS → List Nat → Str → Prop
  | .S, l, _ => l = []
  | .A, l, _ => l ≠ []
  | .B, _, es => es = ⟨#[97]⟩
section
variable {w : World} {A : Around} {R : Result → Shared → Prop} {L : LX}
noncomputable def Kept (L : LX) (h h' : Heap) : Prop := ∀ b o, h.get? b = some o → b ≠ L.d → b ≠ L.di → b ≠ L.F → h'.get? b = some o
theorem Kept.refl (h : Heap) : Kept L h h := fun _ _ e _ _ _ => e
theorem Kept.trans {h h' h'' : Heap} (a : Kept L h h') (b : Kept L h' h'') : Kept L h h'' := fun x o e e1 e2 e3 => b x o (a x o e e1 e2 e3) e1 e2 e3
theorem Kept.gr (OL : L.Ok) {h h' : Heap} (k : Kept L h h') (G : Gr w h) : Gr w h' := G.keeps fun b o hlt e => k b o e
  (fun q => absurd hlt (Nat.not_lt.mpr (q ▸ OL.high L.d (by first | trivial | simp)))) (fun q => absurd hlt (Nat.not_lt.mpr (q ▸ OL.high L.di (by first | trivial | simp)))) (fun q => absurd hlt (Nat.not_lt.mpr (q ▸ OL.high L.F (by first | trivial | simp))))
/-- the lexer stands in a state of the loop -/
inductive In4 (w : World) (L : LX) (x : LS) (l rem : List Nat) (h : Heap) : Prop
  | mk (ts : Nat) (ln : Int) (tl tt k t6 : Nat) (f4 : Nat) (es : Str) (fe : Nat) (nc : Str) (fn : Nat) (X : LexAt w L h (stv x ts) ln tl ⟨⟨l⟩⟩ tt k t6 (frame4 w.params L f4 es fe nc fn)) (hi : inv x l es) (hd : L.buf.cps.toList.drop k = rem) (hk : k ≤ L.buf.length)
/-- the lexer has left the loop -/
inductive Out4 (w : World) (L : LX) (eof : Bool) (l rem : List Nat) (h : Heap) : Prop
  | mk (ts : Nat) (ln : Int) (tl tt k t6 : Nat) (f4 : Nat) (es : Str) (fe : Nat) (nc : Str) (fn : Nat) (X : LexAt w L h (if eof then .none else .str ⟨#[32]⟩ ts) ln tl ⟨⟨l⟩⟩ tt k t6 (frame4 w.params L f4 es fe nc fn)) (hd : L.buf.cps.toList.drop k = rem) (hk : k ≤ L.buf.length)
theorem lexAt_of {h h' : Heap} {k' : Nat} {Fo : Obj} {st : Value} {ln : Int} {tl : Nat} {tok : Str} {tt : Nat} (T : TurnTo w L k' [(L.lx, instObj 727 L.d), (L.d, lexD w.params L st ln tl tok tt), (L.F, Fo)] h h') : ∃ t6, LexAt w L h' st ln tl tok tt k' t6 Fo := by
  obtain ⟨t6, e⟩ := T.di
  exact ⟨t6, T.lx, T.new (L.d, _) (by trivial), T.io, e, T.new (L.F, Fo) (by trivial)⟩
theorem drop_cons {l r : List Nat} {k c : Nat} (e : l.drop k = c :: r) : l[k]? = some c ∧ l.drop (k + 1) = r ∧ k < l.length := by
  have hk : k < l.length := by
    rcases Nat.lt_or_ge k l.length with h | h
    · exact h
    · rw [List.drop_eq_nil_of_le h] at e; cases e
  rw [List.drop_eq_getElem_cons hk] at e
  injection e with e1 e2
  exact ⟨by rw [List.getElem?_eq_getElem hk, e1], e2, hk⟩
theorem loop4 (OL : L.Ok) (hA : A.depth + 140 ≤ recursionLimit) : ∀ (rem : List Nat) (x : LS) (l : List Nat) (s : Shared), Gr w s.heap → In4 w L x l rem s.heap → (∀ c ∈ rem, isSign c) → l.length + rem.length < 1800 →
    (∀ eof l' r', loopF x l rem = some (eof, l', r') → ∀ h i, Out4 w L eof l' r' h → Kept L s.heap h → R (.ok .next) ⟨h, s.gens, s.drawn, i, s.os⟩) →
    (loopF x l rem = none → ∀ h i l', Gr w h → In4 w L .B l' [] h → Kept L s.heap h → codeAny (model theProg w) A (WL w.params L.F) R ⟨h, s.gens, s.drawn, i, s.os⟩) →
    codeAny (model theProg w) A (WL w.params L.F) R s := by
  intro rem
  induction rem with
  | nil =>
    intro x l s G I hs hl hR hE
    obtain ⟨ts, ln, tl, tt, k, t6, f4, es, fe, nc, fn, X, hi, hd, hk⟩ := id I
    have hke : L.buf.length = k := by
      have := congrArg List.length hd
      rw [List.length_drop, List.length_nil, Array.length_toList] at this
      have h2 : L.buf.cps.size = L.buf.length := rfl
      omega
    cases x with
    | S =>
      subst hi
      refine stepS4E OL G hA (by first | trivial | simp) X hke (c0 := 0) (rest := []) (l := []) fun h i tau1 tau2 tkc T => ?_
      obtain ⟨t6', X'⟩ := lexAt_of T
      exact hR true [] [] rfl h i ⟨ts, _, _, _, _, _, _, _, _, _, _, X', hd, hk⟩ T.keep
    | A =>
      cases l with
      | nil => exact absurd rfl hi
      | cons c0 rest =>
        refine stepA4E OL G hA (by simp only [List.length_cons, List.length_nil] at hl ⊢; omega) X hke (l := []) fun h i tau1 tau2 tkc T => ?_
        obtain ⟨t6', X'⟩ := lexAt_of T
        exact hR true _ [] rfl h i ⟨ts, _, _, _, _, _, _, _, _, _, _, X', hd, hk⟩ T.keep
    | B => exact hE rfl s.heap s.toks l G I (Kept.refl _)
  | cons c r ih =>
    intro x l s G I hs hl hR hE
    obtain ⟨ts, ln, tl, tt, k, t6, f4, es, fe, nc, fn, X, hi, hd, hk⟩ := id I
    obtain ⟨hc, hd', hk'⟩ := drop_cons hd
    have hch : L.buf.cps[k]? = some c := by rw [← Array.getElem?_toList]; exact hc
    have hkl : k + 1 ≤ L.buf.length := hk'
    have hs' : ∀ c ∈ r, isSign c := fun c hc => hs c (List.mem_cons_of_mem _ hc)
    simp only [List.length_cons] at hl
    have hsc : isSign c := hs c (List.mem_cons_self ..)
    have go : ∀ {x' : LS} {l' : List Nat} (h : Heap) (i : Nat), In4 w L x' l' r h → Kept L s.heap h → loopF x l (c :: r) = loopF x' l' r → l'.length + r.length < 1800 → codeAny (model theProg w) A (WL w.params L.F) R ⟨h, s.gens, s.drawn, i, s.os⟩ :=
      fun h i I' K e hl' => ih _ _ ⟨h, s.gens, s.drawn, i, s.os⟩ (K.gr OL G) I' hs' hl' (fun eof l'' r'' e2 h2 i2 O2 K2 => hR eof l'' r'' (e.trans e2) h2 i2 O2 (K.trans K2)) (fun e2 h2 i2 l'' G2 I2 K2 => hE (e.trans e2) h2 i2 l'' G2 I2 (K.trans K2))
    cases x with
    | S =>
      subst hi
      rcases hsc with rfl | rfl | rfl | rfl | rfl | rfl
      · refine stepS4K OL G hA (by first | trivial | simp) X hch (c0 := 0) (rest := []) (l := []) fun h i tau1 tau2 tkc T => ?_
        obtain ⟨t6', X'⟩ := lexAt_of T
        exact go (x' := .B) (l' := []) h i ⟨_, _, _, _, _, _, _, _, _, _, _, X', rfl, hd', hkl⟩ T.keep rfl (by simp only [List.length_cons, List.length_append, List.length_nil] at hl ⊢; omega)
      · refine stepS4R OL G hA (by first | trivial | simp) X hch (c0 := 0) (rest := []) (l := []) fun h i tau1 tau2 tkc T => ?_
        obtain ⟨t6', X'⟩ := lexAt_of T
        exact go (x' := .S) (l' := []) h i ⟨_, _, _, _, _, _, _, _, _, _, _, X', rfl, hd', hkl⟩ T.keep rfl (by simp only [List.length_cons, List.length_append, List.length_nil] at hl ⊢; omega)
      · refine stepS4L OL G hA (by first | trivial | simp) X hch (c0 := 0) (rest := []) (l := []) fun h i tau1 tau2 tkc T => ?_
        obtain ⟨t6', X'⟩ := lexAt_of T
        exact go (x' := .S) (l' := []) h i ⟨_, _, _, _, _, _, _, _, _, _, _, X', rfl, hd', hkl⟩ T.keep rfl (by simp only [List.length_cons, List.length_append, List.length_nil] at hl ⊢; omega)
      · refine stepS4D OL G hA (by first | trivial | simp) X hch (c0 := 0) (rest := []) (l := []) fun h i tau1 tau2 tkc T => ?_
        obtain ⟨t6', X'⟩ := lexAt_of T
        exact go (x' := .A) (l' := [46]) h i ⟨_, _, _, _, _, _, _, _, _, _, _, X', (by intro q; cases q), hd', hkl⟩ T.keep rfl (by simp only [List.length_cons, List.length_append, List.length_nil] at hl ⊢; omega)
      · refine stepS4a OL G hA (by first | trivial | simp) X hch (c0 := 0) (rest := []) (l := []) fun h i tau1 tau2 tkc T => ?_
        obtain ⟨t6', X'⟩ := lexAt_of T
        exact go (x' := .A) (l' := [97]) h i ⟨_, _, _, _, _, _, _, _, _, _, _, X', (by intro q; cases q), hd', hkl⟩ T.keep rfl (by simp only [List.length_cons, List.length_append, List.length_nil] at hl ⊢; omega)
      · refine stepS4W OL G hA (by first | trivial | simp) X hch (c0 := 0) (rest := []) (l := []) fun h i tau1 tau2 tkc T => ?_
        obtain ⟨t6', X'⟩ := lexAt_of T
        exact go (x' := .S) (l' := []) h i ⟨_, _, _, _, _, _, _, _, _, _, _, X', rfl, hd', hkl⟩ T.keep rfl (by simp only [List.length_cons, List.length_append, List.length_nil] at hl ⊢; omega)
    | A =>
      cases l with
      | nil => exact absurd rfl hi
      | cons c0 rest =>
        rcases hsc with rfl | rfl | rfl | rfl | rfl | rfl
        · refine stepA4K OL G hA (by simp only [List.length_cons] at hl ⊢; omega) X hch (l := []) fun h i tau1 tau2 tkc T => ?_
          obtain ⟨t6', X'⟩ := lexAt_of T
          exact go (x' := .B) (l' := (c0 :: rest)) h i ⟨_, _, _, _, _, _, _, _, _, _, _, X', rfl, hd', hkl⟩ T.keep rfl (by simp only [List.length_cons, List.length_append, List.length_nil] at hl ⊢; omega)
        · refine stepA4R OL G hA (by simp only [List.length_cons] at hl ⊢; omega) X hch (l := []) fun h i tau1 tau2 tkc T => ?_
          obtain ⟨t6', X'⟩ := lexAt_of T
          exact hR false _ r rfl h i ⟨_, _, _, _, _, _, _, _, _, _, _, X', hd', hkl⟩ T.keep
        · refine stepA4L OL G hA (by simp only [List.length_cons] at hl ⊢; omega) X hch (l := []) fun h i tau1 tau2 tkc T => ?_
          obtain ⟨t6', X'⟩ := lexAt_of T
          exact hR false _ r rfl h i ⟨_, _, _, _, _, _, _, _, _, _, _, X', hd', hkl⟩ T.keep
        · refine stepA4D OL G hA (by simp only [List.length_cons] at hl ⊢; omega) X hch (l := []) fun h i tau1 tau2 tkc T => ?_
          obtain ⟨t6', X'⟩ := lexAt_of T
          exact go (x' := .A) (l' := (c0 :: (rest ++ [46]))) h i ⟨_, _, _, _, _, _, _, _, _, _, _, X', (by intro q; cases q), hd', hkl⟩ T.keep rfl (by simp only [List.length_cons, List.length_append, List.length_nil] at hl ⊢; omega)
        · refine stepA4a OL G hA (by simp only [List.length_cons] at hl ⊢; omega) X hch (l := []) fun h i tau1 tau2 tkc T => ?_
          obtain ⟨t6', X'⟩ := lexAt_of T
          exact go (x' := .A) (l' := (c0 :: (rest ++ [97]))) h i ⟨_, _, _, _, _, _, _, _, _, _, _, X', (by intro q; cases q), hd', hkl⟩ T.keep rfl (by simp only [List.length_cons, List.length_append, List.length_nil] at hl ⊢; omega)
        · refine stepA4W OL G hA (by simp only [List.length_cons] at hl ⊢; omega) X hch (l := []) fun h i tau1 tau2 tkc T => ?_
          obtain ⟨t6', X'⟩ := lexAt_of T
          exact hR false _ r rfl h i ⟨_, _, _, _, _, _, _, _, _, _, _, X', hd', hkl⟩ T.keep
    | B =>
      have hes : es = ⟨#[97]⟩ := hi
      subst hes
      rcases hsc with rfl | rfl | rfl | rfl | rfl | rfl
      · refine stepB4K OL G hA (by omega) X hch (c0 := 0) (rest := []) (es := ⟨#[]⟩) fun h i tau1 tau2 tkc T => ?_
        obtain ⟨t6', X'⟩ := lexAt_of T
        exact go (x' := .A) (l' := (l ++ [92])) h i ⟨_, _, _, _, _, _, _, _, _, _, _, X', (by simp [inv]), hd', hkl⟩ T.keep rfl (by simp only [List.length_cons, List.length_append, List.length_nil] at hl ⊢; omega)
      · refine stepB4R OL G hA (by omega) X hch (c0 := 0) (rest := []) (es := ⟨#[]⟩) fun h i tau1 tau2 tkc T => ?_
        obtain ⟨t6', X'⟩ := lexAt_of T
        exact go (x' := .A) (l' := (l ++ [13])) h i ⟨_, _, _, _, _, _, _, _, _, _, _, X', (by simp [inv]), hd', hkl⟩ T.keep rfl (by simp only [List.length_cons, List.length_append, List.length_nil] at hl ⊢; omega)
      · refine stepB4L OL G hA (by omega) X hch (c0 := 0) (rest := []) (es := ⟨#[]⟩) fun h i tau1 tau2 tkc T => ?_
        obtain ⟨t6', X'⟩ := lexAt_of T
        exact go (x' := .A) (l' := (l ++ [10])) h i ⟨_, _, _, _, _, _, _, _, _, _, _, X', (by simp [inv]), hd', hkl⟩ T.keep rfl (by simp only [List.length_cons, List.length_append, List.length_nil] at hl ⊢; omega)
      · refine stepB4D OL G hA (by omega) X hch (c0 := 0) (rest := []) (es := ⟨#[]⟩) fun h i tau1 tau2 tkc T => ?_
        obtain ⟨t6', X'⟩ := lexAt_of T
        exact go (x' := .A) (l' := (l ++ [46])) h i ⟨_, _, _, _, _, _, _, _, _, _, _, X', (by simp [inv]), hd', hkl⟩ T.keep rfl (by simp only [List.length_cons, List.length_append, List.length_nil] at hl ⊢; omega)
      · refine stepB4a OL G hA (by omega) X hch (c0 := 0) (rest := []) (es := ⟨#[]⟩) fun h i tau1 tau2 tkc T => ?_
        obtain ⟨t6', X'⟩ := lexAt_of T
        exact go (x' := .A) (l' := (l ++ [97])) h i ⟨_, _, _, _, _, _, _, _, _, _, _, X', (by simp [inv]), hd', hkl⟩ T.keep rfl (by simp only [List.length_cons, List.length_append, List.length_nil] at hl ⊢; omega)
      · refine stepB4W OL G hA (by omega) X hch (c0 := 0) (rest := []) (es := ⟨#[]⟩) fun h i tau1 tau2 tkc T => ?_
        obtain ⟨t6', X'⟩ := lexAt_of T
        exact go (x' := .A) (l' := (l ++ [32])) h i ⟨_, _, _, _, _, _, _, _, _, _, _, X', (by simp [inv]), hd', hkl⟩ T.keep rfl (by simp only [List.length_cons, List.length_append, List.length_nil] at hl ⊢; omega)
end
end
section
set_option linter.unusedSimpArgs false
section
variable {w : World} {A : Around} {R : Result → Shared → Prop} {L : LX}
/-- the loop is begun; state: a blank, or none (the end has been met) -/
inductive In3 (w : World) (L : LX) (eof : Bool) (rem : List Nat) (h : Heap) : Prop
  | mk (ts : Nat) (ln : Int) (tl tt k t6 : Nat) (es : Str) (fe : Nat) (X : LexAt w L h (if eof then .none else .str ⟨#[32]⟩ ts) ln tl ⟨⟨[]⟩⟩ tt k t6 (frame3 w.params L es fe)) (hd : L.buf.cps.toList.drop k = rem) (hk : k ≤ L.buf.length)
theorem loop3 (OL : L.Ok) (hA : A.depth + 140 ≤ recursionLimit) (eof : Bool) (rem : List Nat) (s : Shared) (G : Gr w s.heap) (I : In3 w L eof rem s.heap) (he : eof = true → rem = []) (hs : ∀ c ∈ rem, isSign c) (hl : rem.length < 1700)
    (hR : ∀ eof' l' r', tokF eof rem = some (eof', l', r') → ∀ h i, Out4 w L eof' l' r' h → Kept L s.heap h → R (.ok .next) ⟨h, s.gens, s.drawn, i, s.os⟩)
    (hE : tokF eof rem = none → ∀ h i l', Gr w h → In4 w L .B l' [] h → Kept L s.heap h → codeAny (model theProg w) A (WL w.params L.F) R ⟨h, s.gens, s.drawn, i, s.os⟩) :
    codeAny (model theProg w) A (WL w.params L.F) R s := by
  obtain ⟨ts, ln, tl, tt, k, t6, es, fe, X, hd, hk⟩ := id I
  have hke : rem = [] → L.buf.length = k := by
    intro hr
    rw [hr] at hd
    have := congrArg List.length hd
    rw [List.length_drop, List.length_nil, Array.length_toList] at this
    have h2 : L.buf.cps.size = L.buf.length := rfl
    omega
  cases eof with
  | true =>
    have hr := he rfl
    refine stepN3E OL G hA (by first | trivial | simp) X (hke hr) (ts := 0) (fn := 0) (f4 := 0) (c0 := 0) (rest := []) (l := []) (nc := ⟨#[]⟩) fun h i tau1 tau2 tkc T => ?_
    rw [frame4q_eq] at T
    obtain ⟨t6', X'⟩ := lexAt_of T
    exact hR true [] [] rfl h i ⟨0, _, _, _, _, _, _, _, _, _, _, X', by rw [hd, hr], hk⟩ T.keep
  | false =>
    cases rem with
    | nil =>
      refine stepS3E OL G hA (by first | trivial | simp) X (hke rfl) (fn := 0) (f4 := 0) (c0 := 0) (rest := []) (l := []) (nc := ⟨#[]⟩) fun h i tau1 tau2 tkc T => ?_
      rw [frame4q_eq] at T
      obtain ⟨t6', X'⟩ := lexAt_of T
      exact hR true [] [] rfl h i ⟨0, _, _, _, _, _, _, _, _, _, _, X', hd, hk⟩ T.keep
    | cons c r =>
      obtain ⟨hc, hd', hk'⟩ := drop_cons hd
      have hch : L.buf.cps[k]? = some c := by rw [← Array.getElem?_toList]; exact hc
      have hkl : k + 1 ≤ L.buf.length := hk'
      have hs' : ∀ c ∈ r, isSign c := fun c hc => hs c (List.mem_cons_of_mem _ hc)
      simp only [List.length_cons] at hl
      have go : ∀ {x' : LS} {l' : List Nat} (h : Heap) (i : Nat), In4 w L x' l' r h → Kept L s.heap h → tokF false (c :: r) = loopF x' l' r → l'.length + r.length < 1800 → codeAny (model theProg w) A (WL w.params L.F) R ⟨h, s.gens, s.drawn, i, s.os⟩ :=
        fun h i I' K e hl' => loop4 OL hA r _ _ ⟨h, s.gens, s.drawn, i, s.os⟩ (K.gr OL G) I' hs' hl' (fun eof l'' r'' e2 h2 i2 O2 K2 => hR eof l'' r'' (e.trans e2) h2 i2 O2 (K.trans K2)) (fun e2 h2 i2 l'' G2 I2 K2 => hE (e.trans e2) h2 i2 l'' G2 I2 (K.trans K2))
      have hsc : isSign c := hs c (List.mem_cons_self ..)
      rcases hsc with rfl | rfl | rfl | rfl | rfl | rfl
      · refine stepS3K OL G hA (by first | trivial | simp) X hch (fn := 0) (f4 := 0) (c0 := 0) (rest := []) (l := []) (nc := ⟨#[]⟩) fun h i tau1 tau2 tkc T => ?_
        rw [frame4q_eq] at T
        obtain ⟨t6', X'⟩ := lexAt_of T
        exact go (x' := .B) (l' := []) h i ⟨_, _, _, _, _, _, _, _, _, _, _, X', rfl, hd', hkl⟩ T.keep rfl (by simp only [List.length_nil]; omega)
      · refine stepS3R OL G hA (by first | trivial | simp) X hch (fn := 0) (f4 := 0) (c0 := 0) (rest := []) (l := []) (nc := ⟨#[]⟩) fun h i tau1 tau2 tkc T => ?_
        rw [frame4q_eq] at T
        obtain ⟨t6', X'⟩ := lexAt_of T
        exact go (x' := .S) (l' := []) h i ⟨_, _, _, _, _, _, _, _, _, _, _, X', rfl, hd', hkl⟩ T.keep rfl (by simp only [List.length_nil]; omega)
      · refine stepS3L OL G hA (by first | trivial | simp) X hch (fn := 0) (f4 := 0) (c0 := 0) (rest := []) (l := []) (nc := ⟨#[]⟩) fun h i tau1 tau2 tkc T => ?_
        rw [frame4q_eq] at T
        obtain ⟨t6', X'⟩ := lexAt_of T
        exact go (x' := .S) (l' := []) h i ⟨_, _, _, _, _, _, _, _, _, _, _, X', rfl, hd', hkl⟩ T.keep rfl (by simp only [List.length_nil]; omega)
      · refine stepS3D OL G hA (by first | trivial | simp) X hch (fn := 0) (f4 := 0) (c0 := 0) (rest := []) (l := []) (nc := ⟨#[]⟩) fun h i tau1 tau2 tkc T => ?_
        rw [frame4q_eq] at T
        obtain ⟨t6', X'⟩ := lexAt_of T
        exact go (x' := .A) (l' := [46]) h i ⟨_, _, _, _, _, _, _, _, _, _, _, X', (by intro q; cases q), hd', hkl⟩ T.keep rfl (by simp only [List.length_cons, List.length_nil]; omega)
      · refine stepS3a OL G hA (by first | trivial | simp) X hch (fn := 0) (f4 := 0) (c0 := 0) (rest := []) (l := []) (nc := ⟨#[]⟩) fun h i tau1 tau2 tkc T => ?_
        rw [frame4q_eq] at T
        obtain ⟨t6', X'⟩ := lexAt_of T
        exact go (x' := .A) (l' := [97]) h i ⟨_, _, _, _, _, _, _, _, _, _, _, X', (by intro q; cases q), hd', hkl⟩ T.keep rfl (by simp only [List.length_cons, List.length_nil]; omega)
      · refine stepS3W OL G hA (by first | trivial | simp) X hch (fn := 0) (f4 := 0) (c0 := 0) (rest := []) (l := []) (nc := ⟨#[]⟩) fun h i tau1 tau2 tkc T => ?_
        rw [frame4q_eq] at T
        obtain ⟨t6', X'⟩ := lexAt_of T
        exact go (x' := .S) (l' := []) h i ⟨_, _, _, _, _, _, _, _, _, _, _, X', rfl, hd', hkl⟩ T.keep rfl (by simp only [List.length_nil]; omega)
end
end
section
noncomputable def advN1 : List Nat := [1451, 13, 13, 2, 13, 1, 1454, 1454, 1452, 1, 1454, 1454, 1452, 1, 1454, 1454, 1452, 1376, 1, 3, 1376, 1379, 15, 15, 2, 15, 1, 1454, 1454, 1452, 0, 1, 1454, 1454, 1452, 1, 1, 1454, 3, 5, 5, 0, 5, 0, 5, 0, 5, 15, 1, 1454, 1454, 1452, 1, 1454, 1454, 1452, 1, 1454, 1454, 1452, 1390, 1, 3, 1390, 1393, 17, 17, 2, 17, 17, 17, 17, 1]
noncomputable def advN2 : List Nat := [13, 1, 1454, 1454, 1452, 0, 1, 1454, 1454, 1452, 1, 1, 1454, 3, 13, 13, 13, 1, 1454, 1454, 1452, 0, 1, 1454, 0, 1, 1454, 1, 1454, 1454, 1452, 1, 1454, 3, 3, 3, 13, 1, 1454, 1454, 1452, 0, 1, 1454, 1454, 1452, 1, 1, 1454, 3, 13, 13, 4, 13, 1, 1454, 1454, 1452, 0, 1, 1454, 1454, 1452, 1, 1, 1454, 3, 0, 0, 13, 11, 11, 11, 1, 1454, 1454, 1452, 0, 1, 1454, 1454, 1452, 1, 1, 1454, 3, 2, 11, 11, 1, 1454, 1454, 1452, 0, 1, 1454, 1454, 1452, 1, 1, 1454, 3, 0, 0, 0, 0, 11, 1, 1454, 1454, 1452, 0, 1, 1454, 1454, 1452, 1, 1, 1454, 3, 0, 0, 11, 9, 9, 9, 9, 1, 1454, 1454, 1452, 0, 1, 1454, 1454, 1452, 1, 1, 1454, 3, 0, 0, 0, 0, 9]
noncomputable def advN3 : List Nat := [13, 1, 1454, 1454, 1452, 0, 1, 1454, 1454, 1452, 1, 1, 1454, 3, 13, 13, 13, 1, 1454, 1454, 1452, 0, 1, 1454, 0, 1, 1454, 1, 1454, 1454, 1452, 1, 1454, 3, 3, 3, 13, 1, 1454, 1454, 1452, 0, 1, 1454, 1454, 1452, 1, 1, 1454, 3, 13, 13, 0, 0, 13, 13, 13, 1, 1454, 1454, 1452, 0, 1, 1454, 1454, 1452, 1, 1, 1454, 3, 0, 0, 13, 11, 11, 11, 1, 1454, 1454, 1452, 0, 1, 1454, 1454, 1452, 1, 1, 1454, 3, 2, 11, 11, 1, 1454, 1454, 1452, 0, 1, 1454, 1454, 1452, 1, 1, 1454, 3, 0, 0, 11, 1, 1454, 1454, 1452, 0, 1, 1454, 1454, 1452, 1, 1, 1454, 3, 7, 7, 0, 7, 0, 7, 0, 7, 11, 1, 1454, 1454, 1452, 0, 1, 1454, 1454, 1452, 1, 1, 1454, 3, 9, 9, 9, 9, 1, 1454, 1454, 1452, 0, 1, 1454, 1454, 1452, 1, 1, 1454, 3, 0, 0, 6, 0, 0, 0, 0, 0, 17, 17, 0, 17, 17, 0, 0, 17, 17, 17, 17, 17, 17, 17, 17, 17, 17, 0, 0, 0, 17]
noncomputable abbrev dq : Obj := { cls := .type "collections.deque", data := .fields #[.none, .int 0 0] }
noncomputable abbrev NX (lx : Addr) : Code := .call (.ref 724) ⟨[.ref lx], []⟩
noncomputable abbrev frame1q (P : Params) (t : Nat) (lx : Addr) : Obj := { cls := .type "frame", data := .dict #[entQ P "self" t (.ref lx)] 1 }
noncomputable abbrev frame3q (P : Params) (a b c : Nat) (lx : Addr) (es : Str) (fe : Nat) : Obj := { cls := .type "frame", data := .dict #[entQ P "self" a (.ref lx), entQ P "quoted" b (.bool false), entQ P "escapedstate" c (.str es fe)] 3 }
noncomputable abbrev ownN (P : Params) (L : LX) (st : Value) (ln : Int) (tl tt k t6 : Nat) : List (Addr × Obj) :=
  [(L.lx, instObj 727 L.d), (L.d, lexD P L st ln tl ⟨⟨[]⟩⟩ tt), (L.pb, dq), (L.fs, dq), (L.io, instObj 592 L.di), (L.di, ioDL P L k t6)]
noncomputable abbrev runN1 (P : Params) (b c : Bool) (rho tau : Nat → Nat) (stk : Stk) (h0 : Option Value) (L : LX) (st : Value) (ln : Int) (tl tt k t6 : Nat) : Out :=
  entered (cfg (fP P b c) rho tau h0 []) stk advN1 (NX L.lx) (ownN P L st ln tl tt k t6)
noncomputable abbrev spN2 (tau2 : Nat → Nat) (tt' c0 : Nat) (rest : List Nat) : List Sp := [⟨bi "str.__eq__" [.str ⟨⟨c0 :: rest⟩⟩ tt', .str ⟨#[]⟩ (tau2 6)], [], .bool false, 7, 0⟩]
/-- the lexer with the frame of one call of read_token -/
noncomputable abbrev LX.call (L : LX) (F a b c : Nat) : LX := { L with F := F, tk := fun j => match j with | 60 => a | 61 => b | 62 => c | j => L.tk j }
noncomputable abbrev runN2 (P : Params) (b c : Bool) (rho1 tau1 rho2 tau2 : Nat → Nat) (stk1 stk2 : Stk) (h0 : Option Value) (L : LX) (st st' : Value) (ln ln' : Int) (tl tt tl' tt' k t6 f4 fe fn c0 : Nat) (rest : List Nat) (es nc : Str) : Out :=
  res (runN1 P b c rho1 tau1 stk1 h0 L st ln tl tt k t6) (.ok .next) (cfg (fP P b c) rho2 tau2 h0 (spN2 tau2 tt' c0 rest)) stk2 advN2
    [(L.lx, instObj 727 L.d), (L.d, lexD P L st' ln' tl' ⟨⟨c0 :: rest⟩⟩ tt'), (L.pb, dq), (L.fs, dq), (rho1 0, frame1q P (tau1 0) L.lx), (rho1 1, frame1q P (tau1 1) L.lx), (rho1 2, frame4 P (L.call (rho1 2) (tau1 5) (tau1 6) (tau1 8)) f4 es fe nc fn)]
noncomputable abbrev runN3 (P : Params) (b c : Bool) (rho1 tau1 rho2 tau2 : Nat → Nat) (stk1 stk2 : Stk) (h0 : Option Value) (L : LX) (st st' : Value) (ln ln' : Int) (tl tt tl' tt' k t6 f4 fe fn : Nat) (es nc : Str) : Out :=
  res (runN1 P b c rho1 tau1 stk1 h0 L st ln tl tt k t6) (.ok .next) (cfg (fP P b c) rho2 tau2 h0 []) stk2 advN3
    [(L.lx, instObj 727 L.d), (L.d, lexD P L st' ln' tl' ⟨⟨[]⟩⟩ tt'), (L.pb, dq), (L.fs, dq), (rho1 0, frame1q P (tau1 0) L.lx), (rho1 1, frame1q P (tau1 1) L.lx), (rho1 2, frame4 P (L.call (rho1 2) (tau1 5) (tau1 6) (tau1 8)) f4 es fe nc fn)]
theorem runN1_is (P : Params) (b c : Bool) (rho tau : Nat → Nat) (stk : Stk) (h0 : Option Value) (L : LX) (st : Value) (ln : Int) (tl tt k t6 : Nat) :
    let o := runN1 P b c rho tau stk h0 L st ln tl tt k t6
    (chkL o, cutR [0, 1, 2, 3, 4, 5, 6, 7, 8] o) = (chkR o, some (WL (fP P b c) (rho 2), ownN P L st ln tl tt k t6 ++ [(rho 0, frame1q P (tau 0) L.lx), (rho 1, frame1q P (tau 1) L.lx), (rho 2, frame3q P (tau 5) (tau 6) (tau 8) L.lx ⟨#[32]⟩ (tau 7))])) := by
  cases b <;> kernel_rfl
theorem runN2_is (P : Params) (b c : Bool) (rho1 tau1 rho2 tau2 : Nat → Nat) (stk1 stk2 : Stk) (h0 : Option Value) (L : LX) (st st' : Value) (ln ln' : Int) (tl tt tl' tt' k t6 f4 fe fn c0 : Nat) (rest : List Nat) (es nc : Str) :
    let o := runN2 P b c rho1 tau1 rho2 tau2 stk1 stk2 h0 L st st' ln ln' tl tt tl' tt' k t6 f4 fe fn c0 rest es nc
    (chkL o, retV [0, 1, 2, 3] o) = (chkR o, some (.ok (.ret (.str ⟨⟨c0 :: rest⟩⟩ tt')), [(L.lx, instObj 727 L.d), (L.d, lexD P L st' ln' tl' ⟨⟨[]⟩⟩ (tau2 2)), (L.pb, dq), (L.fs, dq)])) := by
  cases b <;> kernel_rfl
end
section
section
variable {V : Cfg} {w : World} {A : Around} {R : Result → Shared → Prop} {g : Array GenState} {d : Drawn} {os : OsState} {t₀ : Nat} {ini : List Addr} {h₀ : Heap} {o : Out}
/-- a run that is cut at a call which trees await: the call by a contract, then the run goes on -/
theorem fine_call {js : List Nat} {c' : Code} {l : List (Addr × Obj)} (e : (chkL o, cutR js o) = (chkR o, some (c', l)))
    (hnext : ∀ A' R' h i, A'.depth ≤ A.depth + 40 → A'.handled = A.handled → (∀ p ∈ l, h.get? p.1 = some p.2) → (∀ b o, h₀.get? b = some o → b ∉ ini → h.get? b = some o) →
      (∀ r h2 i2 V2 own2 ini2 adv2, V2.prog = V.prog → V2.Ok w A i2 ini2 h2 → Hp ini2 h2 h2 own2 0 → (∀ stk2, Fine V2 w A R g d os i2 ini2 h2 (res o r V2 stk2 adv2 own2)) → R' r ⟨h2, g, d, i2, os⟩) →
      codeAny (model V.prog w) A' c' R' ⟨h, g, d, i, os⟩) : Fine V w A R g d os t₀ ini h₀ o := by
  refine ⟨chk_of (congrArg Prod.fst e), ?_⟩
  obtain ⟨own', m, i, c₁, hd', k, md, κ', hk, hw1, hw2, hp⟩ := cutR_of (congrArg Prod.snd e)
  unfold Good
  rw [hk]
  intro h D'
  refine hnext _ _ h _ ?_ ?_ (fun p hp' => D'.has p (picks_mem hp p hp')) D'.keep ?_
  · have := ar_depth A (.ret c₁ hd' k md κ')
    omega
  · rw [ar_hand]; exact khand_none hw1
  · intro r h2 i2 V2 own2 ini2 adv2 hpr O2 D2 F2
    show runS V.prog w (ar A κ') (endS V.prog w A R κ') c₁ md (k r) ⟨h2, g, d, i2, os⟩
    have F3 : ∀ stk2, Fine V2 w A R g d os i2 ini2 h2 (ssim V2 stk2 100000 adv2 c₁ md κ' (k r) own2 0 0 0 [] [] []) := fun stk2 => by
      have := F2 stk2
      unfold res at this
      rw [hk] at this
      exact this
    have z := ssim_sound O2 100000 adv2 c₁ md κ' (k r) own2 0 0 0 [] [] [] h2 (fun _ => (default, [])) (fun stk2 _ => F3 stk2) D2
    rw [hpr] at z
    exact z
/-- a code's run, by what its end is -/
theorem run_fine (O : V.Ok w A t₀ ini h₀) {own : List (Addr × Obj)} (D : Hp ini h₀ h₀ own 0) {adv : List Nat} {c : Code} (F : ∀ stk, Fine V w A R g d os t₀ ini h₀ (entered V stk adv c own)) :
    codeAny (model V.prog w) A c R ⟨h₀, g, d, t₀, os⟩ := by
  refine enter_sound (κ := .base) (A₀ := A) (R₀ := R) (x := adv.headD 0) (adv := adv.tail) (ca := []) (cp := []) (cc := []) (fx := fun _ => (default, [])) (s := 0) (i := 0) O (ssim_sound O 100000) (fun stk => ssim_mono V stk 100000) D (fun stk _ => ?_)
  have e := F stk
  unfold entered at e
  exact e
end
/-- the lexer between two words -/
structure LexB (w : World) (L : LX) (eof : Bool) (rem : List Nat) (h : Heap) : Prop where
  lx : h.get? L.lx = some (instObj 727 L.d)
  d : ∃ ts ln tl tt, h.get? L.d = some (lexD w.params L (if eof then .none else .str ⟨#[32]⟩ ts) ln tl ⟨⟨[]⟩⟩ tt)
  pb : h.get? L.pb = some dq
  fs : h.get? L.fs = some dq
  io : h.get? L.io = some (instObj 592 L.di)
  di : ∃ k t6, h.get? L.di = some (ioDL w.params L k t6) ∧ L.buf.cps.toList.drop k = rem ∧ k ≤ L.buf.length
structure LX.OkB (L : LX) : Prop where
  apart : [L.lx, L.d, L.pb, L.fs, L.io, L.di].Nodup
  high : ∀ a ∈ [L.lx, L.d, L.pb, L.fs, L.io, L.di], 781 ≤ a
  len : L.buf.length < 1000
noncomputable def KeptB (L : LX) (h h' : Heap) : Prop := ∀ b o, h.get? b = some o → b ≠ L.d → b ≠ L.di → h'.get? b = some o
end
section
section
variable {prog : Program} {w : World} {A : Around} {s : Shared}
theorem ans_streq (x y : Str) (t u : Tok) (b : Bool) (hb : (x.cps.toList == y.cps.toList) = b) : Ans prog w A s (bi "str.__eq__" [.str x t, .str y u]) (.bool b) 0 := by
  subst hb
  exact ans_gives F.slot_str_eq (typeIs_str s x t) F.entry_str_eq (F.args_str_eq_2 _ _) (gives_str_eq x y t u) fun R hR => hR
end
theorem lexD_call (P : Params) (L : LX) (F a b c : Nat) (st : Value) (ln : Int) (tl : Nat) (tok : Str) (tt : Nat) : lexD P (L.call F a b c) st ln tl tok tt = lexD P L st ln tl tok tt := rfl
theorem ioDL_call (P : Params) (L : LX) (F a b c : Nat) (k t6 : Nat) : ioDL P (L.call F a b c) k t6 = ioDL P L k t6 := rfl
theorem frame3_call (P : Params) (L : LX) (F a b c : Nat) (es : Str) (fe : Nat) : frame3q P a b c L.lx es fe = frame3 P (L.call F a b c) es fe := by
  unfold frame3q
  rw [entQ_eq P "self" _ _ (by decide +kernel), entQ_eq P "quoted" _ _ (by decide +kernel), entQ_eq P "escapedstate" _ _ (by decide +kernel)]
  rfl
theorem npl (n i j : Nat) (h : i ≠ j) : n + i ≠ n + j := fun e => h (Nat.add_left_cancel e)
theorem nlt {a n : Nat} (k : Nat) (h : a < n) : a ≠ n + k := Nat.ne_of_lt (Nat.lt_of_lt_of_le h (Nat.le_add_right ..))
section
variable {w : World} {A : Around} {R : Result → Shared → Prop} {L : LX}
theorem next_word (OB : L.OkB) (hA : A.depth + 180 ≤ recursionLimit) {eof : Bool} {rem : List Nat} {s : Shared} (G : Gr w s.heap) (B : LexB w L eof rem s.heap) (he : eof = true → rem = []) (hs : ∀ c ∈ rem, isSign c) (hl : rem.length < 1700)
    {eof' : Bool} {c0 : Nat} {rest r' : List Nat} (htok : tokF eof rem = some (eof', c0 :: rest, r'))
    (hR : ∀ h i tt, LexB w L eof' r' h → KeptB L s.heap h → R (.ok (.ret (.str ⟨⟨c0 :: rest⟩⟩ tt))) ⟨h, s.gens, s.drawn, i, s.os⟩) :
    codeAny (model theProg w) A (NX L.lx) R s := by
  obtain ⟨h₀, g, dr, t₀, os⟩ := s
  obtain ⟨B1, ⟨ts, ln, tl, tt, B2⟩, B3, B4, B5, ⟨k, t6, B6, hd, hk⟩⟩ := B
  have hb := fP_self w.params
  generalize w.params.followText "special-get-raises" = b at hb
  generalize w.params.followText "comprehension-iter-twice" = c at hb
  have O1 := mkOk (A := A) (t₀ := t₀) (sps := []) (ini := [L.lx, L.d, L.pb, L.fs, L.io, L.di]) G hb OB.high (by omega) (fun sp hm => nomatch hm)
  have hown : ∀ p ∈ ownN w.params L (if eof then .none else .str ⟨#[32]⟩ ts) ln tl tt k t6, h₀.get? p.1 = some p.2 := by
    intro p hp
    replace hp := memL hp
    rcases hp with rfl | rfl | rfl | rfl | rfl | rfl <;> assumption
  have hlt : ∀ a ∈ [L.lx, L.d, L.pb, L.fs, L.io, L.di], a < h₀.objs.size := by
    intro a ha
    replace ha := memL ha
    rcases ha with rfl | rfl | rfl | rfl | rfl | rfl
    · exact Heap.lt_size B1
    · exact Heap.lt_size B2
    · exact Heap.lt_size B3
    · exact Heap.lt_size B4
    · exact Heap.lt_size B5
    · exact Heap.lt_size B6
  have D1 : Hp [L.lx, L.d, L.pb, L.fs, L.io, L.di] h₀ h₀ (ownN w.params L (if eof then .none else .str ⟨#[32]⟩ ts) ln tl tt k t6) 0 := mkHp (own := ownN w.params L (if eof then .none else .str ⟨#[32]⟩ ts) ln tl tt k t6) hown OB.apart
  refine run_fine O1 D1 (adv := advN1) fun stk => fine_call (runN1_is w.params b c _ _ stk _ L _ ln tl tt k t6) fun A' R' h i hdep hh hl1 hk1 hcont => ?_
  have m0 := h₀.objs.size
  have f1 : h.get? L.lx = some (instObj 727 L.d) := hl1 (L.lx, instObj 727 L.d) (by first | trivial | simp)
  have f2 : h.get? L.d = some (lexD w.params L (if eof then .none else .str ⟨#[32]⟩ ts) ln tl ⟨⟨[]⟩⟩ tt) := hl1 (L.d, _) (by first | trivial | simp)
  have f3 : h.get? L.pb = some dq := hl1 (L.pb, dq) (by first | trivial | simp)
  have f4 : h.get? L.fs = some dq := hl1 (L.fs, dq) (by first | trivial | simp)
  have f5 : h.get? L.io = some (instObj 592 L.di) := hl1 (L.io, instObj 592 L.di) (by first | trivial | simp)
  have f6 : h.get? L.di = some (ioDL w.params L k t6) := hl1 (L.di, ioDL w.params L k t6) (by first | trivial | simp)
  have f7 : h.get? (h₀.objs.size + 0) = some (frame1q w.params (t₀ + 0) L.lx) := hl1 (h₀.objs.size + 0, frame1q w.params (t₀ + 0) L.lx) (by first | trivial | simp)
  have f8 : h.get? (h₀.objs.size + 1) = some (frame1q w.params (t₀ + 1) L.lx) := hl1 (h₀.objs.size + 1, frame1q w.params (t₀ + 1) L.lx) (by first | trivial | simp)
  have f9 : h.get? (h₀.objs.size + 2) = some (frame3q w.params (t₀ + 5) (t₀ + 6) (t₀ + 8) L.lx ⟨#[32]⟩ (t₀ + 7)) := hl1 (h₀.objs.size + 2, frame3q w.params (t₀ + 5) (t₀ + 6) (t₀ + 8) L.lx ⟨#[32]⟩ (t₀ + 7)) (by first | trivial | simp)
  have G1 : Gr w h := G.keeps fun b o hlt e => hk1 b o e fun hm => absurd hlt (Nat.not_lt.mpr (OB.high b hm))
  rw [frame3_call w.params L (h₀.objs.size + 2)] at f9
  have eW : WL (fP w.params b c) (h₀.objs.size + 2) = WL w.params (L.call (h₀.objs.size + 2) (t₀ + 5) (t₀ + 6) (t₀ + 8)).F := by rw [hb]
  have ap := OB.apart
  replace ap := ndL' ap
  obtain ⟨⟨a1, a2, a3, a4, a5⟩, ⟨b1, b2, b3, b4⟩, ⟨c1, c2, c3⟩, ⟨d1, d2⟩, e1⟩ := ap
  have l1 := hlt L.lx (by first | trivial | simp)
  have l2 := hlt L.d (by first | trivial | simp)
  have l3 := hlt L.pb (by first | trivial | simp)
  have l4 := hlt L.fs (by first | trivial | simp)
  have l5 := hlt L.io (by first | trivial | simp)
  have l6 := hlt L.di (by first | trivial | simp)
  have hm781 : 781 ≤ L.lx := OB.high L.lx (by first | trivial | simp)
  have hi781 : ∀ j, 781 ≤ h₀.objs.size + j := fun j => Nat.le_trans hm781 (Nat.le_of_lt (Nat.lt_of_lt_of_le l1 (Nat.le_add_right ..)))
  have n1 : L.lx ≠ h₀.objs.size + 2 := nlt 2 l1
  have n2 : L.d ≠ h₀.objs.size + 2 := nlt 2 l2
  have n3 : L.io ≠ h₀.objs.size + 2 := nlt 2 l5
  have n4 : L.di ≠ h₀.objs.size + 2 := nlt 2 l6
  have OL : (L.call (h₀.objs.size + 2) (t₀ + 5) (t₀ + 6) (t₀ + 8)).Ok := by
    refine ⟨?_, ?_, OB.len⟩
    · refine ndL ?_
      exact ⟨⟨a1, a4, a5, n1⟩, ⟨b3, b4, n2⟩, ⟨e1, n3⟩, n4⟩
    · intro a ha
      replace ha := memL ha
      rcases ha with rfl | rfl | rfl | rfl | rfl
      · exact hm781
      · exact OB.high L.d (by first | trivial | simp)
      · exact OB.high L.io (by first | trivial | simp)
      · exact OB.high L.di (by first | trivial | simp)
      · exact hi781 2
  show codeAny (model theProg w) A' (WL (fP w.params b c) (h₀.objs.size + 2)) R' ⟨h, g, dr, i, os⟩
  rw [eW]
  refine loop3 OL (by omega) eof rem ⟨h, g, dr, i, os⟩ G1 ⟨ts, ln, tl, tt, k, t6, _, _, ⟨f1, f2, f5, f6, f9⟩, hd, hk⟩ he hs hl (fun eof2 l2 r2 e h2 i2 O4 K => ?_) (fun e => by rw [htok] at e; cases e)
  rw [htok] at e
  cases e
  obtain ⟨ts', ln', tl', tt', k', t6', f4', es', fe', nc', fn', X, hd', hk'⟩ := O4
  have G2 : Gr w h2 := K.gr OL G1
  have kp : ∀ a o, a ≠ L.d → a ≠ L.di → a ≠ h₀.objs.size + 2 → h.get? a = some o → h2.get? a = some o := fun a o q1 q2 q3 e => K a o e q1 q2 q3
  have O2 := mkOk (A := A) (t₀ := i2) (sps := spN2 (fun i => i2 + i) tt' c0 rest) (ini := [L.lx, L.d, L.pb, L.fs, h₀.objs.size + 0, h₀.objs.size + 1, h₀.objs.size + 2]) G2 hb (by
    intro a ha
    replace ha := memL ha
    rcases ha with rfl | rfl | rfl | rfl | rfl | rfl | rfl
    · exact hm781
    · exact OB.high L.d (by first | trivial | simp)
    · exact OB.high L.pb (by first | trivial | simp)
    · exact OB.high L.fs (by first | trivial | simp)
    · exact hi781 0
    · exact hi781 1
    · exact hi781 2) (by omega) (by
    intro sp hm
    replace hm := memL hm
    subst hm
    intro A2 s2 hn ht
    exact ans_streq _ _ _ _ _ rfl)
  have D2 := mkHp (h := h2) (own := [(L.lx, instObj 727 L.d), (L.d, lexD w.params L (if eof' then .none else .str ⟨#[32]⟩ ts') ln' tl' ⟨⟨c0 :: rest⟩⟩ tt'), (L.pb, dq), (L.fs, dq), (h₀.objs.size + 0, frame1q w.params (t₀ + 0) L.lx), (h₀.objs.size + 1, frame1q w.params (t₀ + 1) L.lx), (h₀.objs.size + 2, frame4 w.params (L.call (h₀.objs.size + 2) (t₀ + 5) (t₀ + 6) (t₀ + 8)) f4' es' fe' nc' fn')]) (by
    intro p hp
    replace hp := memL hp
    rcases hp with rfl | rfl | rfl | rfl | rfl | rfl | rfl
    · exact X.lx
    · exact X.d
    · exact kp _ _ (fun q => b1 q.symm) c3 (nlt 2 l3) f3
    · exact kp _ _ (fun q => b2 q.symm) d2 (nlt 2 l4) f4
    · exact kp _ _ (fun q => nlt 0 l2 q.symm) (fun q => nlt 0 l6 q.symm) (npl _ 0 2 (by decide)) f7
    · exact kp _ _ (fun q => nlt 1 l2 q.symm) (fun q => nlt 1 l6 q.symm) (npl _ 1 2 (by decide)) f8
    · exact X.F) (by
    refine ndM ?_
    refine ⟨⟨a1, a2, a3, nlt 0 l1, nlt 1 l1, nlt 2 l1⟩, ⟨b1, b2, nlt 0 l2, nlt 1 l2, nlt 2 l2⟩, ⟨c1, nlt 0 l3, nlt 1 l3, nlt 2 l3⟩, ⟨nlt 0 l4, nlt 1 l4, nlt 2 l4⟩, ⟨npl _ 0 1 (by decide), npl _ 0 2 (by decide)⟩, npl _ 1 2 (by decide)⟩)
  refine hcont (.ok .next) h2 i2 (cfgH w b c h2 i2 A.handled (spN2 (fun i => i2 + i) tt' c0 rest)) _ _ advN2 rfl O2 D2 fun stk2 => ?_
  refine fine_ret (runN2_is w.params b c (fun m => h₀.objs.size + m) (fun i => t₀ + i) _ _ stk stk2 _ L _ _ ln ln' tl tt tl' tt' k t6 f4' fe' fn' c0 rest es' nc') fun h3 i3 hl3 hk3 => ?_
  refine hR h3 i3 tt' ⟨hl3 (L.lx, instObj 727 L.d) (by first | trivial | simp), ⟨ts', ln', tl', _, hl3 (L.d, _) (by simp; rfl)⟩, hl3 (L.pb, dq) (by first | trivial | simp), hl3 (L.fs, dq) (by first | trivial | simp), ?_, ?_⟩ ?_
  · exact hk3 _ _ X.io (by refine nmL ?_; exact ⟨fun q => a4 q.symm, fun q => b3 q.symm, fun q => c2 q.symm, fun q => d1 q.symm, nlt 0 l5, nlt 1 l5, nlt 2 l5⟩)
  · exact ⟨k', t6', hk3 _ _ X.di (by refine nmL ?_; exact ⟨fun q => a5 q.symm, fun q => b4 q.symm, fun q => c3 q.symm, fun q => d2 q.symm, nlt 0 l6, nlt 1 l6, nlt 2 l6⟩), hd', hk'⟩
  · intro x o e q1 q2
    have hxlt : x < h₀.objs.size := Heap.lt_size e
    by_cases x1 : x = L.lx
    · subst x1
      have : o = instObj 727 L.d := Option.some.inj (e.symm.trans B1)
      rw [this]; exact hl3 (L.lx, instObj 727 L.d) (by first | trivial | simp)
    · by_cases x2 : x = L.pb
      · subst x2
        have : o = dq := Option.some.inj (e.symm.trans B3)
        rw [this]; exact hl3 (L.pb, dq) (by first | trivial | simp)
      · by_cases x3 : x = L.fs
        · subst x3
          have : o = dq := Option.some.inj (e.symm.trans B4)
          rw [this]; exact hl3 (L.fs, dq) (by first | trivial | simp)
        · by_cases x4 : x = L.io
          · subst x4
            have : o = instObj 592 L.di := Option.some.inj (e.symm.trans B5)
            rw [this]
            exact hk3 _ _ X.io (by refine nmL ?_; exact ⟨fun q => a4 q.symm, fun q => b3 q.symm, fun q => c2 q.symm, fun q => d1 q.symm, nlt 0 l5, nlt 1 l5, nlt 2 l5⟩)
          · refine hk3 _ _ (kp _ _ q1 q2 (nlt 2 hxlt) (hk1 x o e (nmL ⟨x1, q1, x2, x3, x4, q2⟩))) ?_
            refine nmL ?_
            exact ⟨x1, q1, x2, x3, nlt 0 hxlt, nlt 1 hxlt, nlt 2 hxlt⟩
end
end
section
noncomputable def advN3a : List Nat := [13, 1, 1454, 1454, 1452, 0, 1, 1454, 1454, 1452, 1, 1, 1454, 3, 13, 13, 13, 1, 1454, 1454, 1452, 0, 1, 1454, 0, 1, 1454, 1, 1454, 1454, 1452, 1, 1454, 3, 3, 3, 13, 1, 1454, 1454, 1452, 0, 1, 1454, 1454, 1452, 1, 1, 1454, 3, 13, 13, 0, 0, 13, 13, 13, 1, 1454, 1454, 1452, 0, 1, 1454, 1454, 1452, 1, 1, 1454, 3, 0, 0, 13, 11, 11, 11, 1, 1454, 1454, 1452, 0, 1, 1454, 1454, 1452, 1, 1, 1454, 3, 2, 11, 11, 1, 1454, 1454, 1452, 0, 1, 1454, 1454, 1452, 1, 1, 1454, 3, 0, 0, 11, 1, 1454, 1454, 1452, 0, 1, 1454, 1454, 1452, 1, 1, 1454, 3, 7, 7, 0, 7, 0, 7, 0, 7, 11, 1, 1454, 1454, 1452, 0, 1, 1454, 1454, 1452, 1, 1, 1454, 3, 9, 9, 9, 9, 1, 1454, 1454, 1452, 0, 1, 1454, 1454, 1452, 1, 1, 1454, 3, 0, 0, 6, 0, 1]
noncomputable def advN3b : List Nat := [3, 3, 0, 0, 0, 3]
noncomputable abbrev frameNT (P : Params) (t u : Nat) (lx : Addr) : Obj := { cls := .type "frame", data := .dict #[entQ P "self" t (.ref lx), entQ P "token" u .none] 2 }
noncomputable abbrev excO (cls : String) (t : Addr) : Obj := { cls := .type cls, data := .fields #[.ref t, .none, .none, .none, .bool false, .none] }
/-- the env and the code of a def's frame -/
noncomputable def envFn (P : Params) (f F : Addr) : Env := match (ktb P).get f with
  | some o => match o.data with
    | .func fd => { scope := fd.scope, locals := F, globals := fd.globals, cells := [], qual := fd.qualname ++ ".<locals>.", func := some f, code := fd.code, frame := some F, builtins := fd.builtins }
    | _ => default
  | none => default
noncomputable def bodyFn (P : Params) (f : Addr) : List Stmt := match (ktb P).get f with
  | some o => match o.data with
    | .func fd => match fd.body with
      | .stmts b => b
      | _ => []
    | _ => []
  | none => []
noncomputable def errG (js : List Nat) (o : Out) : Option (Value × Code × (Value → Sem Unit) × List (Addr × Obj)) := match o.kind with
  | .err e c h .base own _ _ => (picks own js).map fun l => (e, c, h, l)
  | _ => none
noncomputable abbrev runN3a (P : Params) (b c : Bool) (rho1 tau1 rho2 tau2 : Nat → Nat) (stk1 stk2 : Stk) (h0 : Option Value) (L : LX) (st st' : Value) (ln ln' : Int) (tl tt tl' tt' k t6 f4 fe fn : Nat) (es nc : Str) : Out :=
  res (runN1 P b c rho1 tau1 stk1 h0 L st ln tl tt k t6) (.ok .next) (cfg (fP P b c) rho2 tau2 h0 []) stk2 advN3a
    [(L.lx, instObj 727 L.d), (L.d, lexD P L st' ln' tl' ⟨⟨[]⟩⟩ tt'), (L.pb, dq), (L.fs, dq), (rho1 0, frame1q P (tau1 0) L.lx), (rho1 1, frame1q P (tau1 1) L.lx), (rho1 2, frame4 P (L.call (rho1 2) (tau1 5) (tau1 6) (tau1 8)) f4 es fe nc fn)]
theorem runN3a_is (P : Params) (b c : Bool) (rho1 tau1 rho2 tau2 : Nat → Nat) (stk1 stk2 : Stk) (h0 : Option Value) (L : LX) (st st' : Value) (ln ln' : Int) (tl tt tl' tt' k t6 f4 fe fn : Nat) (es nc : Str) :
    let o := runN3a P b c rho1 tau1 rho2 tau2 stk1 stk2 h0 L st st' ln ln' tl tt tl' tt' k t6 f4 fe fn es nc
    (chkL o, cutR [0, 1, 2, 3, 4] o) = (chkR o, some (.call (.type "StopIteration") ⟨[], []⟩, [(L.lx, instObj 727 L.d), (L.d, lexD P L st' ln' tl' ⟨⟨[]⟩⟩ (tau2 2)), (L.pb, dq), (L.fs, dq), (rho1 0, frameNT P (tau1 0) (tau2 17) L.lx)])) := by
  cases b <;> kernel_rfl
theorem runN3b_is (P : Params) (b c : Bool) (rho1 tau1 rho2 tau2 rho3 tau3 : Nat → Nat) (stk1 stk2 stk3 : Stk) (h0 : Option Value) (L : LX) (st st' : Value) (ln ln' : Int) (tl tt tl' tt' k t6 f4 fe fn : Nat) (es nc : Str) (e t : Addr) :
    let o := res (runN3a P b c rho1 tau1 rho2 tau2 stk1 stk2 none L st st' ln ln' tl tt tl' tt' k t6 f4 fe fn es nc) (.ok (.ret (.ref e))) (cfg (fP P b c) rho3 tau3 none []) stk3 advN3b [(rho1 0, frameNT P (tau1 0) (tau2 17) L.lx), (e, excO "StopIteration" t)]
    (chkL o, errG [0, 1] o) = (chkR o, some (.ref e, .func (bodyFn (fP P b c) 724) (envFn (fP P b c) 724 (rho1 0)), leaving (envFn (fP P b c) 724 (rho1 0)), [(rho1 0, frameNT P (tau1 0) (tau2 17) L.lx), (e, excO "StopIteration" t)])) := by
  cases b <;> kernel_rfl
end
section
section
variable {prog : Program} {w : World} {A : Around} {R : Result → Shared → Prop} {s : Shared}
theorem stop_made (h : ∀ h' e, Heap.MadeExc s.heap h' e "StopIteration" [] → R (.ok (.ret (.ref e))) { s with heap := h' }) : codeAny (model prog w) A (.call (.type "StopIteration") ⟨[], []⟩) R s := by
  obtain ⟨hp, g, d, tk, os⟩ := s
  refine codeAny_of_tree ?_
  show wpAny _ _ (callAny (.type "StopIteration") ⟨[], []⟩) _ _ _
  simp only [callAny]
  refine wpAny_pure ⟨Code.quiet_builtin _ (by decide +kernel), codeAny_builtin entry_type_call (owsi_type_call owsi_facts fun h' e hm => ?_)⟩
  exact h h' e hm
end
/-- the frames of the callers -/
noncomputable def FunOk (h : Heap) (outer : List Env) : Prop := ∀ env ∈ outer, env.scope.kind ≠ .module ∧ ∃ L o, env.frame = some L ∧ h.get? L = some o ∧ ∀ vs, o.data ≠ .fields vs
noncomputable abbrev framesOf (outer : List Env) : List Addr := outer.filterMap (·.frame)
theorem FunOk.fun {h : Heap} {as : List Addr} : ∀ {outer : List Env}, FunOk h outer → (∀ a ∈ framesOf outer, a ∈ as) → h.FunFrames (hideAll h as) outer
  | [], _, _ => trivial
  | env :: outer, F, ha => by
    obtain ⟨hk, L, o, hf, ho, hd⟩ := F env (List.mem_cons_self ..)
    refine ⟨hk, ⟨L, o, hf, hideAll_none _ (ha L ?_), ho, hd⟩, FunOk.fun (fun e he => F e (List.mem_cons_of_mem _ he)) fun a h1 => ha a ?_⟩
    · show L ∈ List.filterMap _ _
      rw [List.filterMap_cons, hf]
      exact List.mem_cons_self ..
    · show a ∈ List.filterMap _ _
      rw [List.filterMap_cons, hf]
      exact List.mem_cons_of_mem _ h1
/-- all that stood stands, the callers' frames but for their slots -/
structure UpTo (outer : List Env) (but : List Addr) (h h' : Heap) : Prop where
  keep : ∀ b o, h.get? b = some o → b ∉ but → b ∉ framesOf outer → h'.get? b = some o
  slots : ∀ b o, h.get? b = some o → b ∉ but → (∀ vs, o.data ≠ .fields vs) → ∃ sl, h'.get? b = some { o with slots := sl }
end
section
/-- what stands while read_token's loop runs -/
structure BeforeLoop (w : World) (L : LX) (h₀ : Heap) (t₀ : Nat) (h : Heap) : Prop where
  lx : h.get? L.lx = some (instObj 727 L.d)
  pb : h.get? L.pb = some dq
  fs : h.get? L.fs = some dq
  io : h.get? L.io = some (instObj 592 L.di)
  f0 : h.get? (h₀.objs.size + 0) = some (frame1q w.params (t₀ + 0) L.lx)
  f1 : h.get? (h₀.objs.size + 1) = some (frame1q w.params (t₀ + 1) L.lx)
  keep : KeptB L h₀ h
structure AfterLoop (w : World) (L : LX) (h₀ : Heap) (t₀ : Nat) (eof : Bool) (l r : List Nat) (ts : Nat) (ln : Int) (tl tt f4 fe fn : Nat) (es nc : Str) (h : Heap) : Prop where
  bef : BeforeLoop w L h₀ t₀ h
  d : h.get? L.d = some (lexD w.params L (if eof then .none else .str ⟨#[32]⟩ ts) ln tl ⟨⟨l⟩⟩ tt)
  di : ∃ k t6, h.get? L.di = some (ioDL w.params L k t6) ∧ L.buf.cps.toList.drop k = r ∧ k ≤ L.buf.length
  F : h.get? (h₀.objs.size + 2) = some (frame4 w.params (L.call (h₀.objs.size + 2) (t₀ + 5) (t₀ + 6) (t₀ + 8)) f4 es fe nc fn)
section
variable {w : World} {A : Around} {R : Result → Shared → Prop} {L : LX}
theorem next_gen (OB : L.OkB) (hA : A.depth + 180 ≤ recursionLimit) {eof : Bool} {rem : List Nat} {s : Shared} (G : Gr w s.heap) (B : LexB w L eof rem s.heap) (he : eof = true → rem = []) (hs : ∀ c ∈ rem, isSign c) (hl : rem.length < 1700)
    (hgo : ∀ (b c : Bool) (stk : Stk) (ts : Nat) (ln : Int) (tl tt k t6 : Nat) (h2 : Heap) (i2 : Nat) (eof' : Bool) (l' r' : List Nat) (ts' : Nat) (ln' : Int) (tl' tt' f4' fe' fn' : Nat) (es' nc' : Str), fP w.params b c = w.params → tokF eof rem = some (eof', l', r') → Gr w h2 →
      AfterLoop w L s.heap s.toks eof' l' r' ts' ln' tl' tt' f4' fe' fn' es' nc' h2 →
      ∃ V2 own2 ini2 adv2, V2.prog = theProg ∧ V2.Ok w A i2 ini2 h2 ∧ Hp ini2 h2 h2 own2 0 ∧ ∀ stk2, Fine V2 w A R s.gens s.drawn s.os i2 ini2 h2 (res (runN1 w.params b c (fun m => s.heap.objs.size + m) (fun i => s.toks + i) stk A.handled L (if eof then .none else .str ⟨#[32]⟩ ts) ln tl tt k t6) (.ok .next) V2 stk2 adv2 own2))
    (hE : ∀ (b c : Bool) (stk : Stk) (ts : Nat) (ln : Int) (tl tt k t6 : Nat) (A' : Around) (R' : Result → Shared → Prop) (h2 : Heap) (i2 : Nat) (l' : List Nat), fP w.params b c = w.params → tokF eof rem = none → A'.depth ≤ A.depth + 40 → A'.handled = A.handled → Gr w h2 →
      In4 w (L.call (s.heap.objs.size + 2) (s.toks + 5) (s.toks + 6) (s.toks + 8)) .B l' [] h2 → BeforeLoop w L s.heap s.toks h2 →
      (∀ r h3 i3 V2 own2 ini2 adv2, V2.prog = theProg → V2.Ok w A i3 ini2 h3 → Hp ini2 h3 h3 own2 0 → (∀ stk2, Fine V2 w A R s.gens s.drawn s.os i3 ini2 h3 (res (runN1 w.params b c (fun m => s.heap.objs.size + m) (fun i => s.toks + i) stk A.handled L (if eof then .none else .str ⟨#[32]⟩ ts) ln tl tt k t6) r V2 stk2 adv2 own2)) → R' r ⟨h3, s.gens, s.drawn, i3, s.os⟩) →
      codeAny (model theProg w) A' (WL w.params (s.heap.objs.size + 2)) R' ⟨h2, s.gens, s.drawn, i2, s.os⟩) :
    codeAny (model theProg w) A (NX L.lx) R s := by
  obtain ⟨h₀, g, dr, t₀, os⟩ := s
  obtain ⟨B1, ⟨ts, ln, tl, tt, B2⟩, B3, B4, B5, ⟨k, t6, B6, hd, hk⟩⟩ := B
  have hb := fP_self w.params
  generalize w.params.followText "special-get-raises" = b at hb
  generalize w.params.followText "comprehension-iter-twice" = c at hb
  have O1 := mkOk (A := A) (t₀ := t₀) (sps := []) (ini := [L.lx, L.d, L.pb, L.fs, L.io, L.di]) G hb OB.high (by omega) (fun sp hm => nomatch hm)
  have hown : ∀ p ∈ ownN w.params L (if eof then .none else .str ⟨#[32]⟩ ts) ln tl tt k t6, h₀.get? p.1 = some p.2 := by
    intro p hp
    replace hp := memL hp
    rcases hp with rfl | rfl | rfl | rfl | rfl | rfl <;> assumption
  have hlt : ∀ a ∈ [L.lx, L.d, L.pb, L.fs, L.io, L.di], a < h₀.objs.size := by
    intro a ha
    replace ha := memL ha
    rcases ha with rfl | rfl | rfl | rfl | rfl | rfl
    · exact Heap.lt_size B1
    · exact Heap.lt_size B2
    · exact Heap.lt_size B3
    · exact Heap.lt_size B4
    · exact Heap.lt_size B5
    · exact Heap.lt_size B6
  have D1 : Hp [L.lx, L.d, L.pb, L.fs, L.io, L.di] h₀ h₀ (ownN w.params L (if eof then .none else .str ⟨#[32]⟩ ts) ln tl tt k t6) 0 := mkHp (own := ownN w.params L (if eof then .none else .str ⟨#[32]⟩ ts) ln tl tt k t6) hown OB.apart
  refine run_fine O1 D1 (adv := advN1) fun stk => fine_call (runN1_is w.params b c _ _ stk _ L _ ln tl tt k t6) fun A' R' h i hdep hh hl1 hk1 hcont => ?_
  have m0 := h₀.objs.size
  have f1 : h.get? L.lx = some (instObj 727 L.d) := hl1 (L.lx, instObj 727 L.d) (by first | trivial | simp)
  have f2 : h.get? L.d = some (lexD w.params L (if eof then .none else .str ⟨#[32]⟩ ts) ln tl ⟨⟨[]⟩⟩ tt) := hl1 (L.d, _) (by first | trivial | simp)
  have f3 : h.get? L.pb = some dq := hl1 (L.pb, dq) (by first | trivial | simp)
  have f4 : h.get? L.fs = some dq := hl1 (L.fs, dq) (by first | trivial | simp)
  have f5 : h.get? L.io = some (instObj 592 L.di) := hl1 (L.io, instObj 592 L.di) (by first | trivial | simp)
  have f6 : h.get? L.di = some (ioDL w.params L k t6) := hl1 (L.di, ioDL w.params L k t6) (by first | trivial | simp)
  have f7 : h.get? (h₀.objs.size + 0) = some (frame1q w.params (t₀ + 0) L.lx) := hl1 (h₀.objs.size + 0, frame1q w.params (t₀ + 0) L.lx) (by first | trivial | simp)
  have f8 : h.get? (h₀.objs.size + 1) = some (frame1q w.params (t₀ + 1) L.lx) := hl1 (h₀.objs.size + 1, frame1q w.params (t₀ + 1) L.lx) (by first | trivial | simp)
  have f9 : h.get? (h₀.objs.size + 2) = some (frame3q w.params (t₀ + 5) (t₀ + 6) (t₀ + 8) L.lx ⟨#[32]⟩ (t₀ + 7)) := hl1 (h₀.objs.size + 2, frame3q w.params (t₀ + 5) (t₀ + 6) (t₀ + 8) L.lx ⟨#[32]⟩ (t₀ + 7)) (by first | trivial | simp)
  have G1 : Gr w h := G.keeps fun b o hlt e => hk1 b o e fun hm => absurd hlt (Nat.not_lt.mpr (OB.high b hm))
  rw [frame3_call w.params L (h₀.objs.size + 2)] at f9
  have eW : WL (fP w.params b c) (h₀.objs.size + 2) = WL w.params (L.call (h₀.objs.size + 2) (t₀ + 5) (t₀ + 6) (t₀ + 8)).F := by rw [hb]
  have ap := OB.apart
  replace ap := ndL' ap
  obtain ⟨⟨a1, a2, a3, a4, a5⟩, ⟨b1, b2, b3, b4⟩, ⟨c1, c2, c3⟩, ⟨d1, d2⟩, e1⟩ := ap
  have l1 := hlt L.lx (by first | trivial | simp)
  have l2 := hlt L.d (by first | trivial | simp)
  have l3 := hlt L.pb (by first | trivial | simp)
  have l4 := hlt L.fs (by first | trivial | simp)
  have l5 := hlt L.io (by first | trivial | simp)
  have l6 := hlt L.di (by first | trivial | simp)
  have hm781 : 781 ≤ L.lx := OB.high L.lx (by first | trivial | simp)
  have hi781 : ∀ j, 781 ≤ h₀.objs.size + j := fun j => Nat.le_trans hm781 (Nat.le_of_lt (Nat.lt_of_lt_of_le l1 (Nat.le_add_right ..)))
  have n1 : L.lx ≠ h₀.objs.size + 2 := nlt 2 l1
  have n2 : L.d ≠ h₀.objs.size + 2 := nlt 2 l2
  have n3 : L.io ≠ h₀.objs.size + 2 := nlt 2 l5
  have n4 : L.di ≠ h₀.objs.size + 2 := nlt 2 l6
  have OL : (L.call (h₀.objs.size + 2) (t₀ + 5) (t₀ + 6) (t₀ + 8)).Ok := by
    refine ⟨?_, ?_, OB.len⟩
    · refine ndL ?_
      exact ⟨⟨a1, a4, a5, n1⟩, ⟨b3, b4, n2⟩, ⟨e1, n3⟩, n4⟩
    · intro a ha
      replace ha := memL ha
      rcases ha with rfl | rfl | rfl | rfl | rfl
      · exact hm781
      · exact OB.high L.d (by first | trivial | simp)
      · exact OB.high L.io (by first | trivial | simp)
      · exact OB.high L.di (by first | trivial | simp)
      · exact hi781 2
  have before : ∀ h2, Kept (L.call (h₀.objs.size + 2) (t₀ + 5) (t₀ + 6) (t₀ + 8)) h h2 → BeforeLoop w L h₀ t₀ h2 := fun h2 K => by
    have kp : ∀ a o, a ≠ L.d → a ≠ L.di → a ≠ h₀.objs.size + 2 → h.get? a = some o → h2.get? a = some o := fun a o q1 q2 q3 e => K a o e q1 q2 q3
    have g1 := kp _ _ a1 a5 n1 f1
    have g3 := kp _ _ (fun q => b1 q.symm) c3 (nlt 2 l3) f3
    have g4 := kp _ _ (fun q => b2 q.symm) d2 (nlt 2 l4) f4
    have g5 := kp _ _ (fun q => b3 q.symm) e1 n3 f5
    refine ⟨g1, g3, g4, g5, kp _ _ (fun q => nlt 0 l2 q.symm) (fun q => nlt 0 l6 q.symm) (npl _ 0 2 (by decide)) f7, kp _ _ (fun q => nlt 1 l2 q.symm) (fun q => nlt 1 l6 q.symm) (npl _ 1 2 (by decide)) f8, ?_⟩
    intro x o e q1 q2
    have hxlt : x < h₀.objs.size := Heap.lt_size e
    by_cases x1 : x = L.lx
    · subst x1; rw [Option.some.inj (e.symm.trans B1)]; exact g1
    · by_cases x2 : x = L.pb
      · subst x2; rw [Option.some.inj (e.symm.trans B3)]; exact g3
      · by_cases x3 : x = L.fs
        · subst x3; rw [Option.some.inj (e.symm.trans B4)]; exact g4
        · by_cases x4 : x = L.io
          · subst x4; rw [Option.some.inj (e.symm.trans B5)]; exact g5
          · exact kp _ _ q1 q2 (nlt 2 hxlt) (hk1 x o e (nmL ⟨x1, q1, x2, x3, x4, q2⟩))
  show codeAny (model theProg w) A' (WL (fP w.params b c) (h₀.objs.size + 2)) R' ⟨h, g, dr, i, os⟩
  rw [eW]
  refine loop3 OL (by omega) eof rem ⟨h, g, dr, i, os⟩ G1 ⟨ts, ln, tl, tt, k, t6, _, _, ⟨f1, f2, f5, f6, f9⟩, hd, hk⟩ he hs hl (fun eof' l' r' e h2 i2 O4 K => ?_) (fun e h2 i2 l' G2 I2 K => ?_)
  rotate_left
  · exact hE b c stk ts ln tl tt k t6 A' R' h2 i2 l' hb e hdep hh G2 I2 (before h2 K) hcont
  obtain ⟨ts', ln', tl', tt', k', t6', f4', es', fe', nc', fn', X, hd', hk'⟩ := O4
  obtain ⟨V2, own2, ini2, adv2, hp2, O2, D2, F2⟩ := hgo b c stk ts ln tl tt k t6 h2 i2 eof' l' r' ts' ln' tl' tt' f4' fe' fn' es' nc' hb e (K.gr OL G1) ⟨before h2 K, X.d, ⟨k', t6', X.di, hd', hk'⟩, X.F⟩
  exact hcont (.ok .next) h2 i2 V2 own2 ini2 adv2 hp2 O2 D2 F2
end
end
section
section
variable {V : Cfg} {w : World} {A : Around} {R : Result → Shared → Prop} {g : Array GenState} {d : Drawn} {os : OsState} {t₀ : Nat} {ini : List Addr} {h₀ : Heap} {o : Out}
theorem errG_of {js : List Nat} {o : Out} {e : Value} {c : Code} {hh : Value → Sem Unit} {l : List (Addr × Obj)} (q : errG js o = some (e, c, hh, l)) : ∃ own m i, o.kind = .err e c hh .base own m i ∧ picks own js = some l := by
  unfold errG at q
  split at q
  · rename_i e' c' h' own m i hk
    cases hp : picks own js with
    | none => rw [hp] at q; cases q
    | some l' => rw [hp] at q; cases q; exact ⟨own, m, i, hk, hp⟩
  · cases q
theorem fine_err {js : List Nat} {e : Value} {c : Code} {hh : Value → Sem Unit} {l : List (Addr × Obj)} (q : (chkL o, errG js o) = (chkR o, some (e, c, hh, l)))
    (hR : ∀ h i, (∀ p ∈ l, h.get? p.1 = some p.2) → (∀ b o, h₀.get? b = some o → b ∉ ini → h.get? b = some o) → wpOwn (model V.prog w) A c (hh e) (fun _ s => R (.error e) s) (fun e' s => R (.error e') s) ⟨h, g, d, i, os⟩) : Fine V w A R g d os t₀ ini h₀ o := by
  refine ⟨chk_of (congrArg Prod.fst q), ?_⟩
  obtain ⟨own', m, i, hk, hp⟩ := errG_of (congrArg Prod.snd q)
  unfold Good
  rw [hk]
  intro h D'
  exact hR h _ (fun p hp' => D'.has p (picks_mem hp p hp')) D'.keep
end
theorem mkOk2 {w : World} {A : Around} {h₀ : Heap} {t₀ : Nat} {ini : List Addr} {b c : Bool} {sps : List Sp} (G : Gr w h₀) (hb : fP w.params b c = w.params) (hi : ∀ a ∈ ini, ∀ o, (ktb w.params).get a ≠ some o) (hA : A.depth + 100 ≤ recursionLimit)
    (hs : ∀ sp ∈ sps, SpOk (cfgH w b c h₀ t₀ A.handled sps) w sp) : (cfgH w b c h₀ t₀ A.handled sps).Ok w A t₀ ini h₀ := by
  have z := mkOk (A := A) (t₀ := t₀) (ini := []) G hb (fun _ h => nomatch h) hA hs
  refine ⟨z.par, z.base, fun a o e hm => ?_, z.rho, z.tau, z.hand, z.room, z.noLimit, z.sps, z.sqs⟩
  have e' : (ktb w.params).get a = some o := by rw [← hb]; exact e
  exact hi a hm o e'
theorem kind724 (P : Params) (F : Addr) : (envFn P 724 F).scope.kind = .function := by kernel_rfl
theorem frame724 (P : Params) (F : Addr) : (envFn P 724 F).frame = some F := by kernel_rfl
/-- a new exception leaves the frame in which it was raised -/
theorem leaves_first {prog : Program} {w : World} {A : Around} {R : Result → Shared → Prop} {s : Shared} {outer : List Env} {env : Env} {body : List Stmt} {F e t : Addr} {cls : String} {oF : Obj}
    (hfr : A.frames = some outer) (hfun : FunOk s.heap outer) (hk : env.scope.kind = .function) (hf : env.frame = some F) (hF : s.heap.get? F = some oF) (hoF : ∀ vs, oF.data ≠ .fields vs) (he : s.heap.get? e = some (excO cls t)) (hne : e ∉ framesOf outer) (heF : e ≠ F)
    (hR : ∀ h', UpTo outer [F, e] s.heap h' → h'.TracedW (hideAll s.heap (e :: F :: framesOf outer)) e (.type cls) (.ref t) → R (.error (.ref e)) { s with heap := h' }) :
    wpOwn (model prog w) A (.func body env) (leaving env (.ref e)) (fun _ s' => R (.error (.ref e)) s') (fun e' s' => R (.error e') s') s := by
  refine wpOwn_of_wpAny ?_
  show wpAny _ (A.deeper env) _ _ _ _
  have hkm : env.scope.kind ≠ .module := by rw [hk]; decide
  have hl : s.heap.FunFrames (hideAll s.heap (e :: F :: framesOf outer)) (env :: outer) :=
    ⟨hkm, ⟨F, oF, hf, hideAll_none _ (by first | trivial | simp), hF, hoF⟩, hfun.fun fun a ha => by simp [ha]⟩
  refine wpAny_leaving_firstW (Around.frames_deeper hfr) hl hf he (fun b o q => of_hideAll _ q) (hideAll_none _ (by first | trivial | simp)) rfl rfl rfl fun h' hL => ?_
  obtain ⟨k1, k2, k3, k4⟩ := hL
  refine hR h' ⟨fun b o q q1 q2 => k1 b o (hideAll_get _ q ?_), fun b o q q1 q2 => k4 b o q q2⟩ k3
  simp only [List.mem_cons, List.not_mem_nil, or_false, not_or] at q1 ⊢
  exact ⟨q1.2, q1.1, q2⟩
section
variable {w : World} {A : Around} {R : Result → Shared → Prop} {L : LX}
theorem next_stop (OB : L.OkB) (hA : A.depth + 180 ≤ recursionLimit) {eof : Bool} {rem : List Nat} {s : Shared} (G : Gr w s.heap) (B : LexB w L eof rem s.heap) (he : eof = true → rem = []) (hs : ∀ c ∈ rem, isSign c) (hl : rem.length < 1700)
    (htok : tokF eof rem = some (true, [], [])) (hh0 : A.handled = none) {outer : List Env} (hfr : A.frames = some outer) (hfun : FunOk s.heap outer) (hapart : ∀ a ∈ framesOf outer, a ≠ L.d ∧ a ≠ L.di)
    (hR : ∀ h i e, s.heap.get? e = none → (∃ oe, h.get? e = some oe ∧ oe.cls = .type "StopIteration") → UpTo outer [L.d, L.di] s.heap h → R (.error (.ref e)) ⟨h, s.gens, s.drawn, i, s.os⟩) :
    codeAny (model theProg w) A (NX L.lx) R s := by
  refine next_gen OB hA G B he hs hl (fun b c stk ts ln tl tt k t6 h2 i2 eof' l' r' ts' ln' tl' tt' f4' fe' fn' es' nc' hb e G2 X => ?_) (fun b c stk ts ln tl tt k t6 A' R' h2 i2 l' hb e => by rw [htok] at e; cases e)
  rw [htok] at e
  cases e
  obtain ⟨h₀, g, dr, t₀, os⟩ := s
  obtain ⟨⟨x1, x3, x4, x5, xf0, xf1, xk⟩, x2, ⟨k', t6', x6, hd', hk'⟩, xF⟩ := X
  obtain ⟨B1, ⟨ts0, ln0, tl0, tt0, B2⟩, B3, B4, B5, ⟨k0, t60, B6, hd0, hk0⟩⟩ := B
  have l1 : L.lx < h₀.objs.size := Heap.lt_size B1
  have l2 : L.d < h₀.objs.size := Heap.lt_size B2
  have l3 : L.pb < h₀.objs.size := Heap.lt_size B3
  have l4 : L.fs < h₀.objs.size := Heap.lt_size B4
  have l5 : L.io < h₀.objs.size := Heap.lt_size B5
  have l6 : L.di < h₀.objs.size := Heap.lt_size B6
  have hm781 : 781 ≤ L.lx := OB.high L.lx (by first | trivial | simp)
  have hi781 : ∀ j, 781 ≤ h₀.objs.size + j := fun j => Nat.le_trans hm781 (Nat.le_of_lt (Nat.lt_of_lt_of_le l1 (Nat.le_add_right ..)))
  have ap := OB.apart
  replace ap := ndL' ap
  obtain ⟨⟨a1, a2, a3, a4, a5⟩, ⟨b1, b2, b3, b4⟩, ⟨c1, c2, c3⟩, ⟨d1, d2⟩, e1⟩ := ap
  have O2 := mkOk (A := A) (t₀ := i2) (sps := []) (ini := [L.lx, L.d, L.pb, L.fs, h₀.objs.size + 0, h₀.objs.size + 1, h₀.objs.size + 2]) G2 hb (by
    intro a ha
    replace ha := memL ha
    rcases ha with rfl | rfl | rfl | rfl | rfl | rfl | rfl
    · exact hm781
    · exact OB.high L.d (by first | trivial | simp)
    · exact OB.high L.pb (by first | trivial | simp)
    · exact OB.high L.fs (by first | trivial | simp)
    · exact hi781 0
    · exact hi781 1
    · exact hi781 2) (by omega) (fun sp hm => nomatch hm)
  have D2 := mkHp (h := h2) (own := [(L.lx, instObj 727 L.d), (L.d, lexD w.params L (if true then .none else .str ⟨#[32]⟩ ts') ln' tl' ⟨⟨[]⟩⟩ tt'), (L.pb, dq), (L.fs, dq), (h₀.objs.size + 0, frame1q w.params (t₀ + 0) L.lx), (h₀.objs.size + 1, frame1q w.params (t₀ + 1) L.lx), (h₀.objs.size + 2, frame4 w.params (L.call (h₀.objs.size + 2) (t₀ + 5) (t₀ + 6) (t₀ + 8)) f4' es' fe' nc' fn')]) (by
    intro p hp
    replace hp := memL hp
    rcases hp with rfl | rfl | rfl | rfl | rfl | rfl | rfl
    · exact x1
    · exact x2
    · exact x3
    · exact x4
    · exact xf0
    · exact xf1
    · exact xF) (by
    refine ndM ?_
    refine ⟨⟨a1, a2, a3, nlt 0 l1, nlt 1 l1, nlt 2 l1⟩, ⟨b1, b2, nlt 0 l2, nlt 1 l2, nlt 2 l2⟩, ⟨c1, nlt 0 l3, nlt 1 l3, nlt 2 l3⟩, ⟨nlt 0 l4, nlt 1 l4, nlt 2 l4⟩, ⟨npl _ 0 1 (by decide), npl _ 0 2 (by decide)⟩, npl _ 1 2 (by decide)⟩)
  rw [hh0] at O2
  refine ⟨cfgH w b c h2 i2 none [], _, _, advN3a, rfl, O2, D2, fun stk2 => ?_⟩
  rw [hh0]
  refine fine_call (runN3a_is w.params b c (fun m => h₀.objs.size + m) (fun i => t₀ + i) _ _ stk stk2 none L _ _ ln ln' tl tt tl' tt' k t6 f4' fe' fn' es' nc') fun A' R' h3 i3 hdep hh hl3 hk3 hcont => ?_
  refine stop_made (s := ⟨h3, g, dr, i3, os⟩) fun h4 e M => ?_
  obtain ⟨t, he1, ht, he2⟩ := M.there
  have y1 : h3.get? L.lx = some (instObj 727 L.d) := hl3 (L.lx, instObj 727 L.d) (by first | trivial | simp)
  have y3 : h3.get? L.pb = some dq := hl3 (L.pb, dq) (by first | trivial | simp)
  have y4 : h3.get? L.fs = some dq := hl3 (L.fs, dq) (by first | trivial | simp)
  have y7 : h3.get? (h₀.objs.size + 0) = some (frameNT w.params (t₀ + 0) (i2 + 17) L.lx) := hl3 (h₀.objs.size + 0, frameNT w.params (t₀ + 0) (i2 + 17) L.lx) (by first | trivial | simp)
  have y2 : ∃ o, h3.get? L.d = some o := ⟨_, hl3 _ (List.mem_cons_of_mem _ (List.mem_cons_self ..))⟩
  have y6 : h3.get? L.di = some (ioDL w.params L k' t6') := hk3 _ _ x6 (by refine nmL ?_; exact ⟨fun q => a5 q.symm, fun q => b4 q.symm, fun q => c3 q.symm, fun q => d2 q.symm, nlt 0 l6, nlt 1 l6, nlt 2 l6⟩)
  have K3 : ∀ x o, h₀.get? x = some o → x ≠ L.d → x ≠ L.di → h3.get? x = some o := by
    intro x o e q1 q2
    have hxlt : x < h₀.objs.size := Heap.lt_size e
    by_cases z1 : x = L.lx
    · subst z1; rw [Option.some.inj (e.symm.trans B1)]; exact y1
    · by_cases z2 : x = L.pb
      · subst z2; rw [Option.some.inj (e.symm.trans B3)]; exact y3
      · by_cases z3 : x = L.fs
        · subst z3; rw [Option.some.inj (e.symm.trans B4)]; exact y4
        · exact hk3 _ _ (xk x o e q1 q2) (by refine nmL ?_; exact ⟨z1, q1, z2, z3, nlt 0 hxlt, nlt 1 hxlt, nlt 2 hxlt⟩)
  have fresh3 : h3.get? e = none := M.new
  have enone : h₀.get? e = none := by
    cases q : h₀.get? e with
    | none => rfl
    | some o =>
      by_cases q1 : e = L.d
      · obtain ⟨o', y2⟩ := y2; rw [← q1] at y2; rw [y2] at fresh3; cases fresh3
      · by_cases q2 : e = L.di
        · rw [← q2] at y6; rw [y6] at fresh3; cases fresh3
        · have := K3 e o q q1 q2; rw [this] at fresh3; cases fresh3
  have heF : e ≠ h₀.objs.size + 0 := fun q => by rw [← q] at y7; rw [y7] at fresh3; cases fresh3
  have G4 : Gr w h4 := G.keeps fun b o hlt q => M.keeps b o (K3 b o q (fun z => absurd hlt (Nat.not_lt.mpr (z ▸ OB.high L.d (by first | trivial | simp)))) (fun z => absurd hlt (Nat.not_lt.mpr (z ▸ OB.high L.di (by first | trivial | simp)))))
  have O3 := mkOk2 (A := A) (t₀ := i3) (sps := []) (ini := [h₀.objs.size + 0, e]) G4 hb (by
    intro a ha o ho
    replace ha := memL ha
    rcases ha with rfl | rfl
    · exact absurd (base_lt G.inn ho) (Nat.not_lt.mpr (hi781 0))
    · have q : h₀.get? a = some o := base_in G.inn ho
      rw [q] at enone; cases enone) (by omega) (fun sp hm => nomatch hm)
  rw [hh0] at O3
  have D3 := mkHp (h := h4) (own := [(h₀.objs.size + 0, frameNT w.params (t₀ + 0) (i2 + 17) L.lx), (e, excO "StopIteration" t)]) (by
    intro p hp
    replace hp := memL hp
    rcases hp with rfl | rfl
    · exact M.keeps _ _ y7
    · exact he1) (by
    refine ndM ?_
    exact fun q => heF q.symm)
  refine hcont (.ok (.ret (.ref e))) h4 i3 (cfgH w b c h4 i3 none []) _ _ advN3b rfl O3 D3 fun stk3 => ?_
  refine fine_err (runN3b_is w.params b c (fun m => h₀.objs.size + m) (fun i => t₀ + i) _ _ _ _ stk stk2 stk3 none L _ _ ln ln' tl tt tl' tt' k t6 f4' fe' fn' es' nc' e t) fun h5 i5 hl5 hk5 => ?_
  have w1 : h5.get? (h₀.objs.size + 0) = some (frameNT w.params (t₀ + 0) (i2 + 17) L.lx) := hl5 (h₀.objs.size + 0, frameNT w.params (t₀ + 0) (i2 + 17) L.lx) (by first | trivial | simp)
  have w2 : h5.get? e = some (excO "StopIteration" t) := hl5 (e, excO "StopIteration" t) (by first | trivial | simp)
  have K5 : ∀ x o, h₀.get? x = some o → x ≠ L.d → x ≠ L.di → h5.get? x = some o := by
    intro x o q q1 q2
    have hxlt : x < h₀.objs.size := Heap.lt_size q
    have h3x := K3 x o q q1 q2
    refine hk5 _ _ (M.keeps _ _ h3x) ?_
    refine nmL ?_
    exact ⟨nlt 0 hxlt, fun z => by rw [z] at h3x; rw [h3x] at fresh3; cases fresh3⟩
  have hfun5 : FunOk h5 outer := fun env henv => by
    obtain ⟨p1, La, oa, p2, p3, p4⟩ := hfun env henv
    have hmem : La ∈ framesOf outer := List.mem_filterMap.mpr ⟨env, henv, p2⟩
    obtain ⟨q1, q2⟩ := hapart La hmem
    exact ⟨p1, La, oa, p2, K5 La oa p3 q1 q2, p4⟩
  refine leaves_first (s := ⟨h5, g, dr, i5, os⟩) hfr hfun5 (kind724 _ _) (frame724 _ _) w1 (fun vs q => by cases q) w2 ?_ heF fun h6 U T6 => ?_
  · intro hm
    obtain ⟨env, henv, p2⟩ := List.mem_filterMap.mp hm
    obtain ⟨_, La, oa, p2', p3, _⟩ := hfun env henv
    have : La = e := Option.some.inj (p2'.symm.trans p2)
    rw [this] at p3
    have p3' : h₀.get? e = some oa := p3
    rw [p3'] at enone; cases enone
  · obtain ⟨oe, _, _, _, _, q1, q2, _⟩ := T6
    refine hR h6 i5 e enone ⟨oe, q1, q2.1⟩ ⟨fun x o q z1 z2 => ?_, fun x o q z1 z2 => ?_⟩
    · replace z1 := noL z1
      have q' : h₀.get? x = some o := q
      refine U.keep x o (K5 x o q z1.1 z1.2) ?_ z2
      refine nmL ?_
      exact ⟨nlt 0 (Heap.lt_size q'), fun z => by rw [z] at q'; rw [q'] at enone; cases enone⟩
    · replace z1 := noL z1
      have q' : h₀.get? x = some o := q
      refine U.slots x o (K5 x o q z1.1 z1.2) ?_ z2
      refine nmL ?_
      exact ⟨nlt 0 (Heap.lt_size q'), fun z => by rw [z] at q'; rw [q'] at enone; cases enone⟩
end
end
section
/-- the frames of what waits -/
noncomputable def kEnvs : Kn → List Env
  | .base => []
  | .ret c _ _ _ κ => c.envs ++ kEnvs κ
theorem ar_frames {A : Around} {outer : List Env} (h : A.frames = some outer) : ∀ κ : Kn, (ar A κ).frames = some (kEnvs κ ++ outer)
  | .base => h
  | .ret c hd k md κ => by
    show pushEnvs c.envs (ar A κ).frames = _
    rw [pushEnvs_eq, ar_frames h κ]
    show some (c.envs ++ (kEnvs κ ++ outer)) = some (c.envs ++ kEnvs κ ++ outer)
    rw [List.append_assoc]
noncomputable def kenvV (o : Out) : Option (List Env) := match o.kind with
  | .cut _ κ _ _ _ => some (kEnvs κ)
  | .err _ _ _ κ _ _ _ => some (kEnvs κ)
  | _ => none
theorem runN1_envs (P : Params) (b c : Bool) (rho tau : Nat → Nat) (stk : Stk) (h0 : Option Value) (L : LX) (st : Value) (ln : Int) (tl tt k t6 : Nat) :
    kenvV (runN1 P b c rho tau stk h0 L st ln tl tt k t6) = some [envFn (fP P b c) 695 (rho 2), envFn (fP P b c) 688 (rho 1), envFn (fP P b c) 724 (rho 0)] := by
  cases b <;> kernel_rfl
section
variable {V : Cfg} {w : World} {A : Around} {R : Result → Shared → Prop} {g : Array GenState} {d : Drawn} {os : OsState} {t₀ : Nat} {ini : List Addr} {h₀ : Heap} {o : Out}
/-- as fine_call, with the frames of what waits -/
theorem fine_callF {js : List Nat} {c' : Code} {l : List (Addr × Obj)} {envs outer : List Env} (hfr : A.frames = some outer) (qe : kenvV o = some envs) (e : (chkL o, cutR js o) = (chkR o, some (c', l)))
    (hnext : ∀ A' R' h i, A'.depth ≤ A.depth + 40 → A'.handled = A.handled → A'.frames = some (envs ++ outer) → (∀ p ∈ l, h.get? p.1 = some p.2) → (∀ b o, h₀.get? b = some o → b ∉ ini → h.get? b = some o) →
      (∀ r h2 i2 V2 own2 ini2 adv2, V2.prog = V.prog → V2.Ok w A i2 ini2 h2 → Hp ini2 h2 h2 own2 0 → (∀ stk2, Fine V2 w A R g d os i2 ini2 h2 (res o r V2 stk2 adv2 own2)) → R' r ⟨h2, g, d, i2, os⟩) →
      codeAny (model V.prog w) A' c' R' ⟨h, g, d, i, os⟩) : Fine V w A R g d os t₀ ini h₀ o := by
  refine ⟨chk_of (congrArg Prod.fst e), ?_⟩
  obtain ⟨own', m, i, c₁, hd', k, md, κ', hk, hw1, hw2, hp⟩ := cutR_of (congrArg Prod.snd e)
  have hke : envs = kEnvs (.ret c₁ hd' k md κ') := by
    unfold kenvV at qe
    rw [hk] at qe
    exact (Option.some.inj qe).symm
  unfold Good
  rw [hk]
  intro h D'
  refine hnext _ _ h _ ?_ ?_ ?_ (fun p hp' => D'.has p (picks_mem hp p hp')) D'.keep ?_
  · have := ar_depth A (.ret c₁ hd' k md κ')
    omega
  · rw [ar_hand]; exact khand_none hw1
  · rw [ar_frames hfr, hke]
  · intro r h2 i2 V2 own2 ini2 adv2 hpr O2 D2 F2
    show runS V.prog w (ar A κ') (endS V.prog w A R κ') c₁ md (k r) ⟨h2, g, d, i2, os⟩
    have F3 : ∀ stk2, Fine V2 w A R g d os i2 ini2 h2 (ssim V2 stk2 100000 adv2 c₁ md κ' (k r) own2 0 0 0 [] [] []) := fun stk2 => by
      have := F2 stk2
      unfold res at this
      rw [hk] at this
      exact this
    have z := ssim_sound O2 100000 adv2 c₁ md κ' (k r) own2 0 0 0 [] [] [] h2 (fun _ => (default, [])) (fun stk2 _ => F3 stk2) D2
    rw [hpr] at z
    exact z
end
end
section
section
variable {w : World} {A : Around} {R : Result → Shared → Prop} {L : LX}
theorem next_genF (OB : L.OkB) (hA : A.depth + 180 ≤ recursionLimit) {eof : Bool} {rem : List Nat} {s : Shared} (G : Gr w s.heap) (B : LexB w L eof rem s.heap) (he : eof = true → rem = []) (hs : ∀ c ∈ rem, isSign c) (hl : rem.length < 1700)
    {outer : List Env} (hfr : A.frames = some outer)
    (hgo : ∀ (b c : Bool) (stk : Stk) (ts : Nat) (ln : Int) (tl tt k t6 : Nat) (h2 : Heap) (i2 : Nat) (eof' : Bool) (l' r' : List Nat) (ts' : Nat) (ln' : Int) (tl' tt' f4' fe' fn' : Nat) (es' nc' : Str), fP w.params b c = w.params → tokF eof rem = some (eof', l', r') → Gr w h2 →
      AfterLoop w L s.heap s.toks eof' l' r' ts' ln' tl' tt' f4' fe' fn' es' nc' h2 →
      ∃ V2 own2 ini2 adv2, V2.prog = theProg ∧ V2.Ok w A i2 ini2 h2 ∧ Hp ini2 h2 h2 own2 0 ∧ ∀ stk2, Fine V2 w A R s.gens s.drawn s.os i2 ini2 h2 (res (runN1 w.params b c (fun m => s.heap.objs.size + m) (fun i => s.toks + i) stk A.handled L (if eof then .none else .str ⟨#[32]⟩ ts) ln tl tt k t6) (.ok .next) V2 stk2 adv2 own2))
    (hE : ∀ (b c : Bool) (stk : Stk) (ts : Nat) (ln : Int) (tl tt k t6 : Nat) (A' : Around) (R' : Result → Shared → Prop) (h2 : Heap) (i2 : Nat) (l' : List Nat), fP w.params b c = w.params → tokF eof rem = none → A'.depth ≤ A.depth + 40 → A'.handled = A.handled → A'.frames = some ([envFn w.params 695 (s.heap.objs.size + 2), envFn w.params 688 (s.heap.objs.size + 1), envFn w.params 724 (s.heap.objs.size + 0)] ++ outer) → Gr w h2 →
      In4 w (L.call (s.heap.objs.size + 2) (s.toks + 5) (s.toks + 6) (s.toks + 8)) .B l' [] h2 → BeforeLoop w L s.heap s.toks h2 →
      (∀ r h3 i3 V2 own2 ini2 adv2, V2.prog = theProg → V2.Ok w A i3 ini2 h3 → Hp ini2 h3 h3 own2 0 → (∀ stk2, Fine V2 w A R s.gens s.drawn s.os i3 ini2 h3 (res (runN1 w.params b c (fun m => s.heap.objs.size + m) (fun i => s.toks + i) stk A.handled L (if eof then .none else .str ⟨#[32]⟩ ts) ln tl tt k t6) r V2 stk2 adv2 own2)) → R' r ⟨h3, s.gens, s.drawn, i3, s.os⟩) →
      codeAny (model theProg w) A' (WL w.params (s.heap.objs.size + 2)) R' ⟨h2, s.gens, s.drawn, i2, s.os⟩) :
    codeAny (model theProg w) A (NX L.lx) R s := by
  obtain ⟨h₀, g, dr, t₀, os⟩ := s
  obtain ⟨B1, ⟨ts, ln, tl, tt, B2⟩, B3, B4, B5, ⟨k, t6, B6, hd, hk⟩⟩ := B
  have hb := fP_self w.params
  generalize w.params.followText "special-get-raises" = b at hb
  generalize w.params.followText "comprehension-iter-twice" = c at hb
  have O1 := mkOk (A := A) (t₀ := t₀) (sps := []) (ini := [L.lx, L.d, L.pb, L.fs, L.io, L.di]) G hb OB.high (by omega) (fun sp hm => nomatch hm)
  have hown : ∀ p ∈ ownN w.params L (if eof then .none else .str ⟨#[32]⟩ ts) ln tl tt k t6, h₀.get? p.1 = some p.2 := by
    intro p hp
    replace hp := memL hp
    rcases hp with rfl | rfl | rfl | rfl | rfl | rfl <;> assumption
  have hlt : ∀ a ∈ [L.lx, L.d, L.pb, L.fs, L.io, L.di], a < h₀.objs.size := by
    intro a ha
    replace ha := memL ha
    rcases ha with rfl | rfl | rfl | rfl | rfl | rfl
    · exact Heap.lt_size B1
    · exact Heap.lt_size B2
    · exact Heap.lt_size B3
    · exact Heap.lt_size B4
    · exact Heap.lt_size B5
    · exact Heap.lt_size B6
  have D1 : Hp [L.lx, L.d, L.pb, L.fs, L.io, L.di] h₀ h₀ (ownN w.params L (if eof then .none else .str ⟨#[32]⟩ ts) ln tl tt k t6) 0 := mkHp (own := ownN w.params L (if eof then .none else .str ⟨#[32]⟩ ts) ln tl tt k t6) hown OB.apart
  refine run_fine O1 D1 (adv := advN1) fun stk => fine_callF hfr (runN1_envs w.params b c _ _ stk _ L _ ln tl tt k t6) (runN1_is w.params b c _ _ stk _ L _ ln tl tt k t6) fun A' R' h i hdep hh hfr' hl1 hk1 hcont => ?_
  have m0 := h₀.objs.size
  have f1 : h.get? L.lx = some (instObj 727 L.d) := hl1 (L.lx, instObj 727 L.d) (by first | trivial | simp)
  have f2 : h.get? L.d = some (lexD w.params L (if eof then .none else .str ⟨#[32]⟩ ts) ln tl ⟨⟨[]⟩⟩ tt) := hl1 (L.d, _) (by first | trivial | simp)
  have f3 : h.get? L.pb = some dq := hl1 (L.pb, dq) (by first | trivial | simp)
  have f4 : h.get? L.fs = some dq := hl1 (L.fs, dq) (by first | trivial | simp)
  have f5 : h.get? L.io = some (instObj 592 L.di) := hl1 (L.io, instObj 592 L.di) (by first | trivial | simp)
  have f6 : h.get? L.di = some (ioDL w.params L k t6) := hl1 (L.di, ioDL w.params L k t6) (by first | trivial | simp)
  have f7 : h.get? (h₀.objs.size + 0) = some (frame1q w.params (t₀ + 0) L.lx) := hl1 (h₀.objs.size + 0, frame1q w.params (t₀ + 0) L.lx) (by first | trivial | simp)
  have f8 : h.get? (h₀.objs.size + 1) = some (frame1q w.params (t₀ + 1) L.lx) := hl1 (h₀.objs.size + 1, frame1q w.params (t₀ + 1) L.lx) (by first | trivial | simp)
  have f9 : h.get? (h₀.objs.size + 2) = some (frame3q w.params (t₀ + 5) (t₀ + 6) (t₀ + 8) L.lx ⟨#[32]⟩ (t₀ + 7)) := hl1 (h₀.objs.size + 2, frame3q w.params (t₀ + 5) (t₀ + 6) (t₀ + 8) L.lx ⟨#[32]⟩ (t₀ + 7)) (by first | trivial | simp)
  have G1 : Gr w h := G.keeps fun b o hlt e => hk1 b o e fun hm => absurd hlt (Nat.not_lt.mpr (OB.high b hm))
  rw [frame3_call w.params L (h₀.objs.size + 2)] at f9
  have eW : WL (fP w.params b c) (h₀.objs.size + 2) = WL w.params (L.call (h₀.objs.size + 2) (t₀ + 5) (t₀ + 6) (t₀ + 8)).F := by rw [hb]
  have ap := OB.apart
  replace ap := ndL' ap
  obtain ⟨⟨a1, a2, a3, a4, a5⟩, ⟨b1, b2, b3, b4⟩, ⟨c1, c2, c3⟩, ⟨d1, d2⟩, e1⟩ := ap
  have l1 := hlt L.lx (by first | trivial | simp)
  have l2 := hlt L.d (by first | trivial | simp)
  have l3 := hlt L.pb (by first | trivial | simp)
  have l4 := hlt L.fs (by first | trivial | simp)
  have l5 := hlt L.io (by first | trivial | simp)
  have l6 := hlt L.di (by first | trivial | simp)
  have hm781 : 781 ≤ L.lx := OB.high L.lx (by first | trivial | simp)
  have hi781 : ∀ j, 781 ≤ h₀.objs.size + j := fun j => Nat.le_trans hm781 (Nat.le_of_lt (Nat.lt_of_lt_of_le l1 (Nat.le_add_right ..)))
  have n1 : L.lx ≠ h₀.objs.size + 2 := nlt 2 l1
  have n2 : L.d ≠ h₀.objs.size + 2 := nlt 2 l2
  have n3 : L.io ≠ h₀.objs.size + 2 := nlt 2 l5
  have n4 : L.di ≠ h₀.objs.size + 2 := nlt 2 l6
  have OL : (L.call (h₀.objs.size + 2) (t₀ + 5) (t₀ + 6) (t₀ + 8)).Ok := by
    refine ⟨?_, ?_, OB.len⟩
    · refine ndL ?_
      exact ⟨⟨a1, a4, a5, n1⟩, ⟨b3, b4, n2⟩, ⟨e1, n3⟩, n4⟩
    · intro a ha
      replace ha := memL ha
      rcases ha with rfl | rfl | rfl | rfl | rfl
      · exact hm781
      · exact OB.high L.d (by first | trivial | simp)
      · exact OB.high L.io (by first | trivial | simp)
      · exact OB.high L.di (by first | trivial | simp)
      · exact hi781 2
  have before : ∀ h2, Kept (L.call (h₀.objs.size + 2) (t₀ + 5) (t₀ + 6) (t₀ + 8)) h h2 → BeforeLoop w L h₀ t₀ h2 := fun h2 K => by
    have kp : ∀ a o, a ≠ L.d → a ≠ L.di → a ≠ h₀.objs.size + 2 → h.get? a = some o → h2.get? a = some o := fun a o q1 q2 q3 e => K a o e q1 q2 q3
    have g1 := kp _ _ a1 a5 n1 f1
    have g3 := kp _ _ (fun q => b1 q.symm) c3 (nlt 2 l3) f3
    have g4 := kp _ _ (fun q => b2 q.symm) d2 (nlt 2 l4) f4
    have g5 := kp _ _ (fun q => b3 q.symm) e1 n3 f5
    refine ⟨g1, g3, g4, g5, kp _ _ (fun q => nlt 0 l2 q.symm) (fun q => nlt 0 l6 q.symm) (npl _ 0 2 (by decide)) f7, kp _ _ (fun q => nlt 1 l2 q.symm) (fun q => nlt 1 l6 q.symm) (npl _ 1 2 (by decide)) f8, ?_⟩
    intro x o e q1 q2
    have hxlt : x < h₀.objs.size := Heap.lt_size e
    by_cases x1 : x = L.lx
    · subst x1; rw [Option.some.inj (e.symm.trans B1)]; exact g1
    · by_cases x2 : x = L.pb
      · subst x2; rw [Option.some.inj (e.symm.trans B3)]; exact g3
      · by_cases x3 : x = L.fs
        · subst x3; rw [Option.some.inj (e.symm.trans B4)]; exact g4
        · by_cases x4 : x = L.io
          · subst x4; rw [Option.some.inj (e.symm.trans B5)]; exact g5
          · exact kp _ _ q1 q2 (nlt 2 hxlt) (hk1 x o e (nmL ⟨x1, q1, x2, x3, x4, q2⟩))
  show codeAny (model theProg w) A' (WL (fP w.params b c) (h₀.objs.size + 2)) R' ⟨h, g, dr, i, os⟩
  rw [eW]
  refine loop3 OL (by omega) eof rem ⟨h, g, dr, i, os⟩ G1 ⟨ts, ln, tl, tt, k, t6, _, _, ⟨f1, f2, f5, f6, f9⟩, hd, hk⟩ he hs hl (fun eof' l' r' e h2 i2 O4 K => ?_) (fun e h2 i2 l' G2 I2 K => ?_)
  rotate_left
  · exact hE b c stk ts ln tl tt k t6 A' R' h2 i2 l' hb e hdep hh (by rw [hb] at hfr'; exact hfr') G2 I2 (before h2 K) hcont
  obtain ⟨ts', ln', tl', tt', k', t6', f4', es', fe', nc', fn', X, hd', hk'⟩ := O4
  obtain ⟨V2, own2, ini2, adv2, hp2, O2, D2, F2⟩ := hgo b c stk ts ln tl tt k t6 h2 i2 eof' l' r' ts' ln' tl' tt' f4' fe' fn' es' nc' hb e (K.gr OL G1) ⟨before h2 K, X.d, ⟨k', t6', X.di, hd', hk'⟩, X.F⟩
  exact hcont (.ok .next) h2 i2 V2 own2 ini2 adv2 hp2 O2 D2 F2
end
end
section
noncomputable def advBa : List Nat := [5, 5, 5, 0, 0, 5, 1, 1454, 1454, 1452, 0, 1, 1454, 1454, 1452, 1, 1, 1454, 3, 0, 0, 5, 1, 1454, 1454, 1452, 0, 1, 1454, 1454, 1452, 1, 1, 1454, 3, 5, 1, 1454, 1454, 1452, 0, 1, 1454, 1454, 1452, 1, 1, 1454, 3, 0, 0, 5, 1, 1454, 1454, 1452, 0, 1, 1454, 1454, 1452, 1, 1, 1454, 3, 5, 1, 1454, 1454, 1452, 0, 1, 1454, 1454, 1452, 1, 1, 1454, 3, 0, 0, 5, 1, 1454, 1454, 1452, 0, 1, 1454, 1454, 1452, 1, 1, 1454, 3, 5, 1, 1454, 1454, 1452, 0, 1, 1454, 1454, 1452, 1, 1, 1454, 3, 0, 0, 5, 0, 0, 0, 5, 1, 1454, 1454, 1452, 0, 1, 1454, 1454, 1452, 1, 1, 1454, 3, 0, 0, 6, 0, 1]
noncomputable def advBb : List Nat := [3, 3, 3, 3, 3]
noncomputable def noEsc : Str := Str.ofString "No escaped character"
noncomputable def onLoop (env : Env) : Value → Sem Unit := fun x => do noteFrame x env; theTreesLotGoes x
noncomputable abbrev runBa (P : Params) (b c : Bool) (rho1 tau1 rho2 tau2 : Nat → Nat) (stk1 stk2 : Stk) (h0 : Option Value) (L : LX) (ts tl tt tkc fe fn f4 k t6 : Nat) (l : List Nat) (nc : Str) (ln : Int) : Out :=
  res (entered (cfg (fP P b c) rho1 tau1 h0 []) stk1 advT (WL (fP P b c) L.F) (ownT P L (.str ⟨#[92]⟩ ts) ln tl ⟨⟨l⟩⟩ tt k t6 (frame4 P L f4 ⟨#[97]⟩ fe nc fn))) (.ok (.ret (.str ⟨#[]⟩ tkc))) (cfg (fP P b c) rho2 tau2 h0 []) stk2 advBa (ownU P L (.str ⟨#[92]⟩ ts) ln tl ⟨⟨l⟩⟩ tt (frame4 P L f4 ⟨#[97]⟩ fe nc fn))
theorem runBa_is (P : Params) (b c : Bool) (rho1 tau1 rho2 tau2 : Nat → Nat) (stk1 stk2 : Stk) (h0 : Option Value) (L : LX) (ts tl tt tkc fe fn f4 k t6 : Nat) (l : List Nat) (nc : Str) (ln : Int) :
    let o := runBa P b c rho1 tau1 rho2 tau2 stk1 stk2 h0 L ts tl tt tkc fe fn f4 k t6 l nc ln
    (chkL o, cutR [0, 1, 2] o) = (chkR o, some (.call (.type "ValueError") ⟨[.str noEsc (tau2 15)], []⟩, [(L.lx, instObj 727 L.d), (L.d, lexD P L (.str ⟨#[92]⟩ ts) ln tl ⟨⟨l⟩⟩ tt), (L.F, frame4 P L f4 ⟨#[97]⟩ fe ⟨#[]⟩ tkc)])) := by
  cases b <;> kernel_rfl
theorem runBb_is (P : Params) (b c : Bool) (rho1 tau1 rho2 tau2 rho3 tau3 : Nat → Nat) (stk1 stk2 stk3 : Stk) (L : LX) (ts tl tt tkc fe fn f4 k t6 : Nat) (l : List Nat) (nc : Str) (ln : Int) (e t : Addr) :
    let o := res (runBa P b c rho1 tau1 rho2 tau2 stk1 stk2 none L ts tl tt tkc fe fn f4 k t6 l nc ln) (.ok (.ret (.ref e))) (cfg (fP P b c) rho3 tau3 none []) stk3 advBb [(L.F, frame4 P L f4 ⟨#[97]⟩ fe ⟨#[]⟩ tkc), (e, excO "ValueError" t)]
    (chkL o, errG [0, 1] o) = (chkR o, some (.ref e, WL (fP P b c) L.F, onLoop (envFn (fP P b c) 695 L.F), [(L.F, frame4 P L f4 ⟨#[97]⟩ fe ⟨#[]⟩ tkc), (e, excO "ValueError" t)])) := by
  cases b <;> kernel_rfl
end
section
section
variable {prog : Program} {w : World} {A : Around} {R : Result → Shared → Prop} {s : Shared}
theorem val_made {rest : List Value} (hr : rest.length ≤ 1) (h : ∀ h' e, Heap.MadeExc s.heap h' e "ValueError" rest → R (.ok (.ret (.ref e))) { s with heap := h' }) : codeAny (model prog w) A (.call (.type "ValueError") ⟨rest, []⟩) R s := by
  obtain ⟨hp, g, d, tk, os⟩ := s
  refine codeAny_of_tree ?_
  show wpAny _ _ (callAny (.type "ValueError") ⟨rest, []⟩) _ _ _
  simp only [callAny]
  refine wpAny_pure ⟨Code.quiet_builtin _ (by decide +kernel), codeAny_builtin entry_type_call (wpAny_type_call_exc PySem.F.excCall_ValueError (fun h' e hm => ?_) (by rw [sizeLine_eq]; omega))⟩
  exact h h' e hm
end
end
section
theorem lot_goes {M : Model} {A : Around} {E : Value → Shared → Prop} {s : Shared} {x : Value} {Q : Unit → Shared → Prop} (h : Q () s) : wpAny M A (theTreesLotGoes x) Q E s := by
  intro Γ p hΓ
  unfold theTreesLotGoes
  simp only [Sem.wp_bind']
  show Sem.wp M Γ (holding [x] point) _ _ _ s
  rw [Sem.wp_holding]
  exact h
/-- a new exception is noted by the loop in whose turn it was raised -/
theorem noted_first {prog : Program} {w : World} {A : Around} {Q : Unit → Shared → Prop} {E : Value → Shared → Prop} {s : Shared} {outer : List Env} {env : Env} {F e t : Addr} {cls : String} {oF : Obj}
    (hfr : A.frames = some (env :: outer)) (hfun : FunOk s.heap outer) (hk : env.scope.kind = .function) (hf : env.frame = some F) (hF : s.heap.get? F = some oF) (hoF : ∀ vs, oF.data ≠ .fields vs) (he : s.heap.get? e = some (excO cls t))
    (hR : ∀ h', Heap.NotedW (hideAll s.heap (e :: F :: framesOf outer)) (env :: outer) e (.type cls) (.ref t) (rawInt F) s.heap h' → Q () { s with heap := h' }) :
    wpAny (model prog w) A (onLoop env (.ref e)) Q E s := by
  have hkm : env.scope.kind ≠ .module := by rw [hk]; decide
  have hl : s.heap.FunFrames (hideAll s.heap (e :: F :: framesOf outer)) (env :: outer) :=
    ⟨hkm, ⟨F, oF, hf, hideAll_none _ (by first | trivial | simp), hF, hoF⟩, hfun.fun fun a ha => by simp [ha]⟩
  show wpAny _ _ (do noteFrame (.ref e) env; theTreesLotGoes (.ref e)) _ _ _
  refine wpAny_bind ?_
  unfold noteFrame
  simp only [hf]
  refine wpAny_bind (wpAny_field (x := .none) he rfl rfl ?_)
  rw [if_neg (show ¬ ((Value.none != Value.none) = true) from by decide)]
  exact wpAny_entryW hfr hl hf he (fun b o q => of_hideAll _ q) (hideAll_none _ (by first | trivial | simp)) rfl (show 1 < 6 from by decide) rfl fun h' hN => lot_goes (hR h' hN)
end
section
theorem kind695 (P : Params) (F : Addr) : (envFn P 695 F).scope.kind = .function := by kernel_rfl
theorem wl_envs (P : Params) (F : Addr) : (WL P F).envs = [] := by kernel_rfl
theorem frame695 (P : Params) (F : Addr) : (envFn P 695 F).frame = some F := by kernel_rfl
/-- an exception is on its way through the frames l, the one of the frame F noted; all else stands, frames but for their slots -/
structure OnWay (l : List Env) (but : List Addr) (e t : Addr) (cls : String) (args : List Value) (F : Addr) (h h' : Heap) : Prop where
  new : h.get? e = none
  tup : h'.get? t = some { cls := .type "tuple", data := .seq args.toArray }
  newT : h.get? t = none
  keep : ∀ b o, h.get? b = some o → b ∉ but → b ∉ framesOf l → h'.get? b = some o
  slots : ∀ b o, h.get? b = some o → b ∉ but → (∀ vs, o.data ≠ .fields vs) → ∃ sl, h'.get? b = some { o with slots := sl }
  there : ∀ a ∈ but, a ≠ F → ∃ o, h'.get? a = some o
  held : ∃ oe vs T oT ts, h'.get? e = some oe ∧ (oe.cls = .type cls ∧ vs[0]? = some (.ref t)) ∧ oe.data = .fields vs ∧ vs[1]? = some (.ref T) ∧ h.get? T = none ∧ T ≠ e ∧ h'.get? T = some oT ∧ oT.data = .fields ts ∧ ts[3]? = some (rawInt F)
section
variable {w : World} {A : Around} {R : Result → Shared → Prop} {L : LX}
theorem while_err {s : Shared} (OL : L.Ok) (G : Gr w s.heap) (hA : A.depth + 140 ≤ recursionLimit) {l : List Nat} (I : In4 w L .B l [] s.heap) (hh0 : A.handled = none) {outer : List Env} (hfr : A.frames = some (envFn w.params 695 L.F :: outer)) (hfun : FunOk s.heap outer) (hapart : ∀ a ∈ framesOf outer, a ≠ L.d ∧ a ≠ L.di ∧ a ≠ L.F)
    (hR : ∀ h i e t tk, OnWay (envFn w.params 695 L.F :: outer) [L.d, L.di, L.F] e t "ValueError" [.str noEsc tk] L.F s.heap h → R (.error (.ref e)) ⟨h, s.gens, s.drawn, i, s.os⟩) :
    codeAny (model theProg w) A (WL w.params L.F) R s := by
  obtain ⟨ts, ln, tl, tt, k, t6, f4, es, fe, nc, fn, X, hi, hd, hk⟩ := I
  have hes : es = ⟨#[97]⟩ := hi
  subst hes
  have hke : L.buf.length = k := by
    have := congrArg List.length hd
    rw [List.length_drop, List.length_nil, Array.length_toList] at this
    have h2 : L.buf.cps.size = L.buf.length := rfl
    omega
  refine turn_gen OL G hA X (fun b c rho tau stk h0 => part1_4 w.params b c rho tau stk h0 L _ ln tl _ tt k t6 _ fe f4 nc fn) (end_is OL hke) (fun _ _ _ => []) advBa (fun b c h2 i2 tk sp hm => nomatch hm) fun b c rho1 tau1 stk1 stk2 tkc h2 i2 hb O2 hU RB hio hk2 => ?_
  have ap := OL.apart
  replace ap := ndL' ap
  obtain ⟨⟨a1, a2, a3, a4⟩, ⟨b1, b2, b3⟩, ⟨c1, c2⟩, d1⟩ := ap
  rw [hh0]
  refine fine_call (runBa_is w.params b c rho1 tau1 _ _ stk1 stk2 none L ts tl tt tkc fe fn f4 k t6 l nc ln) fun A' R' h3 i3 hdep hh hl3 hk3 hcont => ?_
  refine val_made (s := ⟨h3, s.gens, s.drawn, i3, s.os⟩) (by first | trivial | simp) fun h4 e M => ?_
  obtain ⟨t, he1, ht, he2⟩ := M.there
  have y1 : h3.get? L.lx = some (instObj 727 L.d) := hl3 (L.lx, instObj 727 L.d) (by first | trivial | simp)
  have y2 : ∃ o, h3.get? L.d = some o := ⟨_, hl3 _ (List.mem_cons_of_mem _ (List.mem_cons_self ..))⟩
  have y7 : h3.get? L.F = some (frame4 w.params L f4 ⟨#[97]⟩ fe ⟨#[]⟩ tkc) := hl3 (L.F, frame4 w.params L f4 ⟨#[97]⟩ fe ⟨#[]⟩ tkc) (by first | trivial | simp)
  obtain ⟨⟨t6', x6⟩, _⟩ := RB
  have y6 := hk3 _ _ x6 (by refine nmL ?_; exact ⟨fun q => a3 q.symm, fun q => b2 q.symm, d1⟩)
  have K3 : ∀ x o, s.heap.get? x = some o → x ≠ L.d → x ≠ L.di → x ≠ L.F → h3.get? x = some o := by
    intro x o q q1 q2 q3
    by_cases z1 : x = L.lx
    · subst z1; rw [Option.some.inj (q.symm.trans X.lx)]; exact y1
    · exact hk3 _ _ (hk2 x o q q1 q2 q3) (by refine nmL ?_; exact ⟨z1, q1, q3⟩)
  have new3 : ∀ a, h3.get? a = none → s.heap.get? a = none := by
    intro a ha
    cases q : s.heap.get? a with
    | none => rfl
    | some o =>
      by_cases q1 : a = L.d
      · obtain ⟨o', y2⟩ := y2; rw [← q1] at y2; rw [y2] at ha; cases ha
      · by_cases q2 : a = L.di
        · rw [← q2] at y6; rw [y6] at ha; cases ha
        · by_cases q3 : a = L.F
          · rw [← q3] at y7; rw [y7] at ha; cases ha
          · have := K3 a o q q1 q2 q3; rw [this] at ha; cases ha
  have fresh3 : h3.get? e = none := M.new
  have heF : e ≠ L.F := fun q => by rw [← q] at y7; rw [y7] at fresh3; cases fresh3
  have G4 : Gr w h4 := G.keeps fun b o hlt q => M.keeps b o (K3 b o q (fun z => absurd hlt (Nat.not_lt.mpr (z ▸ OL.high L.d (by first | trivial | simp)))) (fun z => absurd hlt (Nat.not_lt.mpr (z ▸ OL.high L.di (by first | trivial | simp)))) (fun z => absurd hlt (Nat.not_lt.mpr (z ▸ OL.high L.F (by first | trivial | simp)))))
  have O3 := mkOk2 (A := A) (t₀ := i3) (sps := []) (ini := [L.F, e]) G4 hb (by
    intro a ha o ho
    replace ha := memL ha
    rcases ha with rfl | rfl
    · exact absurd (base_lt G.inn ho) (Nat.not_lt.mpr (OL.high L.F (by first | trivial | simp)))
    · have q : s.heap.get? a = some o := base_in G.inn ho
      rw [new3 a fresh3] at q; cases q) (by omega) (fun sp hm => nomatch hm)
  rw [hh0] at O3
  have D3 := mkHp (h := h4) (own := [(L.F, frame4 w.params L f4 ⟨#[97]⟩ fe ⟨#[]⟩ tkc), (e, excO "ValueError" t)]) (by
    intro p hp
    replace hp := memL hp
    rcases hp with rfl | rfl
    · exact M.keeps _ _ y7
    · exact he1) (by
    simp only [List.map_cons, List.map_nil, List.nodup_cons, List.mem_cons, List.not_mem_nil, or_false, List.nodup_nil, and_true, not_false_iff]
    exact fun q => heF q.symm)
  refine hcont (.ok (.ret (.ref e))) h4 i3 (cfgH w b c h4 i3 none []) _ _ advBb rfl O3 D3 fun stk3 => ?_
  refine fine_err (runBb_is w.params b c rho1 tau1 _ _ _ _ stk1 stk2 stk3 L ts tl tt tkc fe fn f4 k t6 l nc ln e t) fun h5 i5 hl5 hk5 => ?_
  have w1 : h5.get? L.F = some (frame4 w.params L f4 ⟨#[97]⟩ fe ⟨#[]⟩ tkc) := hl5 (L.F, frame4 w.params L f4 ⟨#[97]⟩ fe ⟨#[]⟩ tkc) (by first | trivial | simp)
  have w2 : h5.get? e = some (excO "ValueError" t) := hl5 (e, excO "ValueError" t) (by first | trivial | simp)
  have K5 : ∀ x o, s.heap.get? x = some o → x ≠ L.d → x ≠ L.di → x ≠ L.F → h5.get? x = some o := by
    intro x o q q1 q2 q3
    have h3x := K3 x o q q1 q2 q3
    refine hk5 _ _ (M.keeps _ _ h3x) ?_
    refine nmL ?_
    exact ⟨q3, fun z => by rw [z] at h3x; rw [h3x] at fresh3; cases fresh3⟩
  have hte : t ≠ e := fun q => by
    rw [q] at he2
    have z := congrArg Obj.data (Option.some.inj (he1.symm.trans he2))
    cases z
  have htF : t ≠ L.F := fun q => by rw [q] at ht; rw [y7] at ht; cases ht
  have w3 : h5.get? t = some { cls := .type "tuple", data := .seq [Value.str noEsc (i2 + 15)].toArray } := hk5 _ _ he2 (by refine nmL ?_; exact ⟨htF, hte⟩)
  have hfun5 : FunOk h5 outer := fun env henv => by
    obtain ⟨p1, La, oa, p2, p3, p4⟩ := hfun env henv
    have hmem : La ∈ framesOf outer := List.mem_filterMap.mpr ⟨env, henv, p2⟩
    obtain ⟨q1, q2, q3⟩ := hapart La hmem
    exact ⟨p1, La, oa, p2, K5 La oa p3 q1 q2 q3, p4⟩
  have eE : envFn (fP w.params b c) 695 L.F = envFn w.params 695 L.F := by rw [hb]
  rw [eE]
  refine wpOwn_of_wpAny ?_
  have hfr2 : (A.under (WL (fP w.params b c) L.F)).frames = some (envFn w.params 695 L.F :: outer) := by
    show pushEnvs (WL (fP w.params b c) L.F).envs A.frames = _
    rw [wl_envs, hfr]; rfl
  refine noted_first (s := ⟨h5, s.gens, s.drawn, i5, s.os⟩) hfr2 hfun5 (kind695 _ _) (frame695 _ _) w1 (fun vs q => by cases q) w2 fun h6 N => ?_
  obtain ⟨n1, n2, n3, n4⟩ := N
  have enew : s.heap.get? e = none := new3 e fresh3
  have tne : t ∉ framesOf outer := by
    intro hm
    obtain ⟨env, henv, p2⟩ := List.mem_filterMap.mp hm
    obtain ⟨_, La, oa, p2', p3, _⟩ := hfun env henv
    have : La = t := Option.some.inj (p2'.symm.trans p2)
    rw [this, new3 t ht] at p3; cases p3
  refine hR h6 i5 e t (i2 + 15) ⟨enew, n1 t _ (hideAll_get _ w3 (by simp only [List.mem_cons, not_or]; exact ⟨hte, htF, tne⟩)), new3 t ht, fun x o q z1 z2 => ?_, fun x o q z1 z2 => ?_, ?_, ?_⟩
  · replace z1 := noL z1
    refine n1 x o (hideAll_get _ (K5 x o q z1.1 z1.2.1 z1.2.2) ?_)
    simp only [List.mem_cons, not_or]
    refine ⟨fun z => (by rw [z, enew] at q; cases q), z1.2.2, fun hm => z2 ?_⟩
    show x ∈ List.filterMap _ _
    rw [List.filterMap_cons, frame695]
    exact List.mem_cons_of_mem _ hm
  · replace z1 := noL z1
    exact n4 x o (K5 x o q z1.1 z1.2.1 z1.2.2) z2
  · intro a ha hne
    replace ha := memL ha
    have hne' : ∀ o', h3.get? a = some o' → a ≠ e := fun o' z q => by rw [q, fresh3] at z; cases z
    have hout : a = L.d ∨ a = L.di → a ∉ framesOf outer := fun z hm => by
      obtain ⟨u1, u2, _⟩ := hapart a hm
      rcases z with z | z
      · exact u1 z
      · exact u2 z
    rcases ha with rfl | rfl | rfl
    · obtain ⟨o', y2⟩ := y2
      have z5 := hk5 _ _ (M.keeps _ _ y2) (by refine nmL ?_; exact ⟨b3, hne' _ y2⟩)
      exact ⟨o', n1 _ _ (hideAll_get _ z5 (by simp only [List.mem_cons, not_or]; exact ⟨hne' _ y2, b3, hout (.inl rfl)⟩))⟩
    · have z5 := hk5 _ _ (M.keeps _ _ y6) (by refine nmL ?_; exact ⟨d1, hne' _ y6⟩)
      exact ⟨_, n1 _ _ (hideAll_get _ z5 (by simp only [List.mem_cons, not_or]; exact ⟨hne' _ y6, d1, hout (.inr rfl)⟩))⟩
    · exact absurd rfl hne
  · obtain ⟨oe, vs, T, oT, tsv, p1, p2, p3, p4, p5, p6, p7, p8, p9⟩ := n3
    refine ⟨oe, vs, T, oT, tsv, p1, p2, p3, p4, ?_, p6, p7, p8, p9⟩
    cases q : s.heap.get? T with
    | none => rfl
    | some o =>
      exfalso
      have inF : T ∈ framesOf (envFn w.params 695 L.F :: outer) → False := fun hm => by
        obtain ⟨_, o', q1, q2⟩ := n2.mem hm
        have : o' = oT := Option.some.inj (q1.symm.trans p7)
        exact q2 tsv (this ▸ p8)
      have hF : T ≠ L.F := fun z => inF (by
        show T ∈ List.filterMap _ _
        rw [List.filterMap_cons, frame695, z]
        exact List.mem_cons_self ..)
      have hO : T ∉ framesOf outer := fun hm => inF (by
        show T ∈ List.filterMap _ _
        rw [List.filterMap_cons, frame695]
        exact List.mem_cons_of_mem _ hm)
      have stands : ∀ o', h5.get? T = some o' → False := fun o' z => by
        have := hideAll_get (e :: L.F :: framesOf outer) z (by simp only [List.mem_cons, not_or]; exact ⟨p6, hF, hO⟩)
        rw [this] at p5; cases p5
      by_cases q1 : T = L.d
      · obtain ⟨o', y2⟩ := y2
        have hne : L.d ≠ e := fun z => by rw [z, fresh3] at y2; cases y2
        exact stands o' (by rw [q1]; exact hk5 _ _ (M.keeps _ _ y2) (by refine nmL ?_; exact ⟨b3, hne⟩))
      · by_cases q2 : T = L.di
        · have hne : L.di ≠ e := fun z => by rw [z, fresh3] at y6; cases y6
          exact stands _ (by rw [q2]; exact hk5 _ _ (M.keeps _ _ y6) (by refine nmL ?_; exact ⟨d1, hne⟩))
        · exact stands o (K5 T o q q1 q2 hF)
end
end
section
/-- an exception on its way, and the newest entry of its trace -/
noncomputable abbrev wayE (cls : Value) (dx : Option Addr) (sx : Array (Option Value)) (v0 : Value) (T : Addr) (vr : List Value) : Obj := { cls := cls, dict := dx, data := .fields ⟨v0 :: .ref T :: vr⟩, slots := sx }
noncomputable abbrev wayT (cls : Value) (dx : Option Addr) (sx : Array (Option Value)) (a0 a1 a2 a3 : Value) (ar : List Value) : Obj := { cls := cls, dict := dx, data := .fields ⟨a0 :: a1 :: a2 :: a3 :: ar⟩, slots := sx }
noncomputable abbrev runV1 (P : Params) (b c : Bool) (rho tau rho2 tau2 : Nat → Nat) (stk stk2 : Stk) (L : LX) (st : Value) (ln : Int) (tl tt k t6 : Nat) (e T : Addr) (cx ct : Value) (dx dt : Option Addr) (sx st' : Array (Option Value)) (v0 a0 a1 a2 a3 : Value) (vr ar : List Value) (adv : List Nat) : Out :=
  res (runN1 P b c rho tau stk none L st ln tl tt k t6) (.error (.ref e)) (cfg (fP P b c) rho2 tau2 none []) stk2 adv [(e, wayE cx dx sx v0 T vr), (T, wayT ct dt st' a0 a1 a2 a3 ar)]
/-- the end of a raise while frames wait -/
noncomputable def errK (js : List Nat) (o : Out) : Option (Value × Code × (Value → Sem Unit) × List Env × List (Addr × Obj)) := match o.kind with
  | .err e c h κ own _ _ => match κ with
    | .ret _ _ _ _ _ => match hdNone κ && Nat.blt (kdep κ) 40 with
      | true => (picks own js).map fun l => (e, c, h, kEnvs κ, l)
      | false => none
    | .base => none
  | _ => none
@[irreducible] noncomputable def resE (o : Out) (r : Result) (V : Cfg) (stk : Stk) (adv : List Nat) (own : List (Addr × Obj)) : Out := match o.kind with
  | .err _ _ _ κ _ _ _ => match κ with
    | .ret c _ k md κ' => ssim V stk 100000 adv c md κ' (k r) own 0 0 0 [] [] []
    | .base => bad 50
  | _ => bad 51
theorem runV1_is (P : Params) (b c : Bool) (rho tau rho2 tau2 : Nat → Nat) (stk stk2 : Stk) (L : LX) (st : Value) (ln : Int) (tl tt k t6 : Nat) (e T : Addr) (cx ct : Value) (dx dt : Option Addr) (sx st' : Array (Option Value)) (v0 a0 a1 a2 a3 : Value) (vr ar : List Value) :
    let o := runV1 P b c rho tau rho2 tau2 stk stk2 L st ln tl tt k t6 e T cx ct dx dt sx st' v0 a0 a1 a2 a3 vr ar [1, 1, 3, 3]
    (chkL o, errK [0, 1] o) = (chkR o, some (.ref e, .func (bodyFn (fP P b c) 695) (envFn (fP P b c) 695 (rho 2)), leaving (envFn (fP P b c) 695 (rho 2)), [envFn (fP P b c) 688 (rho 1), envFn (fP P b c) 724 (rho 0)],
      [(e, wayE cx dx sx v0 T vr), (T, wayT ct dt st' a0 a1 a2 (rawInt (rho 2)) ar)])) := by
  cases b <;> kernel_rfl
end
section
theorem errK_of {js : List Nat} {o : Out} {e : Value} {c : Code} {hh : Value → Sem Unit} {envs : List Env} {l : List (Addr × Obj)} (q : errK js o = some (e, c, hh, envs, l)) :
    ∃ own m i c₁ hd k md κ, o.kind = .err e c hh (.ret c₁ hd k md κ) own m i ∧ hdNone (.ret c₁ hd k md κ) = true ∧ kdep (.ret c₁ hd k md κ) < 40 ∧ kEnvs (.ret c₁ hd k md κ) = envs ∧ picks own js = some l := by
  unfold errK at q
  split at q
  · rename_i e' c' h' κ own m i hk
    split at q
    · rename_i c₁ hd k md κ'
      split at q
      · rename_i hw
        rw [Bool.and_eq_true] at hw
        cases hp : picks own js with
        | none => rw [hp] at q; cases q
        | some l' => rw [hp] at q; cases q; exact ⟨own, m, i, c₁, hd, k, md, κ', hk, hw.1, Nat.le_of_ble_eq_true hw.2, rfl, hp⟩
      · cases q
    · cases q
  · cases q
section
variable {V : Cfg} {w : World} {A : Around} {R : Result → Shared → Prop} {g : Array GenState} {d : Drawn} {os : OsState} {t₀ : Nat} {ini : List Addr} {h₀ : Heap} {o : Out}
/-- a raise leaves a frame while others wait -/
theorem fine_errK {js : List Nat} {e : Value} {c : Code} {hh : Value → Sem Unit} {l : List (Addr × Obj)} {envs outer : List Env} (hfr : A.frames = some outer) (q : (chkL o, errK js o) = (chkR o, some (e, c, hh, envs, l)))
    (hnext : ∀ (A' : Around) (R' : Result → Shared → Prop) (h : Heap) (i : Nat), A'.depth ≤ A.depth + 40 → A'.handled = A.handled → A'.frames = some (envs ++ outer) → (∀ p ∈ l, h.get? p.1 = some p.2) → (∀ b o, h₀.get? b = some o → b ∉ ini → h.get? b = some o) →
      (∀ r h2 i2 V2 own2 ini2 adv2, V2.prog = V.prog → V2.Ok w A i2 ini2 h2 → Hp ini2 h2 h2 own2 0 → (∀ stk2, Fine V2 w A R g d os i2 ini2 h2 (resE o r V2 stk2 adv2 own2)) → R' r ⟨h2, g, d, i2, os⟩) →
      wpOwn (model V.prog w) A' c (hh e) (fun _ s => R' (.error e) s) (fun e' s => R' (.error e') s) ⟨h, g, d, i, os⟩) : Fine V w A R g d os t₀ ini h₀ o := by
  refine ⟨chk_of (congrArg Prod.fst q), ?_⟩
  obtain ⟨own', m, i, c₁, hd', k, md, κ', hk, hw1, hw2, hke, hp⟩ := errK_of (congrArg Prod.snd q)
  unfold Good
  rw [hk]
  intro h D'
  refine hnext _ _ h _ ?_ ?_ ?_ (fun p hp' => D'.has p (picks_mem hp p hp')) D'.keep ?_
  · have := ar_depth A (.ret c₁ hd' k md κ')
    omega
  · rw [ar_hand]; exact khand_none hw1
  · rw [ar_frames hfr, hke]
  · intro r h2 i2 V2 own2 ini2 adv2 hpr O2 D2 F2
    show runS V.prog w (ar A κ') (endS V.prog w A R κ') c₁ md (k r) ⟨h2, g, d, i2, os⟩
    have F3 : ∀ stk2, Fine V2 w A R g d os i2 ini2 h2 (ssim V2 stk2 100000 adv2 c₁ md κ' (k r) own2 0 0 0 [] [] []) := fun stk2 => by
      have := F2 stk2
      unfold resE at this
      rw [hk] at this
      exact this
    have z := ssim_sound O2 100000 adv2 c₁ md κ' (k r) own2 0 0 0 [] [] [] h2 (fun _ => (default, [])) (fun stk2 _ => F3 stk2) D2
    rw [hpr] at z
    exact z
end
end
section
noncomputable abbrev runV2 (P : Params) (b c : Bool) (rho tau rho2 tau2 rho3 tau3 : Nat → Nat) (stk stk2 stk3 : Stk) (L : LX) (st : Value) (ln : Int) (tl tt k t6 : Nat) (e T : Addr) (cx ct : Value) (dx dt : Option Addr) (sx st' : Array (Option Value)) (v0 a0 a1 a2 a3 : Value) (vr ar : List Value) : Out :=
  resE (runV1 P b c rho tau rho2 tau2 stk stk2 L st ln tl tt k t6 e T cx ct dx dt sx st' v0 a0 a1 a2 a3 vr ar [1, 1, 3, 3]) (.error (.ref e)) (cfg (fP P b c) rho3 tau3 none []) stk3 [] []
theorem runV2_is (P : Params) (b c : Bool) (rho tau rho2 tau2 rho3 tau3 : Nat → Nat) (stk stk2 stk3 : Stk) (L : LX) (st : Value) (ln : Int) (tl tt k t6 : Nat) (e T : Addr) (cx ct : Value) (dx dt : Option Addr) (sx st' : Array (Option Value)) (v0 a0 a1 a2 a3 : Value) (vr ar : List Value) :
    let o := runV2 P b c rho tau rho2 tau2 rho3 tau3 stk stk2 stk3 L st ln tl tt k t6 e T cx ct dx dt sx st' v0 a0 a1 a2 a3 vr ar
    (chkL o, errK [] o) = (chkR o, some (.ref e, .func (bodyFn (fP P b c) 688) (envFn (fP P b c) 688 (rho 1)), leaving (envFn (fP P b c) 688 (rho 1)), [envFn (fP P b c) 724 (rho 0)], [])) := by
  cases b <;> kernel_rfl
theorem runV3_is (P : Params) (b c : Bool) (rho tau rho2 tau2 rho3 tau3 rho4 tau4 : Nat → Nat) (stk stk2 stk3 stk4 : Stk) (L : LX) (st : Value) (ln : Int) (tl tt k t6 : Nat) (e T : Addr) (cx ct : Value) (dx dt : Option Addr) (sx st' : Array (Option Value)) (v0 a0 a1 a2 a3 : Value) (vr ar : List Value) :
    let o := resE (runV2 P b c rho tau rho2 tau2 rho3 tau3 stk stk2 stk3 L st ln tl tt k t6 e T cx ct dx dt sx st' v0 a0 a1 a2 a3 vr ar) (.error (.ref e)) (cfg (fP P b c) rho4 tau4 none []) stk4 [] []
    (chkL o, errG [] o) = (chkR o, some (.ref e, .func (bodyFn (fP P b c) 724) (envFn (fP P b c) 724 (rho 0)), leaving (envFn (fP P b c) 724 (rho 0)), [])) := by
  cases b <;> kernel_rfl
end
section
theorem kind688 (P : Params) (F : Addr) : (envFn P 688 F).scope.kind = .function := by kernel_rfl
theorem frame688 (P : Params) (F : Addr) : (envFn P 688 F).frame = some F := by kernel_rfl
theorem traced_keeps {base h h' : Heap} {e : Addr} {cls a0 fl : Value} (k : ∀ b o, h.get? b = some o → h'.get? b = some o) (x : h.TracedAtW base e cls a0 fl) : h'.TracedAtW base e cls a0 fl := by
  obtain ⟨oe, vs, T, oT, ts, he, hc, hd, h1, hn, hne, hT, hdT, h3⟩ := x
  exact ⟨oe, vs, T, oT, ts, k _ _ he, hc, hd, h1, hn, hne, k _ _ hT, hdT, h3⟩
theorem flyW_keeps {base h h' : Heap} {l : List Env} {e : Addr} {cls a0 : Value} (k : ∀ b o, h.get? b = some o → h'.get? b = some o) (x : Heap.FlyingW base l e cls a0 h) : Heap.FlyingW base l e cls a0 h' := by
  obtain ⟨f1, f2, f3, f4⟩ := x
  exact ⟨fun b o e => k b o (f1 b o e), f2, f3.of_keeps fun b o hb _ => ⟨o, k b o hb, rfl⟩, traced_keeps k f4⟩
/-- an exception has left the frames within; all that stood stands, the callers' frames but for their slots -/
structure Fly (outer : List Env) (but : List Addr) (e t : Addr) (cls : String) (args : List Value) (h h' : Heap) : Prop where
  new : h.get? e = none
  newT : h.get? t = none
  tup : h'.TupAt t args
  up : UpTo outer but h h'
  tr : h'.TracedW h e (.type cls) (.ref t)
  there : ∀ a ∈ but, ∀ o, h.get? a = some o → ∃ o', h'.get? a = some o'
theorem FunOk.mem {h : Heap} {outer : List Env} (F : FunOk h outer) {a : Addr} (ha : a ∈ framesOf outer) : ∃ o, h.get? a = some o ∧ ∀ vs, o.data ≠ .fields vs := by
  obtain ⟨env, henv, p2⟩ := List.mem_filterMap.mp ha
  obtain ⟨_, La, oa, p2', p3, p4⟩ := F env henv
  have : La = a := Option.some.inj (p2'.symm.trans p2)
  exact ⟨oa, this ▸ p3, p4⟩
/-- the library's word for it -/
theorem Fly.flying {outer : List Env} {but : List Addr} {e t : Addr} {cls : String} {args : List Value} {h h' : Heap} (x : Fly outer but e t cls args h h') (F : FunOk h outer) (hb : ∀ a ∈ framesOf outer, a ∉ but) :
    Heap.FlyingW (hideAll h (but ++ framesOf outer)) outer e (.type cls) (.ref t) h' := by
  refine ⟨fun b o q => ?_, ?_, ?_, ?_⟩
  · refine x.up.keep b o (of_hideAll _ q) (fun hm => ?_) (fun hm => ?_)
    · rw [hideAll_none _ (List.mem_append_left _ hm)] at q; cases q
    · rw [hideAll_none _ (List.mem_append_right _ hm)] at q; cases q
  · cases q : (hideAll h (but ++ framesOf outer)).get? e with
    | none => rfl
    | some o => have := of_hideAll _ q; rw [x.new] at this; cases this
  · have F' := F.fun (as := but ++ framesOf outer) (fun a ha => List.mem_append_right _ ha)
    have k : ∀ l : List Env, (∀ a ∈ framesOf l, a ∉ but) → h.FunFrames (hideAll h (but ++ framesOf outer)) l → h'.FunFrames (hideAll h (but ++ framesOf outer)) l := by
      intro l
      induction l with
      | nil => intro _ _; trivial
      | cons env l ih =>
        intro hb' hl
        obtain ⟨p1, ⟨La, o, p2, p3, p4, p5⟩, p6⟩ := hl
        have hLa : La ∈ framesOf (env :: l) := by
          show La ∈ List.filterMap _ _
          rw [List.filterMap_cons, p2]; exact List.mem_cons_self ..
        obtain ⟨sl, q⟩ := x.up.slots La o p4 (hb' La hLa) p5
        refine ⟨p1, ⟨La, _, p2, p3, q, p5⟩, ih (fun a ha => hb' a ?_) p6⟩
        show a ∈ List.filterMap _ _
        rw [List.filterMap_cons, p2]; exact List.mem_cons_of_mem _ ha
    exact k outer hb F'
  · obtain ⟨oe, vs, T, oT, ts, he, hc, hd, h1, hn, r⟩ := x.tr
    refine ⟨oe, vs, T, oT, ts, he, hc, hd, h1, ?_, r⟩
    cases q : (hideAll h (but ++ framesOf outer)).get? T with
    | none => rfl
    | some o => have := of_hideAll _ q; rw [hn] at this; cases this
theorem leaves_held {M : Model} {A : Around} {E : Value → Shared → Prop} {s : Shared} {base : Heap} {env : Env} {rest : List Env} {L e : Addr} {cls a0 : Value} {Q : Unit → Shared → Prop} (hf : env.frame = some L)
    (h1 : base.StaysIn s.heap) (h2 : base.get? e = none) (h3 : s.heap.FunFrames base rest) (h4 : s.heap.TracedAtW base e cls a0 (rawInt L)) (hQ : ∀ h', Heap.FlyingW base rest e cls a0 h' → s.heap.UpToSlots h' → Q () { s with heap := h' }) : wpAny M A (leaving env (.ref e)) Q E s := by
  unfold leaving
  refine wpAny_bind (wpAny_noteFrame_againW hf h4 ?_)
  exact wpAny_setFlight_noneW h1 h3 h4 fun h' k1 k2 k3 k4 => hQ h' ⟨k1, h2, k2, k3⟩ fun b o hb hn => ⟨o.slots, k4 b o hb hn⟩
theorem FunFrames_of {h base : Heap} : ∀ {l : List Env}, (∀ env ∈ l, env.scope.kind ≠ .module ∧ ∃ L o, env.frame = some L ∧ base.get? L = none ∧ h.get? L = some o ∧ ∀ vs, o.data ≠ .fields vs) → h.FunFrames base l
  | [], _ => trivial
  | env :: l, H => ⟨(H env (List.mem_cons_self ..)).1, (H env (List.mem_cons_self ..)).2, FunFrames_of fun e he => H e (List.mem_cons_of_mem _ he)⟩
section
variable {w : World} {A : Around} {R : Result → Shared → Prop} {L : LX}
theorem next_err (OB : L.OkB) (hA : A.depth + 180 ≤ recursionLimit) {eof : Bool} {rem : List Nat} {s : Shared} (G : Gr w s.heap) (B : LexB w L eof rem s.heap) (he : eof = true → rem = []) (hs : ∀ c ∈ rem, isSign c) (hl : rem.length < 1700)
    (htok : tokF eof rem = none) (hh0 : A.handled = none) {outer : List Env} (hfr : A.frames = some outer) (hfun : FunOk s.heap outer) (hapart : ∀ a ∈ framesOf outer, a ≠ L.d ∧ a ≠ L.di) (hhi : ∀ a ∈ framesOf outer, 781 ≤ a)
    (hR : ∀ h i e t tk, Fly outer [L.d, L.di] e t "ValueError" [.str noEsc tk] s.heap h → R (.error (.ref e)) ⟨h, s.gens, s.drawn, i, s.os⟩) :
    codeAny (model theProg w) A (NX L.lx) R s := by
  refine next_genF OB hA G B he hs hl hfr (fun b c stk ts ln tl tt k t6 h2 i2 eof' l' r' ts' ln' tl' tt' f4' fe' fn' es' nc' hb e => by rw [htok] at e; cases e) (fun b c stk ts ln tl tt k t6 A' R' h2 i2 l' hb _ hdep hh hfr' G2 I2 X hcont => ?_)
  obtain ⟨h₀, g, dr, t₀, os⟩ := s
  obtain ⟨x1, x3, x4, x5, xf0, xf1, xk⟩ := X
  obtain ⟨B1, ⟨ts0, ln0, tl0, tt0, B2⟩, B3, B4, B5, ⟨k0, t60, B6, hd0, hk0⟩⟩ := B
  have l1 : L.lx < h₀.objs.size := Heap.lt_size B1
  have l2 : L.d < h₀.objs.size := Heap.lt_size B2
  have l5 : L.io < h₀.objs.size := Heap.lt_size B5
  have l6 : L.di < h₀.objs.size := Heap.lt_size B6
  have hm781 : 781 ≤ L.lx := OB.high L.lx (by first | trivial | simp)
  have hi781 : ∀ j, 781 ≤ h₀.objs.size + j := fun j => Nat.le_trans hm781 (Nat.le_of_lt (Nat.lt_of_lt_of_le l1 (Nat.le_add_right ..)))
  have ap := OB.apart
  replace ap := ndL' ap
  obtain ⟨⟨a1, a2, a3, a4, a5⟩, ⟨b1, b2, b3, b4⟩, ⟨c1, c2, c3⟩, ⟨d1, d2⟩, e1⟩ := ap
  have OL : (L.call (h₀.objs.size + 2) (t₀ + 5) (t₀ + 6) (t₀ + 8)).Ok := by
    refine ⟨?_, ?_, OB.len⟩
    · refine ndL ?_
      exact ⟨⟨a1, a4, a5, nlt 2 l1⟩, ⟨b3, b4, nlt 2 l2⟩, ⟨e1, nlt 2 l5⟩, nlt 2 l6⟩
    · intro a ha
      replace ha := memL ha
      rcases ha with rfl | rfl | rfl | rfl | rfl
      · exact hm781
      · exact OB.high L.d (by first | trivial | simp)
      · exact OB.high L.io (by first | trivial | simp)
      · exact OB.high L.di (by first | trivial | simp)
      · exact hi781 2
  have hlow : ∀ a ∈ framesOf outer, a < h₀.objs.size := fun a ha => by
    obtain ⟨o, q, _⟩ := hfun.mem ha
    exact Heap.lt_size q
  have hfun2 : FunOk h2 ([envFn w.params 688 (h₀.objs.size + 1), envFn w.params 724 (h₀.objs.size + 0)] ++ outer) := by
    intro env henv
    rcases List.mem_append.mp henv with henv | henv
    · replace henv := memL henv
      rcases henv with rfl | rfl
      · exact ⟨by rw [kind688]; decide, _, _, frame688 _ _, xf1, fun vs q => by cases q⟩
      · exact ⟨by rw [kind724]; decide, _, _, frame724 _ _, xf0, fun vs q => by cases q⟩
    · obtain ⟨p1, La, oa, p2, p3, p4⟩ := hfun env henv
      have hmem : La ∈ framesOf outer := List.mem_filterMap.mpr ⟨env, henv, p2⟩
      obtain ⟨q1, q2⟩ := hapart La hmem
      exact ⟨p1, La, oa, p2, xk La oa p3 q1 q2, p4⟩
  have hframes : ∀ a ∈ framesOf ([envFn w.params 688 (h₀.objs.size + 1), envFn w.params 724 (h₀.objs.size + 0)] ++ outer), a = h₀.objs.size + 1 ∨ a = h₀.objs.size + 0 ∨ a ∈ framesOf outer := by
    intro a ha
    have ha' : a ∈ List.filterMap (·.frame) ([envFn w.params 688 (h₀.objs.size + 1), envFn w.params 724 (h₀.objs.size + 0)] ++ outer) := ha
    rw [List.filterMap_append, List.mem_append] at ha'
    rcases ha' with q | q
    · rw [List.filterMap_cons, frame688, List.filterMap_cons, frame724] at q
      simp only [List.filterMap_nil, List.mem_cons, List.not_mem_nil, or_false] at q
      rcases q with q | q
      · exact .inl q
      · exact .inr (.inl q)
    · exact .inr (.inr q)
  refine while_err (L := L.call (h₀.objs.size + 2) (t₀ + 5) (t₀ + 6) (t₀ + 8)) (s := ⟨h2, g, dr, i2, os⟩) OL G2 (by omega) I2 (hh.trans hh0) hfr' hfun2 (fun a ha => ?_) fun h3 i3 e t tk W => ?_
  · rcases hframes a ha with rfl | rfl | q
    · exact ⟨fun q => nlt 1 l2 q.symm, fun q => nlt 1 l6 q.symm, npl _ 1 2 (by decide)⟩
    · exact ⟨fun q => nlt 0 l2 q.symm, fun q => nlt 0 l6 q.symm, npl _ 0 2 (by decide)⟩
    · exact ⟨(hapart a q).1, (hapart a q).2, nlt 2 (hlow a q)⟩
  obtain ⟨wn, wt, wnt, wk, ws, wthere, oe, vs, T, oT, tsv, q1, ⟨q2, q3⟩, q4, q5, q6, q7, q8, q9, q10⟩ := W
  obtain ⟨cx, dx, dte, sx⟩ := oe
  obtain ⟨cT, dT, dtT, sT⟩ := oT
  simp only at q2 q4 q9
  subst q2 q4 q9
  obtain ⟨vr, hvr⟩ : ∃ vr, vs = ⟨.ref t :: .ref T :: vr⟩ := by
    obtain ⟨vl⟩ := vs
    match vl, q3, q5 with
    | x :: y :: vr, q3, q5 =>
      simp at q3 q5
      exact ⟨vr, by rw [q3, q5]⟩
    | [x], q3, q5 => simp at q5
    | [], q3, q5 => simp at q3
  obtain ⟨z0, z1, z2, zr, hts⟩ : ∃ z0 z1 z2 zr, tsv = ⟨z0 :: z1 :: z2 :: rawInt (h₀.objs.size + 2) :: zr⟩ := by
    obtain ⟨vl⟩ := tsv
    match vl, q10 with
    | x0 :: x1 :: x2 :: x3 :: vr, q10 =>
      simp at q10
      exact ⟨x0, x1, x2, vr, by rw [q10]⟩
    | [x0, x1, x2], q10 => simp at q10
    | [x0, x1], q10 => simp at q10
    | [x0], q10 => simp at q10
    | [], q10 => simp at q10
  subst hvr hts
  have G3 : Gr w h3 := G2.keeps fun b o hlt q => wk b o q (by
    refine nmL ?_
    exact ⟨fun z => absurd hlt (Nat.not_lt.mpr (z ▸ OB.high L.d (by first | trivial | simp))), fun z => absurd hlt (Nat.not_lt.mpr (z ▸ OB.high L.di (by first | trivial | simp))), fun z => absurd hlt (Nat.not_lt.mpr (z ▸ hi781 2))⟩) (fun hm => by
    have hm' : b ∈ List.filterMap (·.frame) (envFn w.params 695 (h₀.objs.size + 2) :: ([envFn w.params 688 (h₀.objs.size + 1), envFn w.params 724 (h₀.objs.size + 0)] ++ outer)) := hm
    rw [List.filterMap_cons, frame695] at hm'
    rcases List.mem_cons.mp hm' with z | z
    · exact absurd hlt (Nat.not_lt.mpr (z ▸ hi781 2))
    · rcases hframes b z with z | z | z
      · exact absurd hlt (Nat.not_lt.mpr (z ▸ hi781 1))
      · exact absurd hlt (Nat.not_lt.mpr (z ▸ hi781 0))
      · exact absurd hlt (Nat.not_lt.mpr (hhi b z)))
  have hnb : ∀ a, h2.get? a = none → ∀ o, (ktb w.params).get a ≠ some o := fun a ha o ho => by
    have q : h2.get? a = some o := base_in G2.inn ho
    rw [ha] at q; cases q
  have O2 := mkOk2 (A := A) (t₀ := i3) (sps := []) (ini := [e, T]) G3 hb (by
    intro a ha
    replace ha := memL ha
    rcases ha with rfl | rfl
    · exact hnb _ wn
    · exact hnb _ q6) (by omega) (fun sp hm => nomatch hm)
  rw [hh0] at O2 hcont
  have D2 := mkHp (h := h3) (own := [(e, wayE (.type "ValueError") dx sx (.ref t) T vr), (T, wayT cT dT sT z0 z1 z2 (rawInt (h₀.objs.size + 2)) zr)]) (by
    intro p hp
    replace hp := memL hp
    rcases hp with rfl | rfl
    · exact q1
    · exact q8) (by
    simp only [List.map_cons, List.map_nil, List.nodup_cons, List.mem_cons, List.not_mem_nil, or_false, List.nodup_nil, and_true, not_false_iff]
    exact fun q => q7 q.symm)
  refine hcont (.error (.ref e)) h3 i3 (cfgH w b c h3 i3 none []) _ _ [1, 1, 3, 3] rfl O2 D2 fun stk2 => ?_
  refine fine_errK hfr (runV1_is w.params b c (fun m => h₀.objs.size + m) (fun i => t₀ + i) _ _ stk stk2 L _ ln tl tt k t6 e T (.type "ValueError") cT dx dT sx sT (.ref t) z0 z1 z2 (rawInt (h₀.objs.size + 2)) vr zr) fun A4 R4 h4 i4 hdep4 hh4 hfr4 hl4 hk4 hcont4 => ?_
  have k34 : ∀ b o, h3.get? b = some o → h4.get? b = some o := fun x o q => by
    by_cases z1 : x = e
    · subst z1; rw [Option.some.inj (q.symm.trans q1)]; exact hl4 (x, _) (by first | trivial | simp)
    · by_cases z2 : x = T
      · subst z2; rw [Option.some.inj (q.symm.trans q8)]; exact hl4 (x, _) (by first | trivial | simp)
      · exact hk4 x o q (by simp [z1, z2])
  have hf695 : framesOf (envFn w.params 695 (h₀.objs.size + 2) :: ([envFn w.params 688 (h₀.objs.size + 1), envFn w.params 724 (h₀.objs.size + 0)] ++ outer)) = (h₀.objs.size + 2) :: framesOf ([envFn w.params 688 (h₀.objs.size + 1), envFn w.params 724 (h₀.objs.size + 0)] ++ outer) := by
    show List.filterMap _ _ = _
    rw [List.filterMap_cons, frame695]
  generalize hBs : hideAll h3 (e :: T :: framesOf ([envFn w.params 688 (h₀.objs.size + 1), envFn w.params 724 (h₀.objs.size + 0)] ++ outer)) = Bs
  have inBs : ∀ b o, h2.get? b = some o → b ≠ L.d → b ≠ L.di → b ≠ h₀.objs.size + 2 → b ∉ framesOf ([envFn w.params 688 (h₀.objs.size + 1), envFn w.params 724 (h₀.objs.size + 0)] ++ outer) → Bs.get? b = some o := by
    intro b o q z1 z2 z3 z4
    rw [← hBs]
    refine hideAll_get _ (wk b o q (by refine nmL ?_; exact ⟨z1, z2, z3⟩) (fun hm => ?_)) (by
      simp only [List.mem_cons, not_or]
      exact ⟨fun z => (by rw [z, wn] at q; cases q), fun z => (by rw [z, q6] at q; cases q), z4⟩)
    have hm2 : b ∈ framesOf (envFn w.params 695 (h₀.objs.size + 2) :: ([envFn w.params 688 (h₀.objs.size + 1), envFn w.params 724 (h₀.objs.size + 0)] ++ outer)) := hm
    rw [hf695] at hm2
    rcases List.mem_cons.mp hm2 with z | z
    · exact z3 z
    · exact z4 z
  have st3 : Bs.StaysIn h3 := by
    intro b o q
    rw [← hBs] at q
    exact of_hideAll _ q
  have GB : ∀ h, Bs.StaysIn h → Gr w h := fun h hst => G2.keeps fun b o hlt q => hst b o (inBs b o q
    (fun z => absurd hlt (Nat.not_lt.mpr (z ▸ OB.high L.d (by first | trivial | simp)))) (fun z => absurd hlt (Nat.not_lt.mpr (z ▸ OB.high L.di (by first | trivial | simp)))) (fun z => absurd hlt (Nat.not_lt.mpr (z ▸ hi781 2))) (fun hm => by
    rcases hframes b hm with z | z | z
    · exact absurd hlt (Nat.not_lt.mpr (z ▸ hi781 1))
    · exact absurd hlt (Nat.not_lt.mpr (z ▸ hi781 0))
    · exact absurd hlt (Nat.not_lt.mpr (hhi b z))))
  have ff4 : h4.FunFrames Bs ([envFn w.params 688 (h₀.objs.size + 1), envFn w.params 724 (h₀.objs.size + 0)] ++ outer) := FunFrames_of fun env henv => by
    obtain ⟨p1, La, oa, p2, p3, p4⟩ := hfun2 env henv
    have hmem : La ∈ framesOf ([envFn w.params 688 (h₀.objs.size + 1), envFn w.params 724 (h₀.objs.size + 0)] ++ outer) := List.mem_filterMap.mpr ⟨env, henv, p2⟩
    have hnot : La ∉ [L.d, L.di, h₀.objs.size + 2] := by
      simp only [List.mem_cons, List.not_mem_nil, or_false, not_or]
      rcases hframes La hmem with rfl | rfl | q
      · exact ⟨fun q => nlt 1 l2 q.symm, fun q => nlt 1 l6 q.symm, npl _ 1 2 (by decide)⟩
      · exact ⟨fun q => nlt 0 l2 q.symm, fun q => nlt 0 l6 q.symm, npl _ 0 2 (by decide)⟩
      · exact ⟨(hapart La q).1, (hapart La q).2, nlt 2 (hlow La q)⟩
    obtain ⟨sl, z⟩ := ws La oa p3 hnot p4
    exact ⟨p1, La, _, p2, by rw [← hBs]; exact hideAll_none _ (List.mem_cons_of_mem _ (List.mem_cons_of_mem _ hmem)), k34 _ _ z, p4⟩
  have noE : Bs.get? e = none := by rw [← hBs]; exact hideAll_none _ (List.mem_cons_self ..)
  have tr4 : h4.TracedAtW Bs e (.type "ValueError") (.ref t) (rawInt (h₀.objs.size + 2)) := ⟨_, _, T, _, _, k34 _ _ q1, ⟨rfl, by simp⟩, rfl, by simp, by rw [← hBs]; exact hideAll_none _ (List.mem_cons_of_mem _ (List.mem_cons_self ..)), q7, k34 _ _ q8, rfl, by simp⟩
  refine wpOwn_of_wpAny ?_
  show wpAny _ (A4.deeper (envFn (fP w.params b c) 695 (h₀.objs.size + 2))) _ _ _ _
  refine leaves_held (s := ⟨h4, g, dr, i4, os⟩) (frame695 _ _) (fun b o q => k34 b o (st3 b o q)) noE ff4 tr4 fun h5 fl5 up5 => ?_
  have O5 := mkOk (A := A) (t₀ := i4) (sps := []) (ini := []) (GB h5 fl5.1) hb (fun _ h => nomatch h) (by omega) (fun sp hm => nomatch hm)
  rw [hh0] at O5
  refine hcont4 (.error (.ref e)) h5 i4 (cfgH w b c h5 i4 none []) [] [] [] rfl O5 (mkHp (own := []) (fun _ h => nomatch h) List.nodup_nil) fun stk5 => ?_
  refine fine_errK hfr (runV2_is w.params b c (fun m => h₀.objs.size + m) (fun i => t₀ + i) _ _ _ _ stk stk2 stk5 L _ ln tl tt k t6 e T (.type "ValueError") cT dx dT sx sT (.ref t) z0 z1 z2 (rawInt (h₀.objs.size + 2)) vr zr) fun A6 R6 h6 i6 hdep6 hh6 hfr6 hl6 hk6 hcont6 => ?_
  have k56 : ∀ b o, h5.get? b = some o → h6.get? b = some o := fun x o q => hk6 x o q (by first | trivial | simp)
  refine wpOwn_of_wpAny ?_
  show wpAny _ (A6.deeper (envFn (fP w.params b c) 688 (h₀.objs.size + 1))) _ _ _ _
  refine wpAny_leaves_onW (s := ⟨h6, g, dr, i6, os⟩) (Around.frames_deeper hfr6) (frame688 _ _) (by rw [hb]; exact flyW_keeps k56 fl5) fun h7 fl7 up7 => ?_
  have O7 := mkOk (A := A) (t₀ := i6) (sps := []) (ini := []) (GB h7 fl7.1) hb (fun _ h => nomatch h) (by omega) (fun sp hm => nomatch hm)
  rw [hh0] at O7
  refine hcont6 (.error (.ref e)) h7 i6 (cfgH w b c h7 i6 none []) [] [] [] rfl O7 (mkHp (own := []) (fun _ h => nomatch h) List.nodup_nil) fun stk7 => ?_
  refine fine_err (runV3_is w.params b c (fun m => h₀.objs.size + m) (fun i => t₀ + i) _ _ _ _ _ _ stk stk2 stk5 stk7 L _ ln tl tt k t6 e T (.type "ValueError") cT dx dT sx sT (.ref t) z0 z1 z2 (rawInt (h₀.objs.size + 2)) vr zr) fun h8 i8 hl8 hk8 => ?_
  have k78 : ∀ b o, h7.get? b = some o → h8.get? b = some o := fun x o q => hk8 x o q (by first | trivial | simp)
  refine wpOwn_of_wpAny ?_
  show wpAny _ (A.deeper (envFn (fP w.params b c) 724 (h₀.objs.size + 0))) _ _ _ _
  refine wpAny_leaves_onW (s := ⟨h8, g, dr, i8, os⟩) (Around.frames_deeper hfr) (frame724 _ _) (flyW_keeps k78 fl7) fun h9 fl9 up9 => ?_
  have upAll : h3.UpToSlots h9 := (Heap.UpToSlots.of_keeps k34).trans (up5.trans ((Heap.UpToSlots.of_keeps k56).trans (up7.trans ((Heap.UpToSlots.of_keeps k78).trans up9))))
  have newOf : ∀ a, h2.get? a = none → h₀.get? a = none := by
    intro a ha
    cases q : h₀.get? a with
    | none => rfl
    | some o =>
      by_cases z1 : a = L.d
      · obtain ⟨ts', ln', tl', tt', k', t6', f4, es, fe, nc, fn, X, _⟩ := I2
        have := X.d; rw [← z1] at this; rw [this] at ha; cases ha
      · by_cases z2 : a = L.di
        · obtain ⟨ts', ln', tl', tt', k', t6', f4, es, fe, nc, fn, X, _⟩ := I2
          have := X.di; rw [← z2] at this; rw [this] at ha; cases ha
        · have := xk a o q z1 z2; rw [this] at ha; cases ha
  refine hR h9 i8 e t tk ⟨newOf e wn, newOf t wnt, Heap.TupAt.of_slots ⟨_, _, wt, rfl, rfl⟩ upAll, ⟨fun x o q y1 y2 => ?_, fun x o q y1 y2 => ?_⟩, ?_, ?_⟩
  · replace y1 := noL y1
    have q' : h₀.get? x = some o := q
    refine fl9.1 x o (inBs x o (xk x o q y1.1 y1.2) y1.1 y1.2 (nlt 2 (Heap.lt_size q')) fun hm => ?_)
    rcases hframes x hm with z | z | z
    · exact nlt 1 (Heap.lt_size q') z
    · exact nlt 0 (Heap.lt_size q') z
    · exact y2 z
  · replace y1 := noL y1
    have q' : h₀.get? x = some o := q
    obtain ⟨sl, z⟩ := ws x o (xk x o q y1.1 y1.2) (by refine nmL ?_; exact ⟨y1.1, y1.2, nlt 2 (Heap.lt_size q')⟩) y2
    exact upAll x { o with slots := sl } z y2
  · obtain ⟨oe', vs', T', oT', ts', p1, p2, p3, p4, p5, p6⟩ := fl9.2.2.2
    refine ⟨oe', vs', T', oT', ts', p1, p2, p3, p4, ?_, p6⟩
    cases q : h₀.get? T' with
    | none => rfl
    | some o =>
      exfalso
      have hlt : T' < h₀.objs.size := Heap.lt_size q
      have there3 : ∃ o', h3.get? T' = some o' := by
        by_cases z1 : T' = L.d
        · exact wthere T' (by simp [z1]) (fun z => nlt 2 hlt z)
        · by_cases z2 : T' = L.di
          · exact wthere T' (by simp [z2]) (fun z => nlt 2 hlt z)
          · by_cases z3 : T' ∈ framesOf outer
            · obtain ⟨o2, u1, u2⟩ := hfun.mem z3
              obtain ⟨sl, z⟩ := ws T' o2 (xk T' o2 u1 z1 z2) (by refine nmL ?_; exact ⟨z1, z2, nlt 2 hlt⟩) u2
              exact ⟨_, z⟩
            · exact ⟨o, st3 T' o (inBs T' o (xk T' o q z1 z2) z1 z2 (nlt 2 hlt) fun hm => by
                rcases hframes T' hm with z | z | z
                · exact nlt 1 hlt z
                · exact nlt 0 hlt z
                · exact z3 z)⟩
      obtain ⟨o', z⟩ := there3
      have hT : T' ≠ T := fun y => by rw [y, newOf T q6] at q; cases q
      by_cases z3 : T' ∈ framesOf outer
      · obtain ⟨_, o2, u1, u2⟩ := fl9.2.2.1.mem z3
        have : o2 = oT' := Option.some.inj (u1.symm.trans p6.2.1)
        exact u2 ts' (this ▸ p6.2.2.1)
      · rw [← hBs] at p5
        rw [hideAll_get _ z (by
          simp only [List.mem_cons, not_or]
          refine ⟨p6.1, hT, fun hm => ?_⟩
          rcases hframes T' hm with y | y | y
          · exact nlt 1 hlt y
          · exact nlt 0 hlt y
          · exact z3 y)] at p5
        cases p5
  · intro a ha o q
    have hlt : a < h₀.objs.size := Heap.lt_size (show h₀.get? a = some o from q)
    have ha' : a = L.d ∨ a = L.di := by simpa using ha
    obtain ⟨o', z⟩ := wthere a (by rcases ha' with z | z <;> simp [z]) (fun z => nlt 2 hlt z)
    refine ⟨o', fl9.1 a o' ?_⟩
    rw [← hBs]
    refine hideAll_get _ z ?_
    have q' : h₀.get? a = some o := q
    simp only [List.mem_cons, not_or]
    refine ⟨fun y => ?_, fun y => ?_, fun hm => ?_⟩
    · rw [y, newOf e wn] at q'; cases q'
    · rw [y, newOf T q6] at q'; cases q'
    · rcases hframes a hm with y | y | y
      · exact nlt 1 hlt y
      · exact nlt 0 hlt y
      · rcases ha' with y2 | y2
        · exact (hapart a y).1 y2
        · exact (hapart a y).2 y2
end
end
section
set_option linter.unusedSimpArgs false
/-- all the words, from a state of the lexer -/
noncomputable def wordsF : LS → List Nat → List Nat → Option (List (List Nat))
  | .S, _, [] => some []
  | .S, _, c :: r => if isWs c then wordsF .S [] r else if c == 92 then wordsF .B [] r else wordsF .A [c] r
  | .A, l, [] => some [l]
  | .A, l, c :: r => if isWs c then (wordsF .S [] r).map (l :: ·) else if c == 92 then wordsF .B l r else wordsF .A (l ++ [c]) r
  | .B, _, [] => none
  | .B, l, c :: r => wordsF .A (l ++ [c]) r
noncomputable def allF (eof : Bool) (rem : List Nat) : Option (List (List Nat)) := if eof then some [] else wordsF .S [] rem
noncomputable def TokOk (n : Nat) (rem : List Nat) (o : Option (Bool × List Nat × List Nat)) (ws : Option (List (List Nat))) : Prop := match o with
  | none => ws = none
  | some (eof, [], r) => eof = true ∧ r = [] ∧ ws = some []
  | some (eof, c :: l', r) => ws = (allF eof r).map ((c :: l') :: ·) ∧ r.length + (cond eof 0 1) < n ∧ (eof = true → r = []) ∧ ∀ y ∈ r, y ∈ rem
theorem TokOk.more {n c : Nat} {rem : List Nat} {o : Option (Bool × List Nat × List Nat)} {ws : Option (List (List Nat))} (h : TokOk n rem o ws) : TokOk (n + 1) (c :: rem) o ws := by
  unfold TokOk at h ⊢
  split at h <;> try exact h
  exact ⟨h.1, by omega, h.2.2.1, fun y hy => List.mem_cons_of_mem _ (h.2.2.2 y hy)⟩
theorem loopF_words : ∀ (rem : List Nat) (x : LS) (l : List Nat), (x = .A → l ≠ []) → TokOk (rem.length + 1) rem (loopF x l rem) (wordsF x l rem)
  | [], .S, l, _ => ⟨rfl, rfl, rfl⟩
  | [], .A, l, h => by
    cases l with
    | nil => exact absurd rfl (h rfl)
    | cons c l' => exact ⟨rfl, by simp, fun _ => rfl, fun _ h => h⟩
  | [], .B, l, _ => rfl
  | c :: r, .S, l, _ => by
    simp only [loopF, wordsF]
    by_cases h1 : isWs c = true
    · rw [if_pos h1, if_pos h1]; exact (loopF_words r .S [] (by intro h; cases h)).more
    · rw [if_neg h1, if_neg h1]
      by_cases h2 : (c == 92) = true
      · rw [if_pos h2, if_pos h2]; exact (loopF_words r .B [] (by intro h; cases h)).more
      · rw [if_neg h2, if_neg h2]; exact (loopF_words r .A [c] (by intro _ h; cases h)).more
  | c :: r, .A, l, h => by
    cases l with
    | nil => exact absurd rfl (h rfl)
    | cons c0 l' =>
    simp only [loopF, wordsF]
    by_cases h1 : isWs c = true
    · rw [if_pos h1, if_pos h1]
      exact ⟨rfl, by simp, (by intro q; cases q), fun y hy => List.mem_cons_of_mem _ hy⟩
    · rw [if_neg h1, if_neg h1]
      by_cases h2 : (c == 92) = true
      · rw [if_pos h2, if_pos h2]; exact (loopF_words r .B _ (by intro h; cases h)).more
      · rw [if_neg h2, if_neg h2]; exact (loopF_words r .A _ (by intro _ h; cases h)).more
  | c :: r, .B, l, _ => by
    simp only [loopF, wordsF]
    exact (loopF_words r .A _ (by intro _ h; simp at h)).more
/-- one call of __next__ and the words that are left -/
theorem tokF_all (eof : Bool) (rem : List Nat) : TokOk (rem.length + cond eof 0 1) rem (tokF eof rem) (allF eof rem) := by
  cases eof with
  | true => exact ⟨rfl, rfl, rfl⟩
  | false => exact loopF_words rem .S [] (by intro h; cases h)
/-! what is due -/
noncomputable def flipF (i : Bool) (c : Nat) : Bool := if c == 92 then !i else false
noncomputable def finF : Bool → List Nat → Bool
  | i, [] => i
  | i, c :: r => finF (flipF i c) r
noncomputable def dueTurn (sent itself : Bool) (ahead : Option Nat) (c : Nat) (d : List (List Nat)) (cur : List Nat) : List (List Nat) × List Nat :=
  if sent && (c == 13 || c == 10) then
    if c == 13 || ahead != some 13 then (d ++ [cur ++ (if itself then [13] else [])], []) else (d, cur)
  else if sent && c == 46 && (ahead == none || ahead == some 13 || ahead == some 10) then (d, cur ++ [46, 46])
  else if itself || c == 46 || c == 97 then (d, cur ++ [c])
  else if c != 92 then (d ++ [cur], [])
  else (d, cur)
noncomputable def nonE (d : List (List Nat)) : List (List Nat) := d.filter (fun l => !l.isEmpty)
noncomputable def dueGo (sent : Bool) : Bool → Option Nat → List Nat → List (List Nat) → List Nat → List (List Nat)
  | _, _, [], d, cur => nonE (d ++ [cur])
  | i, a, c :: r, d, cur => dueGo sent (flipF i c) (some c) r (dueTurn sent i a c d cur).1 (dueTurn sent i a c d cur).2
noncomputable def dueF (sent : Bool) (text : List Nat) : Option (List (List Nat)) := cond (finF false text) none (some (dueGo sent false none text [] []))
theorem dueTurn_d (sent i : Bool) (a : Option Nat) (c : Nat) (d : List (List Nat)) (cur : List Nat) :
    dueTurn sent i a c d cur = (d ++ (dueTurn sent i a c [] cur).1, (dueTurn sent i a c [] cur).2) := by
  unfold dueTurn
  repeat' split
  all_goals simp
theorem nonE_append (a b : List (List Nat)) : nonE (a ++ b) = nonE a ++ nonE b := List.filter_append ..
theorem dueGo_d (sent : Bool) : ∀ (r : List Nat) (i : Bool) (a : Option Nat) (d : List (List Nat)) (cur : List Nat), dueGo sent i a r d cur = nonE d ++ dueGo sent i a r [] cur
  | [], i, a, d, cur => by simp [dueGo, nonE_append]
  | c :: r, i, a, d, cur => by
    simp only [dueGo]
    rw [dueTurn_d sent i a c d cur]
    rw [dueGo_d sent r _ _ (d ++ _) _, dueGo_d sent r _ _ (dueTurn sent i a c [] cur).1 _, nonE_append, List.append_assoc]
noncomputable def stB : LS → Bool
  | .B => true
  | _ => false
noncomputable def okL : LS → List Nat → Prop
  | .S, l => l = []
  | .A, l => l ≠ []
  | .B, _ => True
theorem due_nil {s b : Bool} {r : List Nat} {i : Bool} {a : Option Nat} {cur : List Nat} : cond b none (some (dueGo s i a r [] cur)) = cond b none (some (dueGo s i a r [[]] cur)) := by
  rw [dueGo_d s r i a [[]]]; rfl
theorem due_one {s b : Bool} {r : List Nat} {i : Bool} {a : Option Nat} {cur : List Nat} {c0 : Nat} {l : List Nat} : (cond b none (some (dueGo s i a r [] cur))).map ((c0 :: l) :: ·) = cond b none (some (dueGo s i a r [c0 :: l] cur)) := by
  rw [dueGo_d s r i a [c0 :: l]]; cases b <;> rfl
theorem due_end {s b : Bool} {r : List Nat} {i : Bool} {a : Option Nat} {cur : List Nat} {c0 : Nat} {l : List Nat} : (cond b none (some (dueGo s i a r [] cur))).map ((l ++ [c0]) :: ·) = cond b none (some (dueGo s i a r [l ++ [c0]] cur)) := by
  cases l <;> exact due_one
theorem ap_ne (l : List Nat) (c : Nat) : l ++ [c] ≠ [] := by cases l <;> exact fun h => nomatch h
/-- split as it stands -/
theorem words_due : ∀ (r : List Nat) (x : LS) (l : List Nat) (a : Option Nat), (∀ c ∈ r, isSign c) → okL x l →
    wordsF x l r = cond (finF (stB x) r) none (some (dueGo false (stB x) a r [] l))
  | [], .S, l, a, _, h => by subst h; rfl
  | [], .A, l, a, _, h => by
    cases l with
    | nil => exact absurd rfl h
    | cons c l => rfl
  | [], .B, l, a, _, _ => rfl
  | c :: r, x, l, a, hs, h => by
    have hs' : ∀ c ∈ r, isSign c := fun y hy => hs y (List.mem_cons_of_mem _ hy)
    have hc : isSign c := hs c (List.mem_cons_self ..)
    have iS := words_due r .S [] (some c) hs' rfl
    have iB := fun l => words_due r .B l (some c) hs' trivial
    have iA := fun l (q : l ≠ []) => words_due r .A l (some c) hs' q
    cases x with
    | S =>
      subst h
      rcases hc with rfl | rfl | rfl | rfl | rfl | rfl
      · exact iB []
      · exact iS.trans due_nil
      · exact iS.trans due_nil
      · exact iA [46] (fun q => nomatch q)
      · exact iA [97] (fun q => nomatch q)
      · exact iS.trans due_nil
    | A =>
      cases l with
      | nil => exact absurd rfl h
      | cons c0 l =>
      rcases hc with rfl | rfl | rfl | rfl | rfl | rfl
      · exact iB (c0 :: l)
      · exact (congrArg (Option.map ((c0 :: l) :: ·)) iS).trans due_one
      · exact (congrArg (Option.map ((c0 :: l) :: ·)) iS).trans due_one
      · exact iA (c0 :: (l ++ [46])) (fun q => nomatch q)
      · exact iA (c0 :: (l ++ [97])) (fun q => nomatch q)
      · exact (congrArg (Option.map ((c0 :: l) :: ·)) iS).trans due_one
    | B =>
      have i2 := iA (l ++ [c]) (ap_ne l c)
      rcases hc with rfl | rfl | rfl | rfl | rfl | rfl <;> exact i2
/-! quotedata -/
noncomputable def crlfF : Bool → List Nat → List Nat
  | _, [] => []
  | cr, c :: r => if c == 13 then 13 :: 10 :: crlfF true r else if c == 10 then (if cr then crlfF false r else 13 :: 10 :: crlfF false r) else c :: crlfF false r
noncomputable def dotF : Bool → List Nat → List Nat
  | _, [] => []
  | b, c :: r => if b && c == 46 then 46 :: 46 :: dotF false r else c :: dotF (c == 10) r
noncomputable def quoteF (text : List Nat) : List Nat := dotF true (crlfF false text)
noncomputable def bolF (a : Option Nat) : Bool := a == none || a == some 13 || a == some 10
theorem words_sent : ∀ (r : List Nat) (x : LS) (l : List Nat) (a : Option Nat), (∀ c ∈ r, isSign c) → okL x l → (bolF a = true → x = .S) →
    wordsF x l (dotF (bolF a) (crlfF (a == some 13) r)) = cond (finF (stB x) r) none (some (dueGo true (stB x) a r [] l))
  | [], .S, l, a, _, h, _ => by subst h; rfl
  | [], .A, l, a, _, h, _ => by
    cases l with
    | nil => exact absurd rfl h
    | cons c l => rfl
  | [], .B, l, a, _, _, _ => rfl
  | c :: r, x, l, a, hs, h, hb => by
    have hs' : ∀ c ∈ r, isSign c := fun y hy => hs y (List.mem_cons_of_mem _ hy)
    have hc : isSign c := hs c (List.mem_cons_self ..)
    have iS := words_sent r .S [] (some c) hs' rfl (fun _ => rfl)
    have iA := fun l (q : l ≠ []) (z : bolF (some c) = false) => words_sent r .A l (some c) hs' q (fun y => nomatch z.symm.trans y)
    have iB := fun l (z : bolF (some c) = false) => words_sent r .B l (some c) hs' trivial (fun y => nomatch z.symm.trans y)
    cases x with
    | S =>
      subst h
      rcases hc with rfl | rfl | rfl | rfl | rfl | rfl
      · cases bolF a <;> exact iB [] rfl
      · cases bolF a <;> exact iS.trans due_nil
      · cases q : (a == some 13) with
        | true =>
          rw [beq_iff_eq] at q
          subst q
          exact iS
        | false =>
          have e : dueTurn true false a 10 [] [] = ([[]], []) := by simp only [dueTurn, bne, q]; rfl
          have z : dueGo true false a (10 :: r) [] [] = dueGo true false (some 10) r [[]] [] := by rw [dueGo, e]; rfl
          show _ = cond _ none (some (dueGo true false a (10 :: r) [] []))
          rw [z]
          cases bolF a <;> exact iS.trans due_nil
      · have z : dueGo true false a (46 :: r) [] [] = dueGo true false (some 46) r [] (cond (bolF a) [46, 46] [46]) := by
          rw [dueGo, show dueTurn true false a 46 [] [] = ([], cond (bolF a) [46, 46] [46]) from by
            show (if (bolF a) = true then _ else _) = _
            cases bolF a <;> rfl]
          rfl
        show _ = cond _ none (some (dueGo true false a (46 :: r) [] []))
        rw [z]
        cases bolF a
        · exact iA [46] (fun q => nomatch q) rfl
        · exact iA [46, 46] (fun q => nomatch q) rfl
      · cases bolF a <;> exact iA [97] (fun q => nomatch q) rfl
      · cases bolF a <;> exact iS.trans due_nil
    | A =>
      have hbf : bolF a = false := by
        cases q : bolF a with
        | false => rfl
        | true => cases hb q
      obtain ⟨h1, h3⟩ := Bool.or_eq_false_iff.mp hbf
      have h2 := (Bool.or_eq_false_iff.mp h1).2
      rw [hbf]
      cases l with
      | nil => exact absurd rfl h
      | cons c0 l =>
      rcases hc with rfl | rfl | rfl | rfl | rfl | rfl
      · exact iB (c0 :: l) rfl
      · have z : dueGo true false a (13 :: r) [] (c0 :: l) = dueGo true false (some 13) r [c0 :: l] [] := by
          show dueGo true false (some 13) r ([] ++ [(c0 :: l) ++ []]) [] = _
          rw [List.append_nil]; rfl
        show _ = cond _ none (some (dueGo true false a (13 :: r) [] (c0 :: l)))
        rw [z]
        exact (congrArg (Option.map ((c0 :: l) :: ·)) iS).trans due_one
      · have e : dueTurn true false a 10 [] (c0 :: l) = ([c0 :: l], []) := by simp only [dueTurn, bne, h2]; show ([] ++ [(c0 :: l) ++ []], _) = _; rw [List.append_nil]; rfl
        have z : dueGo true false a (10 :: r) [] (c0 :: l) = dueGo true false (some 10) r [c0 :: l] [] := by rw [dueGo, e]; rfl
        show _ = cond _ none (some (dueGo true false a (10 :: r) [] (c0 :: l)))
        rw [z, h2]
        exact (congrArg (Option.map ((c0 :: l) :: ·)) iS).trans due_one
      · have z : dueGo true false a (46 :: r) [] (c0 :: l) = dueGo true false (some 46) r [] (c0 :: (l ++ [46])) := by
          rw [dueGo, show dueTurn true false a 46 [] (c0 :: l) = ([], c0 :: (l ++ [46])) from by
            show (if (bolF a) = true then _ else _) = _
            rw [hbf]; rfl]
          rfl
        show _ = cond _ none (some (dueGo true false a (46 :: r) [] (c0 :: l)))
        rw [z]
        exact iA (c0 :: (l ++ [46])) (fun q => nomatch q) rfl
      · exact iA (c0 :: (l ++ [97])) (fun q => nomatch q) rfl
      · exact (congrArg (Option.map ((c0 :: l) :: ·)) iS).trans due_one
    | B =>
      have hbf : bolF a = false := by
        cases q : bolF a with
        | false => rfl
        | true => cases hb q
      obtain ⟨h1, h3⟩ := Bool.or_eq_false_iff.mp hbf
      have h2 := (Bool.or_eq_false_iff.mp h1).2
      rw [hbf]
      rcases hc with rfl | rfl | rfl | rfl | rfl | rfl
      · exact iA (l ++ [92]) (ap_ne l _) rfl
      · exact (congrArg (Option.map ((l ++ [13]) :: ·)) iS).trans due_end
      · have e : dueTurn true true a 10 [] l = ([l ++ [13]], []) := by simp only [dueTurn, bne, h2]; rfl
        have z : dueGo true true a (10 :: r) [] l = dueGo true false (some 10) r [l ++ [13]] [] := by rw [dueGo, e]; rfl
        show _ = cond _ none (some (dueGo true true a (10 :: r) [] l))
        rw [z, h2]
        exact (congrArg (Option.map ((l ++ [13]) :: ·)) iS).trans due_end
      · have z : dueGo true true a (46 :: r) [] l = dueGo true false (some 46) r [] (l ++ [46]) := by
          rw [dueGo, show dueTurn true true a 46 [] l = ([], l ++ [46]) from by
            show (if (bolF a) = true then _ else _) = _
            rw [hbf]; rfl]
          rfl
        show _ = cond _ none (some (dueGo true true a (46 :: r) [] l))
        rw [z]
        exact iA (l ++ [46]) (ap_ne l _) rfl
      · exact iA (l ++ [97]) (ap_ne l _) rfl
      · exact iA (l ++ [32]) (ap_ne l _) rfl
/-- the plain law -/
theorem heard_due (text : List Nat) (hs : ∀ c ∈ text, isSign c) : allF false text = dueF false text ∧ allF false (quoteF text) = dueF true text :=
  ⟨words_due text .S [] none hs rfl, words_sent text .S [] none hs rfl (fun _ => rfl)⟩
end
section
theorem UpTo.trans {outer : List Env} {but : List Addr} {h h1 h2 : Heap} (x : UpTo outer but h h1) (y : UpTo outer but h1 h2) : UpTo outer but h h2 :=
  ⟨fun b o q z1 z2 => y.keep b o (x.keep b o q z1 z2) z1 z2, fun b o q z1 z2 => by
    obtain ⟨sl, q'⟩ := x.slots b o q z1 z2
    exact y.slots b { o with slots := sl } q' z1 z2⟩
theorem UpTo.of_keep {outer : List Env} {but : List Addr} {h h1 : Heap} (k : ∀ b o, h.get? b = some o → b ∉ but → h1.get? b = some o) : UpTo outer but h h1 :=
  ⟨fun b o q z1 _ => k b o q z1, fun b o q z1 _ => ⟨o.slots, k b o q z1⟩⟩
theorem UpTo.mono {outer : List Env} {but but' : List Addr} {h h1 : Heap} (x : UpTo outer but h h1) (hb : ∀ a ∈ but, a ∈ but') : UpTo outer but' h h1 :=
  ⟨fun b o q z1 z2 => x.keep b o q (fun z => z1 (hb b z)) z2, fun b o q z1 z2 => x.slots b o q (fun z => z1 (hb b z)) z2⟩
theorem UpTo.fun {outer : List Env} {but : List Addr} {h h1 : Heap} (x : UpTo outer but h h1) (F : FunOk h outer) (hb : ∀ a ∈ framesOf outer, a ∉ but) : FunOk h1 outer := fun env henv => by
  obtain ⟨p1, La, oa, p2, p3, p4⟩ := F env henv
  have hmem : La ∈ framesOf outer := List.mem_filterMap.mpr ⟨env, henv, p2⟩
  obtain ⟨sl, q⟩ := x.slots La oa p3 (hb La hmem) p4
  exact ⟨p1, La, _, p2, q, p4⟩
theorem UpTo.new {outer : List Env} {but : List Addr} {h h1 : Heap} {e : Addr} (x : UpTo outer but h h1) (hthere : ∀ a ∈ but, ∃ o, h1.get? a = some o) (F : FunOk h1 outer) (he : h1.get? e = none) : h.get? e = none := by
  cases q : h.get? e with
  | none => rfl
  | some o =>
    by_cases z1 : e ∈ but
    · obtain ⟨o', z⟩ := hthere e z1; rw [he] at z; cases z
    · by_cases z2 : e ∈ framesOf outer
      · obtain ⟨o', z, _⟩ := F.mem z2; rw [he] at z; cases z
      · have := x.keep e o q z1 z2; rw [he] at this; cases this
theorem Fly.pre {outer : List Env} {but : List Addr} {e t : Addr} {cls : String} {args : List Value} {h h1 h2 : Heap} (x : UpTo outer but h h1) (hthere : ∀ a ∈ but, ∃ o, h1.get? a = some o) (F : FunOk h1 outer) (y : Fly outer but e t cls args h1 h2) : Fly outer but e t cls args h h2 := by
  refine ⟨x.new hthere F y.new, x.new hthere F y.newT, y.tup, x.trans y.up, ?_, ?_⟩
  obtain ⟨oe, vs, T, oT, ts, p1, p2, p3, p4, p5, p6⟩ := y.tr
  · exact ⟨oe, vs, T, oT, ts, p1, p2, p3, p4, x.new hthere F p5, p6⟩
  · intro a ha o q
    obtain ⟨o', z⟩ := hthere a ha
    exact y.there a ha o' z
theorem Fly.mono {outer : List Env} {but but' : List Addr} {e t : Addr} {cls : String} {args : List Value} {h h' : Heap} (y : Fly outer but e t cls args h h') (hb : ∀ a ∈ but, a ∈ but') (hf : ∀ a ∈ but', a ∉ framesOf outer) : Fly outer but' e t cls args h h' :=
  ⟨y.new, y.newT, y.tup, y.up.mono hb, y.tr, fun a ha o q => by
    by_cases z : a ∈ but
    · exact y.there a z o q
    · exact ⟨o, y.up.keep a o q z (hf a ha)⟩⟩
theorem UpTo.gr {w : World} {outer : List Env} {but : List Addr} {h h1 : Heap} (x : UpTo outer but h h1) (G : Gr w h) (hb : ∀ a ∈ but, 781 ≤ a) (hf : ∀ a ∈ framesOf outer, 781 ≤ a) : Gr w h1 :=
  G.keeps fun b o hlt q => x.keep b o q (fun z => absurd hlt (Nat.not_lt.mpr (hb b z))) (fun z => absurd hlt (Nat.not_lt.mpr (hf b z)))
/-- values that are the texts ws -/
noncomputable def StrsAre : List Value → List (List Nat) → Prop
  | [], [] => True
  | v :: vs, w :: ws => (∃ t, v = .str ⟨⟨w⟩⟩ t) ∧ StrsAre vs ws
  | _, _ => False
theorem StrsAre.length : ∀ {vs : List Value} {ws : List (List Nat)}, StrsAre vs ws → vs.length = ws.length
  | [], [], _ => rfl
  | _ :: _, _ :: _, h => congrArg (· + 1) (StrsAre.length h.2)
  | [], _ :: _, h => h.elim
  | _ :: _, [], h => h.elim
theorem StrsAre.append : ∀ {vs vs' : List Value} {ws ws' : List (List Nat)}, StrsAre vs ws → StrsAre vs' ws' → StrsAre (vs ++ vs') (ws ++ ws')
  | [], _, [], _, _, h => h
  | _ :: _, _, _ :: _, _, h, h' => ⟨h.1, StrsAre.append h.2 h'⟩
  | [], _, _ :: _, _, h, _ => h.elim
  | _ :: _, _, [], _, h, _ => h.elim
noncomputable abbrev listO (xs : List Value) (c : Nat) : Obj := { cls := .type "list", data := .seq xs.toArray c }
theorem mapSeq_push (acc : List Value) (c : Nat) (v : Value) : Obj.mapSeq (·.push v) (listO acc c) = listO (acc ++ [v]) (c + 1) := by
  simp [Obj.mapSeq]
theorem sub_val_stop : isSubtype (.type "ValueError") (.type "StopIteration") = pure false := by rw [isSubtype_type]; kernel_rfl
theorem find_next (P : Params) : findIn (K0 P) (.ref 727) (Str.ofString "__next__") = some (some (.ref 724)) := by kernel_rfl
theorem fn_724 (P : Params) : typeIn (K0 P) (.ref 724) = some (.type "function") := by kernel_rfl
section
variable {w : World} {R : Result → Shared → Prop} {L : LX}
theorem ext_loop {A : Around} (OB : L.OkB) (hA : A.depth + 180 ≤ recursionLimit) (hh0 : A.handled = none) {outer : List Env} (hfr : A.frames = some outer) {S : Addr} (hS7 : 781 ≤ S) (hSL : S ∉ [L.lx, L.d, L.pb, L.fs, L.io, L.di]) (hSo : S ∉ framesOf outer)
    (hapart : ∀ a ∈ framesOf outer, a ∉ [L.lx, L.d, L.pb, L.fs, L.io, L.di]) (hhi : ∀ a ∈ framesOf outer, 781 ≤ a) (res : Value) :
    ∀ (n : Nat) (eof : Bool) (rem : List Nat) (s : Shared) (acc : List Value) (c : Nat), rem.length + cond eof 0 1 ≤ n → Gr w s.heap → LexB w L eof rem s.heap → (eof = true → rem = []) → (∀ x ∈ rem, isSign x) → rem.length < 1700 → FunOk s.heap outer →
    s.heap.get? S = some (listO acc c) → acc.length + n < 3000 →
    (∀ ws, allF eof rem = some ws → ∀ h i acc' c', StrsAre acc' ws → h.get? S = some (listO (acc ++ acc') c') → UpTo outer [S, L.d, L.di] s.heap h → R (.ok (.ret res)) ⟨h, s.gens, s.drawn, i, s.os⟩) →
    (allF eof rem = none → ∀ h i e t tk, Fly outer [S, L.d, L.di] e t "ValueError" [.str noEsc tk] s.heap h → R (.error (.ref e)) ⟨h, s.gens, s.drawn, i, s.os⟩) →
    codeAny (model theProg w) A (.builtin "list.extend.loop" ⟨[.ref S, .ref L.lx, res], []⟩) R s := by
  have hS3 : S ≠ L.lx ∧ S ≠ L.d ∧ S ≠ L.pb ∧ S ≠ L.fs ∧ S ≠ L.io ∧ S ≠ L.di := by
    replace hSL := noL hSL; exact hSL
  have hap2 : ∀ a ∈ framesOf outer, a ≠ L.d ∧ a ≠ L.di := fun a ha => by
    have := hapart a ha
    replace this := noL this
    exact ⟨this.2.1, this.2.2.2.2.2⟩
  have hfb : ∀ a ∈ framesOf outer, a ∉ [S, L.d, L.di] := fun a ha => by
    refine nmL ?_
    exact ⟨fun z => hSo (z ▸ ha), (hap2 a ha).1, (hap2 a ha).2⟩
  have ap := OB.apart
  replace ap := ndL' ap
  obtain ⟨⟨a1, a2, a3, a4, a5⟩, ⟨b1, b2, b3, b4⟩, ⟨c1, c2, c3⟩, ⟨d1, d2⟩, e1⟩ := ap
  intro n
  induction n using Nat.strongRecOn with
  | ind n ih =>
    intro eof rem s acc c hn G B he hs hl F hS hac hR hE
    obtain ⟨h₀, g, dr, t₀, os⟩ := s
    obtain ⟨B1, ⟨ts, ln, tl, tt, B2⟩, B3, B4, B5, ⟨k, t6, B6, hd, hk⟩⟩ := id B
    refine codeAny_builtin PySem.F.entry_extend_loop ?_
    rw [Around.under_plainId PySem.F.plain_extend_loop _]
    show wpAny _ A.in1 (pyNext (.ref L.lx) >>= _) _ _ _
    refine wpAny_bind ?_
    unfold pyNext
    have I : InstAt h₀ L.lx (instObj 727 L.d) 727 (some (lexD w.params L (if eof then .none else .str ⟨#[32]⟩ ts) ln tl ⟨⟨[]⟩⟩ tt)) := ⟨B1, rfl, rfl, B2⟩
    refine wpAny_bind (wpAny_attempt (special_fn (K := Mine.K0 w.params) (args := []) G.inn I (find_next _) (fn_724 _) (wpAny_call ?_)))
    have hA1 : A.in1.depth + 180 ≤ recursionLimit := hA
    have tok := tokF_all eof rem
    generalize htok : tokF eof rem = tk at tok
    match tk, tok with
    | none, tok =>
      have tok' : allF eof rem = none := tok
      refine next_err (A := A.in1) OB hA1 G B he hs hl htok hh0 hfr F hap2 hhi fun h i e t tk' X => ?_
      show wpAny _ A.in1 (isInstance (.ref e) (.type "StopIteration") >>= _) _ _ _
      obtain ⟨oe, vs, T, oT, tsv, p1, p2, _⟩ := X.tr
      refine wpAny_bind (wpAny_isInstance (T := "ValueError") ⟨oe, p1, p2.1⟩ sub_val_stop ?_)
      rw [if_neg (by decide)]
      exact wpAny_throw (hE tok' h i e t tk' (X.mono (by first | trivial | simp) (fun a ha hm => hfb a hm ha)))
    | some (eof', [], r'), tok =>
      obtain ⟨q1, q2, q3⟩ := tok
      subst q1 q2
      refine next_stop (A := A.in1) OB hA1 G B he hs hl htok hh0 hfr F hap2 fun h i e hnew hcls U => ?_
      show wpAny _ A.in1 (isInstance (.ref e) (.type "StopIteration") >>= _) _ _ _
      refine wpAny_bind (wpAny_isInstance (T := "StopIteration") hcls PySem.isSubtype_stop ?_)
      rw [if_pos rfl]
      refine wpAny_pure ?_
      refine wpAny_pure ?_
      obtain ⟨sl, hS'⟩ := U.slots S _ hS (by refine nmL ?_; exact ⟨hS3.2.1, hS3.2.2.2.2.2⟩) (fun vs q => by cases q)
      have hS2 := U.keep S _ hS (by refine nmL ?_; exact ⟨hS3.2.1, hS3.2.2.2.2.2⟩) hSo
      exact hR [] q3 h i [] c trivial (by rw [List.append_nil]; exact hS2) (U.mono (by first | trivial | simp))
    | some (eof', c0 :: rest, r'), tok =>
      obtain ⟨q1, q2, q3, q4⟩ := tok
      refine next_word (A := A.in1) OB hA1 G B he hs hl htok fun h i tt' B' K => ?_
      refine wpAny_pure ?_
      have hS2 : h.get? S = some (listO acc c) := K S _ hS hS3.2.1 hS3.2.2.2.2.2
      show wpAny _ A.in1 (updateSeq S (·.push _) >>= _) _ _ _
      refine wpAny_bind (wpAny_updateSeq hS2 rfl ?_ (by rw [sizeLine_eq]; simp only [List.size_toArray]; omega) (by rw [sizeLine_eq]; simp only [Array.size_push, List.size_toArray]; omega))
      have hS3' := Heap.get?_update_self (h := h) (Obj.mapSeq (·.push (Value.str ⟨⟨c0 :: rest⟩⟩ tt'))) hS2 rfl
      have hoth : ∀ b o, h.get? b = some o → b ≠ S → (h.update S (Obj.mapSeq (·.push (Value.str ⟨⟨c0 :: rest⟩⟩ tt')))).get? b = some o := fun b o q z => (Heap.get?_update_other _ _ (Ne.symm z)).trans q
      have U : UpTo outer [S, L.d, L.di] h₀ (h.update S (Obj.mapSeq (·.push (Value.str ⟨⟨c0 :: rest⟩⟩ tt')))) := UpTo.of_keep fun b o q z => by
        replace z := noL z
        exact hoth b o (K b o q z.2.1 z.2.2) z.1
      have hb7 : ∀ a ∈ [S, L.d, L.di], 781 ≤ a := by
        intro a ha
        replace ha := memL ha
        rcases ha with rfl | rfl | rfl
        · exact hS7
        · exact OB.high L.d (by first | trivial | simp)
        · exact OB.high L.di (by first | trivial | simp)
      obtain ⟨B1', ⟨ts', ln', tl', tt2, B2'⟩, B3', B4', B5', ⟨k', t6', B6', hd', hk'⟩⟩ := B'
      have F2 := U.fun F hfb
      have ne := hS3
      have B2 : LexB w L eof' r' (h.update S (Obj.mapSeq (·.push (Value.str ⟨⟨c0 :: rest⟩⟩ tt')))) := ⟨hoth _ _ B1' (Ne.symm ne.1), ⟨ts', ln', tl', tt2, hoth _ _ B2' (Ne.symm ne.2.1)⟩, hoth _ _ B3' (Ne.symm ne.2.2.1), hoth _ _ B4' (Ne.symm ne.2.2.2.1), hoth _ _ B5' (Ne.symm ne.2.2.2.2.1), ⟨k', t6', hoth _ _ B6' (Ne.symm ne.2.2.2.2.2), hd', hk'⟩⟩
      have hlist := mapSeq_push acc c (Value.str ⟨⟨c0 :: rest⟩⟩ tt')
      have hcl : cond eof 0 1 ≤ 1 := by cases eof <;> simp
      refine wpAny_pure ⟨plainId_quiet PySem.F.plain_extend_loop _, ?_⟩
      refine ih (n - 1) (by omega) eof' r' ⟨_, g, dr, i, os⟩ (acc ++ [Value.str ⟨⟨c0 :: rest⟩⟩ tt']) _ (by omega) (U.gr G hb7 hhi) B2 q3 (fun x hx => hs x (q4 x hx)) (by have : rem.length < 1700 := hl; omega) F2 (by rw [← hlist]; exact hS3') (by simp only [List.length_append, List.length_cons, List.length_nil]; omega) (fun ws hws h2 i2 acc' c' hst hS4 U2 => ?_) (fun hno h2 i2 e t tk X => ?_)
      · refine hR ((c0 :: rest) :: ws) (by rw [q1, hws]; rfl) h2 i2 (Value.str ⟨⟨c0 :: rest⟩⟩ tt' :: acc') c' ⟨⟨tt', rfl⟩, hst⟩ (by rw [List.append_assoc] at hS4; exact hS4) (U.trans U2)
      · refine hE (by rw [q1, hno]; rfl) h2 i2 e t tk (Fly.pre U ?_ F2 X)
        intro a ha
        replace ha := memL ha
        rcases ha with rfl | rfl | rfl
        · exact ⟨_, hS3'⟩
        · exact ⟨_, B2.d.choose_spec.choose_spec.choose_spec.choose_spec⟩
        · exact ⟨_, B2.di.choose_spec.choose_spec.1⟩
end
end
section
noncomputable def advIt : List Nat := [1437, 3, 3, 2, 3]
theorem runIt_is (P : Params) (b c : Bool) (rho tau : Nat → Nat) (stk : Stk) (h0 : Option Value) (lx d : Addr) :
    let o := entered (cfg (fP P b c) rho tau h0 []) stk advIt (.call (.ref 717) ⟨[.ref lx], []⟩) [(lx, instObj 727 d)]
    (chkL o, retV [0] o) = (chkR o, some (.ok (.ret (.ref lx)), [(lx, instObj 727 d)])) := by
  cases b <;> kernel_rfl
noncomputable def advS1 : List Nat := [1481, 1464, 1, 1, 1, 1, 1, 1, 2, 1, 6, 1, 1, 1454, 1454, 0, 1454, 1454, 0, 1454, 0, 1454, 1454, 1454, 0, 1454, 1454, 1454, 1454, 1454, 1454, 1454, 0, 1454, 1454, 1454, 1454, 1454, 1454, 1454, 1454, 1454, 1454, 1452, 1454, 1454, 5, 1454, 5, 1454, 1454, 1452, 1302, 1305, 1288, 7, 7, 7, 7, 7, 7, 7, 7, 7, 7, 2, 6, 0, 7, 6, 0, 0, 0, 0, 6, 7, 1184, 1184, 0, 1184, 1184, 0, 1184, 0, 1184, 1184, 1184, 1184, 0, 1184, 0, 4, 1184, 1184, 1184, 1182, 230, 228, 176, 174, 178, 178, 0, 178, 0, 178, 173, 13, 13, 13, 13, 13, 13, 2, 13, 6, 1184, 690, 13, 6, 6, 0, 0, 0, 13, 0, 1184, 1184, 1184, 1184, 1184, 1184, 230, 230, 176, 176, 230, 230, 230, 176, 176, 176, 176, 176, 0, 1184, 1184, 1184, 1184, 1184, 230, 230, 176, 176, 230, 230, 230, 176, 176, 176, 176, 176, 1184, 1184, 17, 1184, 17, 1184, 1184, 1182, 724, 727, 710, 19, 19, 19, 19, 19, 19, 2, 19, 6, 0, 19, 0, 0, 6, 0, 19, 19, 0, 0, 19, 0, 0, 19, 6, 0, 19, 0, 0, 6, 0, 19, 19, 17, 1184, 1184, 1182, 230, 228, 176, 174, 0, 17, 1184, 0, 17, 1184, 17, 1184, 1184, 1182, 230, 228, 176, 174, 17, 1184, 15, 15, 15, 19, 17, 1184, 1184, 1182, 230, 228, 176, 174, 0, 17, 1184, 0, 17, 1184, 17, 1184, 1184, 1182, 230, 228, 176, 174, 17, 1184, 15, 15, 15, 19, 17, 1184, 1184, 1182, 230, 228, 176, 174, 0, 17, 1184, 0, 17, 1184, 17, 1184, 1184, 1182, 230, 228, 176, 174, 17, 1184, 15, 15, 15, 19, 19, 17, 1184, 1184, 1182, 230, 228, 176, 174, 17, 1184, 1184, 1182, 230, 228, 176, 174, 17, 1184, 1184, 1182, 738, 17, 15, 19, 738, 741, 21, 21, 21, 21, 2, 21, 17, 1184, 1184, 1182, 230, 228, 176, 174, 0, 17, 1184, 1184, 1182, 230, 228, 176, 174, 17, 17, 1184, 15, 21, 21, 21, 21, 0, 0, 21, 0, 0, 21, 19, 17, 1184, 1184, 1182, 230, 228, 176, 174, 0, 17, 1184, 0, 17, 1184, 17, 1184, 1184, 1182, 230, 228, 176, 174, 17, 1184, 15, 15, 15, 7, 7, 7, 7, 7, 5, 1454, 1454, 1452, 0, 5, 1454, 0, 5, 1454, 5, 1454, 1454, 1452, 5, 1454, 3, 3, 3, 7, 7, 5, 1454, 1454, 1452, 0, 5, 1454, 0, 5, 1454, 5, 1454, 1454, 1452, 5, 1454, 3, 3, 3, 7, 7, 5, 1454, 1454, 1452, 0, 5, 1454, 0, 5, 1454, 5, 1454, 1454, 1452, 5, 1454, 3, 3, 3, 7, 7, 5, 1454, 1454, 1452, 0, 5, 1454, 0, 5, 1454, 5, 1454, 1454, 1452, 5, 1454, 3, 3, 3, 7, 5, 1454, 1454, 1452, 0, 5, 1454, 0, 5, 1454, 5, 1454, 1454, 1452, 5, 1454, 3, 3, 3, 7, 5, 1454, 1454, 1452, 0, 5, 1454, 0, 5, 1454, 5, 1454, 1454, 1452, 5, 1454, 3, 3, 3, 7, 5, 1454, 1454, 1452, 0, 5, 1454, 1454, 1452, 5, 5, 1454, 3, 7, 5, 1454, 1454, 1452, 0, 5, 1454, 1454, 1452, 5, 5, 1454, 3, 0, 0, 5, 1454, 1454, 1452, 0, 5, 1454, 0, 5, 1454, 5, 1454, 1454, 1452, 5, 1454, 3, 3, 3, 7, 5, 1454, 1454, 1452, 0, 5, 1454, 0, 5, 1454, 5, 1454, 1454, 1452, 5, 1454, 3, 3, 3, 7, 5, 1454, 1454, 1452, 0, 5, 1454, 0, 5, 1454, 5, 1454, 1454, 1452, 5, 1454, 3, 3, 3, 7, 5, 1454, 1454, 1452, 0, 5, 1454, 0, 5, 1454, 5, 1454, 1454, 1452, 5, 1454, 3, 3, 3, 7, 5, 1454, 1454, 1452, 0, 5, 1454, 0, 5, 1454, 5, 1454, 1454, 1452, 5, 1454, 3, 3, 3, 7, 5, 1454, 1454, 1452, 0, 5, 1454, 0, 5, 1454, 5, 1454, 1454, 1452, 5, 1454, 3, 3, 3, 7, 5, 1454, 1454, 1452, 0, 5, 1454, 0, 5, 1454, 5, 1454, 1454, 1452, 5, 1454, 3, 3, 3, 6, 0, 0, 0, 0, 23, 23, 0, 23, 0, 23, 23, 23, 7, 5, 1454, 1454, 1452, 0, 5, 1454, 0, 5, 1454, 5, 1454, 1454, 1452, 5, 1454, 3, 3, 3, 7, 5, 1454, 1454, 1452, 0, 5, 1454, 0, 5, 1454, 5, 1454, 1454, 1452, 5, 1454, 3, 3, 3, 7, 5, 1454, 1454, 1452, 0, 5, 1454, 0, 5, 1454, 5, 1454, 1454, 1452, 5, 1454, 3, 3, 3, 7, 5, 1454, 1454, 1452, 0, 5, 1454, 0, 5, 1454, 5, 1454, 1454, 1452, 5, 1454, 3, 3, 3, 6, 0, 0, 0, 0, 25, 25, 0, 25, 0, 25, 25, 25, 7, 5, 1454, 1454, 1452, 0, 5, 1454, 0, 5, 1454, 5, 1454, 1454, 1452, 5, 1454, 3, 3, 3, 7, 5, 1454, 1454, 1452, 0, 5, 1454, 0, 5, 1454, 5, 1454, 1454, 1452, 5, 1454, 3, 3, 3, 7, 7, 7, 7, 7, 5, 1454, 1454, 1452, 0, 5, 1454, 0, 5, 1454, 5, 1454, 1454, 1452, 5, 1454, 3, 3, 3, 7, 0, 0, 0, 1, 1, 1, 5, 1454, 1454, 1452, 0, 5, 1454, 0, 5, 1454, 5, 1454, 1454, 1452, 5, 1454, 3, 3, 3, 1, 1, 5, 1454, 1454, 1452, 0, 5, 1454, 0, 5, 1454, 5, 1454, 1454, 1452, 5, 1454, 3, 3, 3, 6, 0, 1, 0, 0, 0, 0, 27, 27, 1]
/-- the lexer that split makes -/
noncomputable def lexOf (rho tau : Nat → Nat) (buf : Str) (tb : Nat) : LX := { lx := rho 2, d := rho 1, io := rho 8, di := rho 7, pb := rho 11, fs := rho 12, F := 0, nd := 19, ni := 3, buf := buf, tk := fun j => match j with
  | 1 => tau 36 | 2 => tau 38 | 3 => tau 40 | 4 => tau 42 | 5 => tau 45 | 6 => tau 96 | 7 => tau 48 | 8 => tau 52 | 9 => tau 57 | 10 => tau 55 | 11 => tau 59 | 12 => tau 62 | 13 => tau 60 | 14 => tau 65 | 15 => tau 63 | 16 => tau 68 | 17 => tau 66 | 18 => tau 71 | 19 => tau 73
  | 20 => tau 76 | 22 => tau 79 | 23 => tau 77 | 24 => tau 82 | 26 => tau 84 | 27 => tau 86 | 28 => tau 90 | 29 => tau 87 | 30 => tau 19 | 31 => 716 | 32 => tau 22 | 33 => tb | 34 => tau 25 | _ => 0 }
noncomputable abbrev lexDq (P : Params) (L : LX) (st : Value) (ln : Int) (tl : Nat) (tok : Str) (tt : Nat) : Obj := dictOf [
  entQ P "instream" (L.tk 1) (.ref L.io), entQ P "infile" (L.tk 2) .none, entQ P "posix" (L.tk 3) (.bool true), entQ P "eof" (L.tk 4) .none, entQ P "commenters" (L.tk 5) (.str ⟨#[]⟩ (L.tk 6)), entQ P "wordchars" (L.tk 7) (.str wordchars (L.tk 8)),
  entQ P "whitespace" (L.tk 9) (.str ⟨#[32, 9, 13, 10]⟩ (L.tk 10)), entQ P "whitespace_split" (L.tk 11) (.bool true), entQ P "quotes" (L.tk 12) (.str ⟨#[39, 34]⟩ (L.tk 13)), entQ P "escape" (L.tk 14) (.str ⟨#[92]⟩ (L.tk 15)),
  entQ P "escapedquotes" (L.tk 16) (.str ⟨#[34]⟩ (L.tk 17)), entQ P "state" (L.tk 18) st, entQ P "pushback" (L.tk 19) (.ref L.pb), entQ P "lineno" (L.tk 20) (.int ln tl), entQ P "debug" (L.tk 22) (.int 0 (L.tk 23)),
  entQ P "token" (L.tk 24) (.str tok tt), entQ P "filestack" (L.tk 26) (.ref L.fs), entQ P "source" (L.tk 27) .none, entQ P "_punctuation_chars" (L.tk 28) (.str ⟨#[]⟩ (L.tk 29))] L.nd
noncomputable abbrev ioDq (P : Params) (t1 t2 t3 t4 t5 t6 n : Nat) (buf : Str) (k : Int) : Obj := dictOf [entQ P "_StringIO__newline" t1 (.str (Str.ofString "\n") t2), entQ P "_StringIO__buf" t3 (.str buf t4), entQ P "_StringIO__pos" t5 (.int k t6)] n
theorem lexDq_eq (P : Params) (L : LX) (st : Value) (ln : Int) (tl : Nat) (tok : Str) (tt : Nat) : lexDq P L st ln tl tok tt = lexD P L st ln tl tok tt := by
  unfold lexDq
  rw [entQ_eq P "instream" _ _ (by decide +kernel), entQ_eq P "infile" _ _ (by decide +kernel), entQ_eq P "posix" _ _ (by decide +kernel), entQ_eq P "eof" _ _ (by decide +kernel), entQ_eq P "commenters" _ _ (by decide +kernel), entQ_eq P "wordchars" _ _ (by decide +kernel),
    entQ_eq P "whitespace" _ _ (by decide +kernel), entQ_eq P "whitespace_split" _ _ (by decide +kernel), entQ_eq P "quotes" _ _ (by decide +kernel), entQ_eq P "escape" _ _ (by decide +kernel), entQ_eq P "escapedquotes" _ _ (by decide +kernel), entQ_eq P "state" _ _ (by decide +kernel),
    entQ_eq P "pushback" _ _ (by decide +kernel), entQ_eq P "lineno" _ _ (by decide +kernel), entQ_eq P "debug" _ _ (by decide +kernel), entQ_eq P "token" _ _ (by decide +kernel), entQ_eq P "filestack" _ _ (by decide +kernel), entQ_eq P "source" _ _ (by decide +kernel), entQ_eq P "_punctuation_chars" _ _ (by decide +kernel)]
theorem ioDq_eq (P : Params) (t1 t2 t3 t4 t5 t6 n : Nat) (buf : Str) (k : Int) : ioDq P t1 t2 t3 t4 t5 t6 n buf k = ioD P t1 t2 t3 t4 t5 t6 n buf k := by
  unfold ioDq
  rw [entQ_eq P "_StringIO__newline" _ _ (by decide +kernel), entQ_eq P "_StringIO__buf" _ _ (by decide +kernel), entQ_eq P "_StringIO__pos" _ _ (by decide +kernel)]
noncomputable abbrev splitC (buf : Str) (tb : Nat) : Code := .call (.ref 739) ⟨[.str buf tb], []⟩
noncomputable abbrev frameS (P : Params) (tau : Nat → Nat) (buf : Str) (tb : Nat) (lx : Addr) : Obj := { cls := .type "frame", data := .dict #[entQ P "s" (tau 0) (.str buf tb), entQ P "comments" (tau 1) (.bool false), entQ P "posix" (tau 2) (.bool true), entQ P "lex" (tau 93) (.ref lx)] 4 }
noncomputable abbrev runS1 (P : Params) (b c : Bool) (rho tau : Nat → Nat) (stk : Stk) (h0 : Option Value) (buf : Str) (tb : Nat) : Out :=
  entered (cfg (fP P b c) rho tau h0 []) stk advS1 (splitC buf tb) []
theorem runS1_is (P : Params) (b c : Bool) (rho tau : Nat → Nat) (stk : Stk) (h0 : Option Value) (buf : Str) (tb : Nat) :
    let o := runS1 P b c rho tau stk h0 buf tb
    (chkL o, cutR [0, 1, 2, 7, 8, 11, 12, 13] o) = (chkR o, some (.call (.builtin "list.__init__") ⟨[.ref (rho 13), .ref (rho 2)], []⟩,
      [(rho 0, frameS P tau buf tb (rho 2)), (rho 1, lexDq P (lexOf rho tau buf tb) (.str ⟨#[32]⟩ (tau 69)) 1 (tau 74) ⟨#[]⟩ (tau 80)), (rho 2, instObj 727 (rho 1)), (rho 7, ioDq P (tau 19) 716 (tau 22) tb (tau 25) (tau 23) 3 buf 0), (rho 8, instObj 592 (rho 7)), (rho 11, dq), (rho 12, dq), (rho 13, listO [] 0)])) := by
  cases b <;> kernel_rfl
theorem runS1_envs (P : Params) (b c : Bool) (rho tau : Nat → Nat) (stk : Stk) (h0 : Option Value) (buf : Str) (tb : Nat) : kenvV (runS1 P b c rho tau stk h0 buf tb) = some [envFn (fP P b c) 739 (rho 0)] := by
  cases b <;> kernel_rfl
end
section
theorem runS2_is (P : Params) (b c : Bool) (rho tau rho2 tau2 : Nat → Nat) (stk stk2 : Stk) (h0 : Option Value) (buf : Str) (tb : Nat) :
    let o := res (runS1 P b c rho tau stk h0 buf tb) (.ok (.ret .none)) (cfg (fP P b c) rho2 tau2 h0 []) stk2 [] []
    (chkL o, retV [] o) = (chkR o, some (.ok (.ret (.ref (rho 13))), [])) := by
  cases b <;> kernel_rfl
theorem runS3_is (P : Params) (b c : Bool) (rho tau rho2 tau2 : Nat → Nat) (stk stk2 : Stk) (h0 : Option Value) (buf : Str) (tb : Nat) (e : Addr) :
    let o := res (runS1 P b c rho tau stk h0 buf tb) (.error (.ref e)) (cfg (fP P b c) rho2 tau2 h0 []) stk2 [] []
    (chkL o, errG [] o) = (chkR o, some (.ref e, .func (bodyFn (fP P b c) 739) (envFn (fP P b c) 739 (rho 0)), leaving (envFn (fP P b c) 739 (rho 0)), [])) := by
  cases b <;> kernel_rfl
end
section
theorem find_iter (P : Params) : findIn (K0 P) (.ref 727) (Str.ofString "__iter__") = some (some (.ref 717)) := by kernel_rfl
theorem find_len (P : Params) : findIn (K0 P) (.ref 727) (Str.ofString "__len__") = some none := by kernel_rfl
theorem find_hint (P : Params) : findIn (K0 P) (.ref 727) (Str.ofString "__length_hint__") = some none := by kernel_rfl
theorem fn_717 (P : Params) : typeIn (K0 P) (.ref 717) = some (.type "function") := by kernel_rfl
section
variable {w : World} {R : Result → Shared → Prop} {L : LX}
theorem iter_self {A : Around} {s : Shared} {lx d : Addr} (G : Gr w s.heap) (hA : A.depth + 100 ≤ recursionLimit) (h7 : 781 ≤ lx) (hlx : s.heap.get? lx = some (instObj 727 d))
    (hR : ∀ h i, (∀ b o, s.heap.get? b = some o → h.get? b = some o) → R (.ok (.ret (.ref lx))) ⟨h, s.gens, s.drawn, i, s.os⟩) : codeAny (model theProg w) A (.call (.ref 717) ⟨[.ref lx], []⟩) R s := by
  obtain ⟨h₀, g, dr, t₀, os⟩ := s
  have hb := fP_self w.params
  generalize w.params.followText "special-get-raises" = b at hb
  generalize w.params.followText "comprehension-iter-twice" = c at hb
  have O := mkOk (A := A) (t₀ := t₀) (sps := []) (ini := [lx]) G hb (by intro a ha; replace ha := memL ha; subst ha; exact h7) hA (fun sp hm => nomatch hm)
  have D := mkHp (h := h₀) (own := [(lx, instObj 727 d)]) (by intro p hp; replace hp := memL hp; subst hp; exact hlx) (by first | trivial | simp)
  refine run_fine O D (adv := advIt) fun stk => fine_ret (runIt_is w.params b c _ _ stk _ lx d) fun h i hl hk => hR h _ fun x o q => ?_
  by_cases z : x = lx
  · subst z
    have : o = instObj 727 d := Option.some.inj (q.symm.trans hlx)
    rw [this]; exact hl (x, instObj 727 d) (by first | trivial | simp)
  · exact hk x o q (nmL z)
theorem own_iter {A : Around} {s : Shared} {lx d : Addr} {od : Obj} {E : Value → Shared → Prop} {Q : Value → Shared → Prop} (G : Gr w s.heap) (hA : A.depth + 100 ≤ recursionLimit) (h7 : 781 ≤ lx) (hlx : s.heap.get? lx = some (instObj 727 d)) (hd' : s.heap.get? d = some od)
    (hQ : ∀ h i, (∀ b o, s.heap.get? b = some o → h.get? b = some o) → Q (.ref lx) ⟨h, s.gens, s.drawn, i, s.os⟩) : wpAny (model theProg w) A (pyIter (.ref lx)) Q E s := by
  have X := G.inn
  have I : InstAt s.heap lx (instObj 727 d) 727 (some od) := ⟨hlx, rfl, rfl, hd'⟩
  have fin : wpAny (model theProg w) A (call (.ref 717) [.ref lx] >>= fun v => pure (some v)) (fun r s' => r = some (.ref lx) ∧ ∃ h i, s' = ⟨h, s.gens, s.drawn, i, s.os⟩ ∧ ∀ b o, s.heap.get? b = some o → h.get? b = some o) E s :=
    wpAny_bind (wpAny_call (iter_self G hA h7 hlx fun h i k => wpAny_pure ⟨rfl, h, i, rfl, k⟩))
  have one : ∀ refuse : Sem Value, wpAny (model theProg w) A (callSpecialIfBoundUnlessNone? (.ref lx) (Str.ofString "__iter__") refuse) (fun r s' => r = some (.ref lx) ∧ ∃ h i, s' = ⟨h, s.gens, s.drawn, i, s.os⟩ ∧ ∀ b o, s.heap.get? b = some o → h.get? b = some o) E s := by
    intro refuse
    simp only [callSpecialIfBoundUnlessNone?, bindSpecialIfBound?]
    refine wpAny_holding (wpAny_bind (wpAny_bind (wpAny_bind (I.type.here ((looks_findIn X (find_iter _)).here ?_)))))
    refine wpAny_bind (wpAny_askSetting (wpAny_ite ?_))
    have fin2 : wpAny (model theProg w) A (if (Value.ref 717 == Value.none) = true then (refuse >>= fun v => pure (some v)) else (call (.ref 717) [.ref lx] >>= fun v => pure (some v))) (fun r s' => r = some (.ref lx) ∧ ∃ h i, s' = ⟨h, s.gens, s.drawn, i, s.os⟩ ∧ ∀ b o, s.heap.get? b = some o → h.get? b = some o) E s := by
      rw [if_neg (show ¬ ((Value.ref 717 == Value.none) = true) from Bool.false_ne_true)]
      exact fin
    split
    · exact wpAny_bind ((bind_fn X _ (fn_717 _)).here (wpAny_pure (by exact fin2)))
    · exact wpAny_tryCatch (wpAny_bind ((bind_fn X _ (fn_717 _)).here (wpAny_pure (by exact fin2))))
  unfold pyIter
  refine wpAny_bind (wpAny_bind (I.type.here ((looks_findIn X (find_iter _)).here ?_)))
  show wpAny _ A (callSpecialIfBoundUnlessNone? (.ref lx) (Str.ofString "__iter__") _ >>= _) Q E s
  refine wpAny_bind (wpAny_mono (one _) (fun r s' hr => ?_) fun _ _ z => z)
  obtain ⟨rfl, h, i, rfl, k⟩ := hr
  have X2 : (Mine.K0 w.params).In h := fun a o q => k a o (X a o q)
  have I2 : InstAt h lx (instObj 727 d) 727 (some od) := ⟨k _ _ hlx, rfl, rfl, k _ _ hd'⟩
  show wpAny _ A (specialOf (.ref lx) (Str.ofString "__next__") >>= _) _ _ _
  refine wpAny_bind (wpAny_bind (I2.type.here ((looks_findIn X2 (find_next _)).here ?_)))
  exact wpAny_pure (hQ h i k)
theorem list_init {A : Around} (OB : L.OkB) (hA : A.depth + 180 ≤ recursionLimit) (hh0 : A.handled = none) {outer : List Env} (hfr : A.frames = some outer) {S : Addr} (hS7 : 781 ≤ S) (hSL : S ∉ [L.lx, L.d, L.pb, L.fs, L.io, L.di]) (hSo : S ∉ framesOf outer)
    (hapart : ∀ a ∈ framesOf outer, a ∉ [L.lx, L.d, L.pb, L.fs, L.io, L.di]) (hhi : ∀ a ∈ framesOf outer, 781 ≤ a) (rem : List Nat) (s : Shared) (G : Gr w s.heap) (B : LexB w L false rem s.heap) (hs : ∀ x ∈ rem, isSign x) (hl : rem.length < 1000) (F : FunOk s.heap outer)
    (hS : s.heap.get? S = some (listO [] 0))
    (hR : ∀ ws, allF false rem = some ws → ∀ h i vs c', StrsAre vs ws → h.get? S = some (listO vs c') → UpTo outer [S, L.d, L.di] s.heap h → R (.ok (.ret .none)) ⟨h, s.gens, s.drawn, i, s.os⟩)
    (hE : allF false rem = none → ∀ h i e t tk, Fly outer [S, L.d, L.di] e t "ValueError" [.str noEsc tk] s.heap h → R (.error (.ref e)) ⟨h, s.gens, s.drawn, i, s.os⟩) :
    codeAny (model theProg w) A (.call (.builtin "list.__init__") ⟨[.ref S, .ref L.lx], []⟩) R s := by
  obtain ⟨h₀, g, dr, t₀, os⟩ := s
  obtain ⟨B1, ⟨ts, ln, tl, tt, B2⟩, B3, B4, B5, ⟨k, t6, B6, hd', hk⟩⟩ := id B
  have hS3 : S ≠ L.lx ∧ S ≠ L.d ∧ S ≠ L.pb ∧ S ≠ L.fs ∧ S ≠ L.io ∧ S ≠ L.di := by
    replace hSL := noL hSL; exact hSL
  have hfb : ∀ a ∈ framesOf outer, a ∉ [S, L.d, L.di] := fun a ha => by
    have := hapart a ha
    simp only [List.mem_cons, List.not_mem_nil, or_false, not_or] at this ⊢
    exact ⟨fun z => hSo (z ▸ ha), this.2.1, this.2.2.2.2.2⟩
  refine codeAny_call_builtin PySem.F.called_list.init.plain PySem.F.entry_list_init (PySem.F.called_list.init.check _ _ _ _ _ _ _ _ ⟨_, hS, rfl⟩ (PySem.F.args_list_init_2 _ _) ?_)
  show wpAny _ A.in1 (do let old ← Builtin.List.listItems (.ref S); Builtin.List.listUpdate (.ref S) (fun _ => #[]); letGo old.toList.reverse; Builtin.List.listExtendWith (.ref S) (.ref L.lx) .none) _ _ _
  refine wpAny_bind ?_
  unfold Builtin.List.listItems
  refine wpAny_bind (wpAny_seqItems hS rfl (wpAny_pure ?_))
  show wpAny _ A.in1 (updateSeq S (fun _ => #[]) >>= fun _ => letGo (#[] : Array Value).toList.reverse >>= fun _ => Builtin.List.listExtendWith (.ref S) (.ref L.lx) .none) _ _ _
  refine wpAny_bind (wpAny_updateSeq hS rfl ?_)
  have hS2 := Heap.get?_update_self (Obj.mapSeq (fun _ => (#[] : Array Value))) hS rfl
  have oth1 : ∀ b o, b ≠ S → h₀.get? b = some o → (h₀.update S (Obj.mapSeq (fun _ => (#[] : Array Value)))).get? b = some o :=
    fun b o hb e => (Heap.get?_update_other _ _ (Ne.symm hb)).trans e
  generalize h₀.update S (Obj.mapSeq (fun _ => (#[] : Array Value))) = h1 at hS2 oth1
  refine wpAny_bind (wpAny_letGo ?_)
  unfold Builtin.List.listExtendWith
  have I : InstAt h1 L.lx (instObj 727 L.d) 727 (some (lexD w.params L (if false then .none else .str ⟨#[32]⟩ ts) ln tl ⟨⟨[]⟩⟩ tt)) := ⟨oth1 _ _ (Ne.symm hS3.1) B1, rfl, rfl, oth1 _ _ (Ne.symm hS3.2.1) B2⟩
  have G1 : Gr w h1 := G.keeps fun b o hlt q => oth1 b o (fun z => absurd hlt (Nat.not_lt.mpr (z ▸ hS7))) q
  refine wpAny_bind (I.type.here ?_)
  have e1 : Builtin.List.listSameRef (.ref S) (.ref L.lx) = false := by simp [Builtin.List.listSameRef, hS3.1]
  have e2 : (Value.ref 727 == Value.type "list") = false := by decide
  have e3 : (Value.ref 727 == Value.type "tuple") = false := by decide
  simp only [e1, e2, e3, Bool.or_false, Bool.false_eq_true, if_false]
  refine wpAny_bind (own_iter (s := ⟨h1, g, dr, t₀, os⟩) G1 (by show A.depth + 100 ≤ _; omega) (OB.high L.lx (by first | trivial | simp)) I.at_ (oth1 _ _ (Ne.symm hS3.2.1) B2) fun h2 i2 k2 => ?_)
  have I2 : InstAt h2 L.lx (instObj 727 L.d) 727 (some (lexD w.params L (if false then .none else .str ⟨#[32]⟩ ts) ln tl ⟨⟨[]⟩⟩ tt)) := ⟨k2 _ _ I.at_, rfl, rfl, k2 _ _ (oth1 _ _ (Ne.symm hS3.2.1) B2)⟩
  have G2 : Gr w h2 := G1.keeps fun b o _ q => k2 b o q
  refine wpAny_bind (wpAny_holding ?_)
  unfold Builtin.List.listLengthHint
  refine wpAny_bind (wpAny_bind (I2.type.here ((looks_findIn G2.inn (find_len _)).here ?_)))
  show wpAny _ A.in1 (specialOf (Value.ref L.lx) (Str.ofString "__length_hint__") >>= _) _ _ _
  refine wpAny_bind (wpAny_bind (I2.type.here ((looks_findIn G2.inn (find_hint _)).here ?_)))
  refine wpAny_pure ?_
  show wpAny _ A.in1 (rule "list.extend.makes-room" >>= fun _ => Builtin.List.listTouch (.ref S) >>= fun _ =>
    again (.builtin "list.extend.loop" ⟨[.ref S, .ref L.lx, .none], []⟩)) _ _ _
  refine wpAny_bind (wpAny_rule ?_)
  refine wpAny_bind ?_
  show wpAny _ A.in1 (updateSeq S (·.push .none) >>= fun _ => updateSeq S (·.pop)) _ _ _
  have hS2' := k2 _ _ hS2
  refine wpAny_bind (wpAny_updateSeq hS2' rfl ?_)
  have hS3' := Heap.get?_update_self (Obj.mapSeq (·.push Value.none)) hS2' rfl
  refine wpAny_updateSeq (hz := by seq_fits) hS3' rfl ?_
  have hS4 := Heap.get?_update_self (Obj.mapSeq (·.pop)) hS3' rfl
  have oth : ∀ b o, b ≠ S → h₀.get? b = some o → ((h2.update S (Obj.mapSeq (·.push Value.none))).update S (Obj.mapSeq (·.pop))).get? b = some o :=
    fun b o hb e => (Heap.get?_update_other _ _ (Ne.symm hb)).trans ((Heap.get?_update_other _ _ (Ne.symm hb)).trans (k2 b o (oth1 b o hb e)))
  generalize (h2.update S (Obj.mapSeq (·.push Value.none))).update S (Obj.mapSeq (·.pop)) = h3 at hS4 oth
  have U : UpTo outer [S, L.d, L.di] h₀ h3 := UpTo.of_keep fun b o q z => oth b o (by replace z := noL z; exact z.1) q
  have F3 := U.fun F hfb
  refine wpAny_pure ⟨plainId_quiet PySem.F.plain_extend_loop _, ?_⟩
  refine ext_loop (A := A) OB hA hh0 hfr hS7 hSL hSo hapart hhi .none (rem.length + 1) false rem ⟨h3, g, dr, i2, os⟩ [] 2 (Nat.le_refl _) (G.keeps fun b o hlt q => oth b o (fun z => absurd hlt (Nat.not_lt.mpr (z ▸ hS7))) q)
    ⟨oth _ _ (Ne.symm hS3.1) B1, ⟨ts, ln, tl, tt, oth _ _ (Ne.symm hS3.2.1) B2⟩, oth _ _ (Ne.symm hS3.2.2.1) B3, oth _ _ (Ne.symm hS3.2.2.2.1) B4, oth _ _ (Ne.symm hS3.2.2.2.2.1) B5, ⟨k, t6, oth _ _ (Ne.symm hS3.2.2.2.2.2) B6, hd', hk⟩⟩
    (by intro q; cases q) hs (by omega) F3 hS4 (by simp only [List.length_nil]; omega) (fun ws hws h i acc' c' hst hSf U2 => hR ws hws h i acc' c' hst hSf (U.trans U2)) (fun hno h i e t tk X => hE hno h i e t tk (Fly.pre U ?_ F3 X))
  intro a ha
  replace ha := memL ha
  rcases ha with rfl | rfl | rfl
  · exact ⟨_, hS4⟩
  · exact ⟨_, oth _ _ (Ne.symm hS3.2.1) B2⟩
  · exact ⟨_, oth _ _ (Ne.symm hS3.2.2.2.2.2) B6⟩
end
end
section
theorem size781 {w : World} {h : Heap} (G : Gr w h) : 781 ≤ h.objs.size := by
  have : ((ktb w.params).get 780).isSome = true := by kernel_rfl
  obtain ⟨o, e⟩ := Option.isSome_iff_exists.mp this
  exact Heap.lt_size (base_in G.inn e)
theorem Fly.keeps {outer : List Env} {but : List Addr} {e t : Addr} {cls : String} {args : List Value} {h h2 h3 : Heap} (x : Fly outer but e t cls args h h2) (k : ∀ b o, h2.get? b = some o → h3.get? b = some o) : Fly outer but e t cls args h h3 :=
  ⟨x.new, x.newT, x.tup.keeps k, ⟨fun b o q z1 z2 => k b o (x.up.keep b o q z1 z2), fun b o q z1 z2 => by
    obtain ⟨sl, z⟩ := x.up.slots b o q z1 z2
    exact ⟨sl, k _ _ z⟩⟩, traced_keeps k x.tr, fun a ha o q => by
    obtain ⟨o', z⟩ := x.there a ha o q
    exact ⟨o', k _ _ z⟩⟩
theorem Fly.base {outer : List Env} {but : List Addr} {e t : Addr} {cls : String} {args : List Value} {h₀ h h2 : Heap} (x : Fly outer but e t cls args h h2) (k : ∀ b o, h₀.get? b = some o → h.get? b = some o) (hb : ∀ a ∈ but, h₀.get? a = none) : Fly outer [] e t cls args h₀ h2 := by
  have none_of : ∀ a, h.get? a = none → h₀.get? a = none := fun a ha => by
    cases q : h₀.get? a with
    | none => rfl
    | some o => have := k a o q; rw [ha] at this; cases this
  have nb : ∀ a o, h₀.get? a = some o → a ∉ but := fun a o q hm => by rw [hb a hm] at q; cases q
  refine ⟨none_of e x.new, none_of t x.newT, x.tup, ⟨fun b o q _ z2 => x.up.keep b o (k b o q) (nb b o q) z2, fun b o q _ z2 => x.up.slots b o (k b o q) (nb b o q) z2⟩, ?_, fun _ h => nomatch h⟩
  obtain ⟨oe, vs, T, oT, ts, p1, p2, p3, p4, p5, p6⟩ := x.tr
  exact ⟨oe, vs, T, oT, ts, p1, p2, p3, p4, none_of T p5, p6⟩
theorem UpTo.base {outer : List Env} {but : List Addr} {h₀ h h2 : Heap} (x : UpTo outer but h h2) (k : ∀ b o, h₀.get? b = some o → h.get? b = some o) (hb : ∀ a ∈ but, h₀.get? a = none) : UpTo outer [] h₀ h2 :=
  ⟨fun b o q _ z2 => x.keep b o (k b o q) (fun hm => by rw [hb b hm] at q; cases q) z2, fun b o q _ z2 => x.slots b o (k b o q) (fun hm => by rw [hb b hm] at q; cases q) z2⟩
theorem UpTo.keeps {outer : List Env} {but : List Addr} {h h2 h3 : Heap} (x : UpTo outer but h h2) (k : ∀ b o, h2.get? b = some o → h3.get? b = some o) : UpTo outer but h h3 :=
  ⟨fun b o q z1 z2 => k b o (x.keep b o q z1 z2), fun b o q z1 z2 => by
    obtain ⟨sl, z⟩ := x.slots b o q z1 z2
    exact ⟨sl, k _ _ z⟩⟩
theorem framesOf_cons {env : Env} {outer : List Env} {F : Addr} (hf : env.frame = some F) : framesOf (env :: outer) = F :: framesOf outer := by
  show List.filterMap _ _ = _
  rw [List.filterMap_cons, hf]
/-- all outer frames but one that is gone -/
theorem UpTo.drop {env : Env} {outer : List Env} {but : List Addr} {h h2 : Heap} {F : Addr} (hf : env.frame = some F) (x : UpTo (env :: outer) but h h2) : UpTo outer (F :: but) h h2 :=
  ⟨fun b o q z1 z2 => x.keep b o q (fun z => z1 (List.mem_cons_of_mem _ z)) (by
    rw [framesOf_cons hf]; intro z
    rcases List.mem_cons.mp z with z | z
    · exact z1 (z ▸ List.mem_cons_self ..)
    · exact z2 z), fun b o q z1 z2 => x.slots b o q (fun z => z1 (List.mem_cons_of_mem _ z)) z2⟩
theorem fly_leaves {prog : Program} {w : World} {A : Around} {R : Result → Shared → Prop} {s : Shared} {env : Env} {outer : List Env} {but : List Addr} {e t F : Addr} {cls : String} {args : List Value} {h : Heap} {body : List Stmt}
    (X : Fly (env :: outer) but e t cls args h s.heap) (hfr : A.frames = some outer) (Fk : FunOk h (env :: outer)) (hf : env.frame = some F) (hbut : ∀ a ∈ framesOf (env :: outer), a ∉ but)
    (hR : ∀ h', Fly outer (F :: but) e t cls args h h' → R (.error (.ref e)) { s with heap := h' }) :
    wpOwn (model prog w) A (.func body env) (leaving env (.ref e)) (fun _ s' => R (.error (.ref e)) s') (fun e' s' => R (.error e') s') s := by
  have fl := X.flying Fk hbut
  refine wpOwn_of_wpAny ?_
  show wpAny _ (A.deeper env) _ _ _ _
  obtain ⟨oe, vs, T0, oT0, ts0, w1, w2, w3, w4, w5, w6, w7, w8, w9⟩ := X.tr
  have hb2 : ∀ a ∈ framesOf (env :: outer), ∃ o, s.heap.get? a = some o ∧ ∀ vs, o.data ≠ .fields vs := fun a ha => by
    obtain ⟨_, o, q1, q2⟩ := fl.2.2.1.mem ha
    exact ⟨o, q1, q2⟩
  have ffs : s.heap.FunFrames (hideAll s.heap (e :: T0 :: framesOf (env :: outer))) (env :: outer) := FunFrames_of fun env' henv' => by
    obtain ⟨p1, La, oa, p2, p3, p4⟩ := Fk env' henv'
    have hm : La ∈ framesOf (env :: outer) := List.mem_filterMap.mpr ⟨env', henv', p2⟩
    obtain ⟨o, q1, q2⟩ := hb2 La hm
    exact ⟨p1, La, o, p2, hideAll_none _ (List.mem_cons_of_mem _ (List.mem_cons_of_mem _ hm)), q1, q2⟩
  have fl2 : Heap.FlyingW (hideAll s.heap (e :: T0 :: framesOf (env :: outer))) (env :: outer) e (.type cls) (.ref t) s.heap :=
    ⟨fun b o q => of_hideAll _ q, hideAll_none _ (List.mem_cons_self ..), ffs, ⟨oe, vs, T0, oT0, ts0, w1, w2, w3, w4, hideAll_none _ (List.mem_cons_of_mem _ (List.mem_cons_self ..)), w6, w7, w8, w9⟩⟩
  refine wpAny_leaves_onW (Around.frames_deeper hfr) hf fl2 fun h' fl' up' => ?_
  have hc := framesOf_cons (outer := outer) hf
  have ne : ∀ b o, h.get? b = some o → b ≠ e := fun b o q z => by rw [z, X.new] at q; cases q
  have nT : ∀ b o, h.get? b = some o → b ≠ T0 := fun b o q z => by rw [z, w5] at q; cases q
  refine hR h' ⟨X.new, X.newT, X.tup.of_slots up', ⟨fun b o q z1 z2 => ?_, fun b o q z1 z2 => ?_⟩, ?_, ?_⟩
  · have zf : b ∉ framesOf (env :: outer) := fun z => by
      rw [hc] at z
      rcases List.mem_cons.mp z with z | z
      · exact z1 (z ▸ List.mem_cons_self ..)
      · exact z2 z
    have q2 := X.up.keep b o q (fun z => z1 (List.mem_cons_of_mem _ z)) zf
    exact fl'.1 b o (hideAll_get _ q2 (by simp only [List.mem_cons, not_or]; exact ⟨ne b o q, nT b o q, zf⟩))
  · obtain ⟨sl, q2⟩ := X.up.slots b o q (fun z => z1 (List.mem_cons_of_mem _ z)) z2
    exact up' b { o with slots := sl } q2 z2
  · obtain ⟨oe', vs', T, oT, ts, p1, p2, p3, p4, p5, p6, p7, p8, p9⟩ := fl'.2.2.2
    refine ⟨oe', vs', T, oT, ts, p1, p2, p3, p4, ?_, p6, p7, p8, p9⟩
    cases q : h.get? T with
    | none => rfl
    | some o =>
      exfalso
      have hnf : T ∉ framesOf outer := fun hm => by
        obtain ⟨_, o2, u1, u2⟩ := fl'.2.2.1.mem hm
        have : o2 = oT := Option.some.inj (u1.symm.trans p7)
        exact u2 ts (this ▸ p8)
      have hthere2 : ∃ o', s.heap.get? T = some o' := by
        by_cases z1 : T ∈ but
        · exact X.there T z1 o q
        · by_cases z2 : T ∈ framesOf (env :: outer)
          · obtain ⟨o2, u1, _⟩ := hb2 T z2; exact ⟨o2, u1⟩
          · exact ⟨o, X.up.keep T o q z1 z2⟩
      obtain ⟨o', q'⟩ := hthere2
      have hF : T ≠ F := fun z => by
        have hm : F ∈ framesOf (env :: outer) := by rw [hc]; exact List.mem_cons_self ..
        obtain ⟨o2, u1, u2⟩ := hb2 F hm
        obtain ⟨sl, u3⟩ := up' F o2 u1 u2
        rw [z] at p7
        have : ({ o2 with slots := sl } : Obj) = oT := Option.some.inj (u3.symm.trans p7)
        exact u2 ts (by rw [← p8, ← this])
      have := hideAll_get (e :: T0 :: framesOf (env :: outer)) q' (by
        simp only [List.mem_cons, not_or]
        refine ⟨p6, nT T o q, ?_⟩
        rw [hc]; simp only [List.mem_cons, not_or]
        exact ⟨hF, hnf⟩)
      rw [this] at p5; cases p5
  · intro a ha o q
    have hfa : a ∈ framesOf (env :: outer) → ∃ o', h'.get? a = some o' := fun hm => by
      obtain ⟨o2, u1, u2⟩ := hb2 a hm
      obtain ⟨sl, u3⟩ := up' a o2 u1 u2
      exact ⟨_, u3⟩
    rcases List.mem_cons.mp ha with z | ha
    · exact hfa (by rw [hc, z]; exact List.mem_cons_self ..)
    · by_cases hm : a ∈ framesOf (env :: outer)
      · exact hfa hm
      · obtain ⟨o', z⟩ := X.there a ha o q
        exact ⟨o', fl'.1 a o' (hideAll_get _ z (by simp only [List.mem_cons, not_or]; exact ⟨ne a o q, nT a o q, hm⟩))⟩
theorem kind739 (P : Params) (F : Addr) : (envFn P 739 F).scope.kind = .function := by kernel_rfl
theorem frame739 (P : Params) (F : Addr) : (envFn P 739 F).frame = some F := by kernel_rfl
section
variable {w : World} {R : Result → Shared → Prop}
theorem split_is {A : Around} (hA : A.depth + 220 ≤ recursionLimit) (hh0 : A.handled = none) {outer : List Env} (hfr : A.frames = some outer) (hhi : ∀ a ∈ framesOf outer, 781 ≤ a) {s : Shared} (G : Gr w s.heap) (F : FunOk s.heap outer) (text : List Nat) (tb : Nat) (hs : ∀ x ∈ text, isSign x) (hl : text.length < 900)
    (hR : ∀ ws, allF false text = some ws → ∀ h i l vs c', s.heap.get? l = none → 781 ≤ l → StrsAre vs ws → h.get? l = some (listO vs c') → UpTo outer [] s.heap h → R (.ok (.ret (.ref l))) ⟨h, s.gens, s.drawn, i, s.os⟩)
    (hE : allF false text = none → ∀ h i e t tk, Fly outer [] e t "ValueError" [.str noEsc tk] s.heap h → R (.error (.ref e)) ⟨h, s.gens, s.drawn, i, s.os⟩) :
    codeAny (model theProg w) A (splitC ⟨⟨text⟩⟩ tb) R s := by
  obtain ⟨h₀, g, dr, t₀, os⟩ := s
  have hb := fP_self w.params
  generalize w.params.followText "special-get-raises" = b at hb
  generalize w.params.followText "comprehension-iter-twice" = c at hb
  have h7 : 781 ≤ h₀.objs.size := size781 G
  have hi7 : ∀ j, 781 ≤ h₀.objs.size + j := fun j => Nat.le_trans h7 (Nat.le_add_right ..)
  have hnew : ∀ j, h₀.get? (h₀.objs.size + j) = none := fun j => by
    cases q : h₀.get? (h₀.objs.size + j) with
    | none => rfl
    | some o => exact absurd (Heap.lt_size q) (Nat.not_lt.mpr (Nat.le_add_right ..))
  have hlow : ∀ a ∈ framesOf outer, a < h₀.objs.size := fun a ha => by
    obtain ⟨o, q, _⟩ := F.mem ha
    exact Heap.lt_size q
  have O1 := mkOk (A := A) (t₀ := t₀) (sps := []) (ini := []) G hb (fun _ h => nomatch h) (by omega) (fun sp hm => nomatch hm)
  have D1 := mkHp (h := h₀) (own := []) (fun _ h => nomatch h) List.nodup_nil
  refine run_fine O1 D1 (adv := advS1) fun stk => fine_callF hfr (runS1_envs w.params b c _ _ stk _ ⟨⟨text⟩⟩ tb) (runS1_is w.params b c _ _ stk _ ⟨⟨text⟩⟩ tb) fun A' R' h i hdep hh hfr' hl1 hk1 hcont => ?_
  have k01 : ∀ b o, h₀.get? b = some o → h.get? b = some o := fun x o q => hk1 x o q (by first | trivial | simp)
  generalize hL : lexOf (fun m => h₀.objs.size + m) (fun i => t₀ + i) ⟨⟨text⟩⟩ tb = L at hl1
  have f0 := hl1 _ (List.mem_cons_self ..)
  have f1 := hl1 _ (List.mem_cons_of_mem _ (List.mem_cons_self ..))
  have f2 := hl1 _ (List.mem_cons_of_mem _ (List.mem_cons_of_mem _ (List.mem_cons_self ..)))
  have f7 := hl1 _ (List.mem_cons_of_mem _ (List.mem_cons_of_mem _ (List.mem_cons_of_mem _ (List.mem_cons_self ..))))
  have f8 := hl1 _ (List.mem_cons_of_mem _ (List.mem_cons_of_mem _ (List.mem_cons_of_mem _ (List.mem_cons_of_mem _ (List.mem_cons_self ..)))))
  have f11 := hl1 _ (List.mem_cons_of_mem _ (List.mem_cons_of_mem _ (List.mem_cons_of_mem _ (List.mem_cons_of_mem _ (List.mem_cons_of_mem _ (List.mem_cons_self ..))))))
  have f12 := hl1 _ (List.mem_cons_of_mem _ (List.mem_cons_of_mem _ (List.mem_cons_of_mem _ (List.mem_cons_of_mem _ (List.mem_cons_of_mem _ (List.mem_cons_of_mem _ (List.mem_cons_self ..)))))))
  have f13 := hl1 _ (List.mem_cons_of_mem _ (List.mem_cons_of_mem _ (List.mem_cons_of_mem _ (List.mem_cons_of_mem _ (List.mem_cons_of_mem _ (List.mem_cons_of_mem _ (List.mem_cons_of_mem _ (List.mem_cons_self ..))))))))
  rw [lexDq_eq] at f1
  rw [ioDq_eq] at f7
  subst hL
  have OB : (lexOf (fun m => h₀.objs.size + m) (fun i => t₀ + i) ⟨⟨text⟩⟩ tb).OkB := by
    refine ⟨?_, ?_, by show text.length < 1000; omega⟩
    · show [h₀.objs.size + 2, h₀.objs.size + 1, h₀.objs.size + 11, h₀.objs.size + 12, h₀.objs.size + 8, h₀.objs.size + 7].Nodup
      simp
    · intro a ha
      have ha' : a ∈ [h₀.objs.size + 2, h₀.objs.size + 1, h₀.objs.size + 11, h₀.objs.size + 12, h₀.objs.size + 8, h₀.objs.size + 7] := ha
      replace ha' := memL ha'
      rcases ha' with rfl | rfl | rfl | rfl | rfl | rfl <;> exact hi7 _
  have G1 : Gr w h := G.keeps fun b o _ q => k01 b o q
  have hout : framesOf (envFn w.params 739 (h₀.objs.size + 0) :: outer) = (h₀.objs.size + 0) :: framesOf outer := framesOf_cons (frame739 _ _)
  have F1 : FunOk h (envFn w.params 739 (h₀.objs.size + 0) :: outer) := fun env henv => by
    rcases List.mem_cons.mp henv with rfl | henv
    · exact ⟨by rw [kind739]; decide, _, _, frame739 _ _, f0, fun vs q => by cases q⟩
    · obtain ⟨p1, La, oa, p2, p3, p4⟩ := F env henv
      exact ⟨p1, La, oa, p2, k01 _ _ p3, p4⟩
  have hapart : ∀ a ∈ framesOf (envFn w.params 739 (h₀.objs.size + 0) :: outer), a ∉ [h₀.objs.size + 2, h₀.objs.size + 1, h₀.objs.size + 11, h₀.objs.size + 12, h₀.objs.size + 8, h₀.objs.size + 7] ∧ a ∉ [h₀.objs.size + 13, h₀.objs.size + 1, h₀.objs.size + 7] := by
    intro a ha
    rw [hout] at ha
    simp only [List.mem_cons, List.not_mem_nil, or_false, not_or]
    rcases List.mem_cons.mp ha with rfl | ha
    · refine ⟨⟨npl _ 0 2 (by decide), npl _ 0 1 (by decide), npl _ 0 11 (by decide), npl _ 0 12 (by decide), npl _ 0 8 (by decide), npl _ 0 7 (by decide)⟩, npl _ 0 13 (by decide), npl _ 0 1 (by decide), npl _ 0 7 (by decide)⟩
    · have := hlow a ha
      exact ⟨⟨nlt 2 this, nlt 1 this, nlt 11 this, nlt 12 this, nlt 8 this, nlt 7 this⟩, nlt 13 this, nlt 1 this, nlt 7 this⟩
  have hbutnew : ∀ a ∈ [h₀.objs.size + 13, h₀.objs.size + 1, h₀.objs.size + 7], h₀.get? a = none := by
    intro a ha
    replace ha := memL ha
    rcases ha with rfl | rfl | rfl <;> exact hnew _
  have hbutnew2 : ∀ a ∈ (h₀.objs.size + 0) :: [h₀.objs.size + 13, h₀.objs.size + 1, h₀.objs.size + 7], h₀.get? a = none := by
    intro a ha
    rcases List.mem_cons.mp ha with rfl | ha
    · exact hnew _
    · exact hbutnew a ha
  have hhi1 : ∀ a ∈ framesOf (envFn w.params 739 (h₀.objs.size + 0) :: outer), 781 ≤ a := fun a ha => by
    rw [hout] at ha
    rcases List.mem_cons.mp ha with rfl | ha
    · exact hi7 _
    · exact hhi a ha
  have hfr1 : A'.frames = some (envFn w.params 739 (h₀.objs.size + 0) :: outer) := by rw [hb] at hfr'; exact hfr'
  refine list_init (L := lexOf (fun m => h₀.objs.size + m) (fun i => t₀ + i) ⟨⟨text⟩⟩ tb) (S := h₀.objs.size + 13) (A := A') OB (by omega) (hh.trans hh0) hfr1 (hi7 13) ?_ ?_ (fun a ha => (hapart a ha).1) hhi1 text ⟨h, g, dr, i, os⟩ G1
    ⟨f2, ⟨_, _, _, _, f1⟩, f11, f12, f8, ⟨0, _, f7, rfl, Nat.zero_le _⟩⟩ hs (by omega) F1 f13 (fun ws hws h2 i2 vs c' hst hS U => ?_) (fun hno h2 i2 e t tk X => ?_)
  · show h₀.objs.size + 13 ∉ [h₀.objs.size + 2, h₀.objs.size + 1, h₀.objs.size + 11, h₀.objs.size + 12, h₀.objs.size + 8, h₀.objs.size + 7]
    simp
  · rw [hout]
    intro z
    rcases List.mem_cons.mp z with z | z
    · exact npl _ 13 0 (by decide) z
    · exact nlt 13 (hlow _ z) rfl
  · have G2 : Gr w h2 := U.gr G1 (by
      intro a ha
      have ha' : a ∈ [h₀.objs.size + 13, h₀.objs.size + 1, h₀.objs.size + 7] := ha
      replace ha' := memL ha'
      rcases ha' with rfl | rfl | rfl <;> exact hi7 _) hhi1
    have O2 := mkOk (A := A) (t₀ := i2) (sps := []) (ini := []) G2 hb (fun _ h => nomatch h) (by omega) (fun sp hm => nomatch hm)
    refine hcont (.ok (.ret .none)) h2 i2 (cfgH w b c h2 i2 A.handled []) [] [] [] rfl O2 (mkHp (own := []) (fun _ h => nomatch h) List.nodup_nil) fun stk2 => ?_
    refine fine_ret (runS2_is w.params b c (fun m => h₀.objs.size + m) (fun i => t₀ + i) _ _ stk stk2 _ ⟨⟨text⟩⟩ tb) fun h3 i3 hl3 hk3 => ?_
    have k23 : ∀ b o, h2.get? b = some o → h3.get? b = some o := fun x o q => hk3 x o q (by first | trivial | simp)
    have U2 := (UpTo.drop (frame739 _ _) U).base k01 hbutnew2
    exact hR ws hws h3 _ (h₀.objs.size + 13) vs c' (hnew 13) (hi7 13) hst (k23 _ _ hS) ⟨fun b o q z1 z2 => k23 b o (U2.keep b o q z1 z2), fun b o q z1 z2 => by
      obtain ⟨sl, z⟩ := U2.slots b o q z1 z2
      exact ⟨sl, k23 _ _ z⟩⟩
  · have G2 : Gr w h2 := X.up.gr G1 (by
      intro a ha
      have ha' : a ∈ [h₀.objs.size + 13, h₀.objs.size + 1, h₀.objs.size + 7] := ha
      replace ha' := memL ha'
      rcases ha' with rfl | rfl | rfl <;> exact hi7 _) hhi1
    have O2 := mkOk (A := A) (t₀ := i2) (sps := []) (ini := []) G2 hb (fun _ h => nomatch h) (by omega) (fun sp hm => nomatch hm)
    refine hcont (.error (.ref e)) h2 i2 (cfgH w b c h2 i2 A.handled []) [] [] [] rfl O2 (mkHp (own := []) (fun _ h => nomatch h) List.nodup_nil) fun stk2 => ?_
    refine fine_err (runS3_is w.params b c (fun m => h₀.objs.size + m) (fun i => t₀ + i) _ _ stk stk2 _ ⟨⟨text⟩⟩ tb e) fun h3 i3 hl3 hk3 => ?_
    have k23 : ∀ b o, h2.get? b = some o → h3.get? b = some o := fun x o q => hk3 x o q (by first | trivial | simp)
    have eE : envFn (fP w.params b c) 739 (h₀.objs.size + 0) = envFn w.params 739 (h₀.objs.size + 0) := by rw [hb]
    show wpOwn _ A (.func (bodyFn (fP w.params b c) 739) (envFn (fP w.params b c) 739 (h₀.objs.size + 0))) (leaving (envFn (fP w.params b c) 739 (h₀.objs.size + 0)) (.ref e)) _ _ _
    rw [eE]
    refine fly_leaves (s := ⟨h3, g, dr, i3, os⟩) (X.keeps k23) hfr F1 (frame739 _ _) (fun a ha => (hapart a ha).2) fun h4 X4 => hE hno h4 _ e t tk (X4.base k01 hbutnew2)
end
end
section
noncomputable abbrev frameH (P : Params) (t : Nat) (buf : Str) (tb : Nat) (sl : Array (Option Value)) : Obj := { cls := .type "frame", data := .dict #[entQ P "text" t (.str buf tb)] 1, slots := sl }
noncomputable abbrev heardC (buf : Str) (tb : Nat) : Code := .call (.ref 763) ⟨[.str buf tb], []⟩
theorem runH0_is (P : Params) (b c : Bool) (rho tau : Nat → Nat) (stk : Stk) (h0 : Option Value) (buf : Str) (tb : Nat) :
    let o := entered (cfg (fP P b c) rho tau h0 []) stk [1529, 1, 1, 1] (heardC buf tb) []
    (chkL o, cutV [0] o) = (chkR o, some (.func (bodyFn (fP P b c) 763) (envFn (fP P b c) 763 (rho 0)), [(rho 0, frameH P (tau 0) buf tb #[])])) := by
  cases b <;> kernel_rfl
noncomputable def tryOf : List Stmt → Option (List Stmt × List ExceptHandler × Pos)
  | s :: _ => match s with
    | .Try b h _ _ p => some (b, h, p)
    | _ => none
  | [] => none
noncomputable def tbH (P : Params) : List Stmt := match tryOf (bodyFn P 763) with | some x => x.1 | none => []
noncomputable def thH (P : Params) : List ExceptHandler := match tryOf (bodyFn P 763) with | some x => x.2.1 | none => []
noncomputable def tpH (P : Params) : Pos := match tryOf (bodyFn P 763) with | some x => x.2.2 | none => default
theorem bodyH_is (P : Params) : bodyFn P 763 = [.Try (tbH P) (thH P) [] [] (tpH P)] := by kernel_rfl
theorem thH_ne (P : Params) : (thH P).isEmpty = false := by kernel_rfl
noncomputable def handleByQ : Value → Env → List ExceptHandler → Sem Flow := ZFast.zw14206642085496868694
theorem handleByQ_eq : handleByQ = handleBy := by unfold handleByQ; rw [← ZFast.ze14206642085496868694]
/-- the try's body in its def's frame -/
noncomputable def treeB (P : Params) (F : Addr) : Sem PySem.Fin := R.bindR (execsQ (tbH P) (envFn P 763 F)) fun f => .pure (.done f)
noncomputable def treeX (P : Params) (F : Addr) (e : Value) : Sem PySem.Fin := R.bindR (handleByQ e (envFn P 763 F) (thH P)) fun f => .pure (.done f)
/-- a tree's run -/
@[irreducible] noncomputable def ran (V : Cfg) (stk : Stk) (adv : List Nat) (c : Code) (t : Sem PySem.Fin) (own : List (Addr × Obj)) : Out := ssim V stk 100000 adv c .plain .base t own 0 0 0 [] [] []
noncomputable abbrev funcH (P : Params) (F : Addr) : Code := .func (bodyFn P 763) (envFn P 763 F)
end
section
theorem cUnits_le (c : Code) : c.cUnits ≤ 10 * wt c := by
  have hf : c.frames ≤ 3 := by
    unfold Code.frames
    split <;> first | omega | (split <;> omega)
  have hw : 1 ≤ wt c := by
    unfold wt
    split
    · split <;> omega
    · omega
  unfold Code.cUnits
  split <;> omega
theorem ar_units (A₀ : Around) : ∀ κ : Kn, (ar A₀ κ).units ≤ A₀.units + 10 * kdep κ
  | .base => Nat.le_refl _
  | .ret c hd k md κ => by
    have := ar_units A₀ κ
    have hw := cUnits_le c
    show (ar A₀ κ).units + c.cUnits ≤ A₀.units + 10 * (wt c + kdep κ)
    omega
/-- a run that is cut at a call, whatever is handled there -/
noncomputable def cutU (js : List Nat) (o : Out) : Option (Code × List (Addr × Obj)) := match o.kind with
  | .cut c κ own _ _ => match κ with
    | .ret _ _ _ _ _ => match Nat.blt (kdep κ) 40 with
      | true => (picks own js).map fun l => (c, l)
      | false => none
    | .base => none
  | _ => none
theorem cutU_of {js : List Nat} {o : Out} {c : Code} {l : List (Addr × Obj)} (e : cutU js o = some (c, l)) :
    ∃ own m i c₁ hd k md κ, o.kind = .cut c (.ret c₁ hd k md κ) own m i ∧ kdep (.ret c₁ hd k md κ) < 40 ∧ picks own js = some l := by
  unfold cutU at e
  split at e
  · rename_i c' κ own m i hk
    split at e
    · rename_i c₁ hd k md κ'
      split at e
      · rename_i hw
        cases hp : picks own js with
        | none => rw [hp] at e; cases e
        | some l' => rw [hp] at e; cases e; exact ⟨own, m, i, c₁, hd, k, md, κ', hk, Nat.le_of_ble_eq_true hw, hp⟩
      · cases e
    · cases e
  · cases e
theorem cutU_of_cutR {js : List Nat} {o : Out} {r : Code × List (Addr × Obj)} (e : cutR js o = some r) : cutU js o = some r := by
  obtain ⟨c, l⟩ := r
  obtain ⟨own, m, i, c₁, hd, k, md, κ, hk, _, hw, hp⟩ := cutR_of e
  unfold cutU
  rw [hk]
  simp only
  have : Nat.blt (kdep (.ret c₁ hd k md κ)) 40 = true := by
    rw [Nat.blt_eq]; exact hw
  rw [this, hp]; rfl
section
variable {V : Cfg} {w : World} {A : Around} {R : Result → Shared → Prop} {g : Array GenState} {d : Drawn} {os : OsState} {t₀ : Nat} {ini : List Addr} {h₀ : Heap} {o : Out}
/-- a run that is cut at a call which trees await: the call by a contract, then the run goes on -/
theorem fine_callU {js : List Nat} {c' : Code} {l : List (Addr × Obj)} (e : (chkL o, cutU js o) = (chkR o, some (c', l)))
    (hnext : ∀ A' R' h i, A'.depth ≤ A.depth + 40 → A'.units ≤ A.units + 400 → (∀ p ∈ l, h.get? p.1 = some p.2) → (∀ b o, h₀.get? b = some o → b ∉ ini → h.get? b = some o) →
      (∀ r h2 i2 V2 own2 ini2 adv2, V2.prog = V.prog → V2.Ok w A i2 ini2 h2 → Hp ini2 h2 h2 own2 0 → (∀ stk2, Fine V2 w A R g d os i2 ini2 h2 (res o r V2 stk2 adv2 own2)) → R' r ⟨h2, g, d, i2, os⟩) →
      codeAny (model V.prog w) A' c' R' ⟨h, g, d, i, os⟩) : Fine V w A R g d os t₀ ini h₀ o := by
  refine ⟨chk_of (congrArg Prod.fst e), ?_⟩
  obtain ⟨own', m, i, c₁, hd', k, md, κ', hk, hw2, hp⟩ := cutU_of (congrArg Prod.snd e)
  unfold Good
  rw [hk]
  intro h D'
  refine hnext _ _ h _ ?_ ?_ (fun p hp' => D'.has p (picks_mem hp p hp')) D'.keep ?_
  · have := ar_depth A (.ret c₁ hd' k md κ')
    omega
  · have := ar_units A (.ret c₁ hd' k md κ')
    omega
  · intro r h2 i2 V2 own2 ini2 adv2 hpr O2 D2 F2
    show runS V.prog w (ar A κ') (endS V.prog w A R κ') c₁ md (k r) ⟨h2, g, d, i2, os⟩
    have F3 : ∀ stk2, Fine V2 w A R g d os i2 ini2 h2 (ssim V2 stk2 100000 adv2 c₁ md κ' (k r) own2 0 0 0 [] [] []) := fun stk2 => by
      have := F2 stk2
      unfold res at this
      rw [hk] at this
      exact this
    have z := ssim_sound O2 100000 adv2 c₁ md κ' (k r) own2 0 0 0 [] [] [] h2 (fun _ => (default, [])) (fun stk2 _ => F3 stk2) D2
    rw [hpr] at z
    exact z
/-- the same with all that is known of what waits -/
theorem fine_callA {js : List Nat} {c' : Code} {l : List (Addr × Obj)} {envs outer : List Env} (hfr : A.frames = some outer) (qe : kenvV o = some envs) (e : (chkL o, cutR js o) = (chkR o, some (c', l)))
    (hnext : ∀ A' R' h i, A'.depth ≤ A.depth + 40 → A'.units ≤ A.units + 400 → A'.handled = A.handled → A'.frames = some (envs ++ outer) → (∀ p ∈ l, h.get? p.1 = some p.2) → (∀ b o, h₀.get? b = some o → b ∉ ini → h.get? b = some o) →
      (∀ r h2 i2 V2 own2 ini2 adv2, V2.prog = V.prog → V2.Ok w A i2 ini2 h2 → Hp ini2 h2 h2 own2 0 → (∀ stk2, Fine V2 w A R g d os i2 ini2 h2 (res o r V2 stk2 adv2 own2)) → R' r ⟨h2, g, d, i2, os⟩) →
      codeAny (model V.prog w) A' c' R' ⟨h, g, d, i, os⟩) : Fine V w A R g d os t₀ ini h₀ o := by
  refine ⟨chk_of (congrArg Prod.fst e), ?_⟩
  obtain ⟨own', m, i, c₁, hd', k, md, κ', hk, hw1, hw2, hp⟩ := cutR_of (congrArg Prod.snd e)
  have hke : envs = kEnvs (.ret c₁ hd' k md κ') := by
    unfold kenvV at qe
    rw [hk] at qe
    exact (Option.some.inj qe).symm
  unfold Good
  rw [hk]
  intro h D'
  refine hnext _ _ h _ ?_ ?_ ?_ ?_ (fun p hp' => D'.has p (picks_mem hp p hp')) D'.keep ?_
  · have := ar_depth A (.ret c₁ hd' k md κ')
    omega
  · have := ar_units A (.ret c₁ hd' k md κ')
    omega
  · rw [ar_hand]; exact khand_none hw1
  · rw [ar_frames hfr, hke]
  · intro r h2 i2 V2 own2 ini2 adv2 hpr O2 D2 F2
    show runS V.prog w (ar A κ') (endS V.prog w A R κ') c₁ md (k r) ⟨h2, g, d, i2, os⟩
    have F3 : ∀ stk2, Fine V2 w A R g d os i2 ini2 h2 (ssim V2 stk2 100000 adv2 c₁ md κ' (k r) own2 0 0 0 [] [] []) := fun stk2 => by
      have := F2 stk2
      unfold res at this
      rw [hk] at this
      exact this
    have z := ssim_sound O2 100000 adv2 c₁ md κ' (k r) own2 0 0 0 [] [] [] h2 (fun _ => (default, [])) (fun stk2 _ => F3 stk2) D2
    rw [hpr] at z
    exact z
/-- a tree's run, by what its end is -/
theorem ran_fine (O : V.Ok w A t₀ ini h₀) {own : List (Addr × Obj)} (D : Hp ini h₀ h₀ own 0) {adv : List Nat} {c : Code} {t : Sem PySem.Fin} (F : ∀ stk, Fine V w A R g d os t₀ ini h₀ (ran V stk adv c t own)) :
    wpOwn (model V.prog w) A c t (postC V.prog w A R) (postE R) ⟨h₀, g, d, t₀, os⟩ := by
  have z := ssim_sound O 100000 adv c .plain .base t own 0 0 0 [] [] [] h₀ (fun _ => (default, [])) (fun stk _ => by
    have := F stk
    unfold ran at this
    exact this) D
  exact z
end
/-- a flow's tree from the tree that closes it -/
theorem flow_of {prog : Program} {w : World} {A : Around} {R : Result → Shared → Prop} {c : Code} {m : Sem Flow} {s : Shared} (h : wpOwn (model prog w) A c (PySem.W.R.bindR m fun f => .pure (.done f)) (postC prog w A R) (postE R) s) :
    wpOwn (model prog w) A c m (fun f s => R (.ok f) s) (fun e s => R (.error e) s) s := by
  intro Γ p hc hΓ
  have x := h Γ p hc hΓ
  rw [← PySem.W.R.bindR_eq] at x
  simp only [Sem.wp_bind] at x
  exact x
noncomputable def qe (Q : Flow → Shared → Prop) (E : Value → Shared → Prop) : Result → Shared → Prop := fun r s => match r with
  | .ok f => Q f s
  | .error e => E e s
theorem flow_to {prog : Program} {w : World} {A : Around} {Q : Flow → Shared → Prop} {E : Value → Shared → Prop} {c : Code} {m : Sem Flow} {s : Shared} (h : wpOwn (model prog w) A c (PySem.W.R.bindR m fun f => .pure (.done f)) (postC prog w A (qe Q E)) (postE (qe Q E)) s) :
    wpOwn (model prog w) A c m Q E s := flow_of h
theorem wpOwn_attempt {α : Type} {M : Model} {A : Around} {E : Value → Shared → Prop} {s : Shared} {c : Code} {m : Sem α} {Q : Except Value α → Shared → Prop} (h : wpOwn M A c m (fun a => Q (.ok a)) (fun e => Q (.error e)) s) : wpOwn M A c m.attempt Q E s :=
  fun Γ p hc hΓ => by rw [Sem.wp_attempt]; exact h Γ p hc hΓ
theorem wpOwn_pure {α : Type} {M : Model} {A : Around} {E : Value → Shared → Prop} {s : Shared} {c : Code} {a : α} {Q : α → Shared → Prop} (h : Q a s) : wpOwn M A c (pure a) Q E s := fun _ _ _ _ => h
/-- a def's code by its body -/
theorem func_of {prog : Program} {w : World} {A : Around} {R : Result → Shared → Prop} {body : List Stmt} {env : Env} {s : Shared}
    (h : wpOwn (model prog w) A (.func body env) (execs body env) (fun f s' => R (.ok (.ret (match f with | .ret v => v | _ => .none))) s')
      (fun e s' => wpOwn (model prog w) A (.func body env) (leaving env e) (fun _ s'' => R (.error e) s'') (fun e' s'' => R (.error e') s'') s') s) : codeAny (model prog w) A (.func body env) R s := by
  refine y_code _ _ _ _ _ _ ?_
  intro Γ p hc hΓ
  have x' := h Γ p hc hΓ
  show Sem.wp _ Γ (do point; match ← (execs body env).onRaise (leaving env) with | .ret v => ret v | _ => ret .none) _ _ p s
  simp only [Sem.wp_bind']
  show Sem.wp _ Γ ((execs body env).onRaise (leaving env)) _ _ p s
  rw [Sem.wp_onRaise]
  refine Sem.wp_mono _ Γ _ (fun f p' s' h => ?_) (fun v p' s' h => ?_) p s x'
  · cases f <;> exact h
  · exact h Γ p' hc hΓ
theorem str_exc {prog : Program} {w : World} {A : Around} {R : Result → Shared → Prop} {s : Shared} {e t0 : Addr} {m : Str} {tk : Tok} (hu : A.units + 1 < cLine) (x : s.heap.ExcAt e "ValueError" (.ref t0)) (ht : s.heap.TupAt t0 [.str m tk]) (hR : R (.ok (.ret (.str m tk))) s) :
    codeAny (model prog w) A (.builtin "str.__new__" ⟨[.type "str", .ref e], []⟩) R s := by
  refine codeAny_builtin PySem.F.entry_str_new ?_
  rw [Around.under_plainId (by decide +kernel) _]
  have := meets_str_new (v := .ref e) (S := fun A R s => A.units + 1 < cLine ∧ s.heap.ExcAt e "ValueError" (.ref t0) ∧ s.heap.TupAt t0 [.str m tk] ∧ R (.ok (.ret (.str m tk))) s) (fun prog w A R s h =>
    strOf_exc_one PySem.F.excStr_ValueError (by show A.units + 1 < cLine; exact h.1) h.2.1 h.2.2.1 h.2.2.2)
  exact this prog w A R s ⟨hu, x, ht, hR⟩
end
section
noncomputable abbrev runH1 (P : Params) (b c : Bool) (rho tau : Nat → Nat) (stk : Stk) (h0 : Option Value) (F : Addr) (t : Nat) (buf : Str) (tb : Nat) (sl : Array (Option Value)) : Out :=
  ran (cfg (fP P b c) rho tau h0 []) stk [6, 1, 1478, 1] (funcH (fP P b c) F) (treeB (fP P b c) F) [(F, frameH P t buf tb sl)]
theorem runH1_is (P : Params) (b c : Bool) (rho tau : Nat → Nat) (stk : Stk) (h0 : Option Value) (F : Addr) (t : Nat) (buf : Str) (tb : Nat) (sl : Array (Option Value)) :
    let o := runH1 P b c rho tau stk h0 F t buf tb sl
    (chkL o, cutR [0] o) = (chkR o, some (splitC buf tb, [(F, frameH P t buf tb sl)])) := by
  cases b <;> kernel_rfl
theorem runH1_envs (P : Params) (b c : Bool) (rho tau : Nat → Nat) (stk : Stk) (h0 : Option Value) (F : Addr) (t : Nat) (buf : Str) (tb : Nat) (sl : Array (Option Value)) :
    kenvV (runH1 P b c rho tau stk h0 F t buf tb sl) = some [envFn (fP P b c) 763 F] := by
  cases b <;> kernel_rfl
theorem runH2_is (P : Params) (b c : Bool) (rho tau rho2 tau2 : Nat → Nat) (stk stk2 : Stk) (h0 : Option Value) (F : Addr) (t : Nat) (buf : Str) (tb : Nat) (sl : Array (Option Value)) (l : Addr) :
    let o := res (runH1 P b c rho tau stk h0 F t buf tb sl) (.ok (.ret (.ref l))) (cfg (fP P b c) rho2 tau2 h0 []) stk2 [] []
    (chkL o, retV [] o) = (chkR o, some (.ok (.ret (.ref l)), [])) := by
  cases b <;> kernel_rfl
theorem runH3_is (P : Params) (b c : Bool) (rho tau rho2 tau2 : Nat → Nat) (stk stk2 : Stk) (h0 : Option Value) (F : Addr) (t : Nat) (buf : Str) (tb : Nat) (sl : Array (Option Value)) (e : Addr) :
    let o := res (runH1 P b c rho tau stk h0 F t buf tb sl) (.error (.ref e)) (cfg (fP P b c) rho2 tau2 h0 []) stk2 [] []
    (chkL o, retV [] o) = (chkR o, some (.error (.ref e), [])) := by
  cases b <;> kernel_rfl
noncomputable abbrev wayU (dx : Option Addr) (sx : Array (Option Value)) (n : Nat) (tk : Nat) : Obj := { cls := .type "tuple", dict := dx, data := .seq #[.str noEsc tk] n, slots := sx }
noncomputable def advH4 : List Nat := [0, 6, 0, 3, 0, 3, 5, 5, 1, 1, 6, 0, 1, 0, 0, 0, 1]
noncomputable def advH5 : List Nat := [0, 0, 1, 1, 1, 1]
noncomputable abbrev runH4 (P : Params) (b c : Bool) (rho tau : Nat → Nat) (stk : Stk) (h0 : Option Value) (F : Addr) (t : Nat) (buf : Str) (tb : Nat) (sl : Array (Option Value)) (e T u : Addr) (ct : Value) (dx dt du : Option Addr) (sx st su : Array (Option Value)) (a0 a1 a2 : Value) (vr ar : List Value) (nu tk : Nat) : Out :=
  ran (cfg (fP P b c) rho tau h0 []) stk advH4 (funcH (fP P b c) F) (treeX (fP P b c) F (.ref e)) [(F, frameH P t buf tb sl), (e, wayE (.type "ValueError") dx sx (.ref u) T vr), (T, wayT ct dt st a0 a1 a2 .none ar), (u, wayU du su nu tk)]
noncomputable abbrev frameX (P : Params) (t : Nat) (buf : Str) (tb : Nat) (sl : Array (Option Value)) (te : Nat) (e : Addr) : Obj := { cls := .type "frame", data := .dict #[entQ P "text" t (.str buf tb), entQ P "error" te (.ref e)] 2, slots := sl }
theorem runH4_is (P : Params) (b c : Bool) (rho tau : Nat → Nat) (stk : Stk) (h0 : Option Value) (F : Addr) (t : Nat) (buf : Str) (tb : Nat) (sl : Array (Option Value)) (e T u : Addr) (ct : Value) (dx dt du : Option Addr) (sx st su : Array (Option Value)) (a0 a1 a2 : Value) (vr ar : List Value) (nu tk : Nat) :
    let o := runH4 P b c rho tau stk h0 F t buf tb sl e T u ct dx dt du sx st su a0 a1 a2 vr ar nu tk
    (chkL o, cutU [0, 1, 2, 3] o) = (chkR o, some (.builtin "str.__new__" ⟨[.type "str", .ref e], []⟩, [(F, frameX P t buf tb sl (tau 0) e), (e, wayE (.type "ValueError") dx sx (.ref u) T vr), (T, wayT ct dt st a0 a1 a2 .none ar), (u, wayU du su nu tk)])) := by
  cases b <;> kernel_rfl
theorem runH5_is (P : Params) (b c : Bool) (rho tau rho2 tau2 : Nat → Nat) (stk stk2 : Stk) (h0 : Option Value) (F : Addr) (t : Nat) (buf : Str) (tb : Nat) (sl : Array (Option Value)) (e T u : Addr) (ct : Value) (dx dt du : Option Addr) (sx st su : Array (Option Value)) (a0 a1 a2 : Value) (vr ar : List Value) (nu tk : Nat) :
    let o := res (runH4 P b c rho tau stk h0 F t buf tb sl e T u ct dx dt du sx st su a0 a1 a2 vr ar nu tk) (.ok (.ret (.str noEsc tk))) (cfg (fP P b c) rho2 tau2 h0 []) stk2 advH5 [(F, frameX P t buf tb sl (tau 0) e)]
    (chkL o, retV [] o) = (chkR o, some (.ok (.ret (.str noEsc tk)), [])) := by
  cases b <;> kernel_rfl
end
section
theorem try_of {M : Model} {A : Around} {E : Value → Shared → Prop} {s : Shared} {c : Code} {env : Env} {body orelse : Sem Flow} {hs : List ExceptHandler} {Q : Flow → Shared → Prop} (hne : hs.isEmpty = false)
    (h : wpOwn M A c body (fun f s₁ => match f with | .next => wpOwn M A c orelse Q E s₁ | f => Q f s₁)
      (fun e s₁ => wpOwn M A c (noteFrame e env) (fun _ s₂ => wpOwn M A c (setFlight e none) (fun _ s₃ => wpOwn M A c (handleBy e env hs) Q E s₃) E s₂) E s₁) s) :
    wpOwn M A c (tryStmt false body hs orelse [] env) Q E s := by
  unfold tryStmt
  simp only [List.isEmpty_nil, if_true, hne, Bool.false_and, Bool.false_eq_true, if_false]
  refine wpOwn_bind (wpOwn_attempt (wpOwn_mono h (fun f s₁ h₁ => ?_) fun e s₁ h₁ => ?_))
  · cases f <;> first | exact h₁ | exact wpOwn_pure h₁
  · exact wpOwn_bind (wpOwn_mono h₁ (fun _ _ h₂ => wpOwn_bind h₂) fun _ _ x => x)
theorem execH (P : Params) (env : Env) : execs (bodyFn P 763) env = (do
    match ← (do standAt (tpH P); tryStmt false (execs (tbH P) env) (thH P) (execs [] env) [] env) with
    | .next => execs [] env
    | f => pure f) := by rw [bodyH_is, arm_execs_cons, arm_exec_Try]; rfl
theorem kind763 (P : Params) (F : Addr) : (envFn P 763 F).scope.kind = .function := by kernel_rfl
theorem frame763 (P : Params) (F : Addr) : (envFn P 763 F).frame = some F := by kernel_rfl
theorem fields_two {vs : Array Value} {x y : Value} (h0 : vs[0]? = some x) (h1 : vs[1]? = some y) : ∃ vr, vs = ⟨x :: y :: vr⟩ := by
  obtain ⟨vl⟩ := vs
  match vl, h0, h1 with
  | a :: b :: vr, h0, h1 =>
    simp at h0 h1
    exact ⟨vr, by rw [h0, h1]⟩
  | [a], h0, h1 => simp at h1
  | [], h0, h1 => simp at h0
theorem fields_four {vs : Array Value} {x : Value} (h3 : vs[3]? = some x) : ∃ z0 z1 z2 zr, vs = ⟨z0 :: z1 :: z2 :: x :: zr⟩ := by
  obtain ⟨vl⟩ := vs
  match vl, h3 with
  | x0 :: x1 :: x2 :: x3 :: vr, h3 =>
    simp at h3
    exact ⟨x0, x1, x2, vr, by rw [h3]⟩
  | [x0, x1, x2], h3 => simp at h3
  | [x0, x1], h3 => simp at h3
  | [x0], h3 => simp at h3
  | [], h3 => simp at h3
theorem statics_look (P : Params) : ∃ o, (Mine.K0 P).lookup 2 = some o := by
  have : ((Mine.K0 P).lookup 2).isSome = true := by kernel_rfl
  exact Option.isSome_iff_exists.mp this
theorem Gr.keepsL {w : World} {h h' : Heap} (x : Gr w h) (k : ∀ b o, (Mine.K0 w.params).lookup b = some o → h.get? b = some o → h'.get? b = some o) : Gr w h' := by
  refine ⟨fun a o e => k a o e (x.inn a o e), Heap.NoLimit.at x.nl fun o e => ?_⟩
  obtain ⟨o', q⟩ := statics_look w.params
  have : o' = o := Option.some.inj ((x.inn 2 o' q).symm.trans e)
  subst this
  exact k 2 o' q e
theorem data_ne {h : Heap} {a : Addr} {o o' : Obj} (h1 : h.get? a = some o) (h2 : h.get? a = some o') (hd' : o.data = o'.data → False) : False := hd' (congrArg Obj.data (Option.some.inj (h1.symm.trans h2)))
section
variable {w : World} {R : Result → Shared → Prop}
theorem heard_is {A : Around} (hA : A.depth + 300 ≤ recursionLimit) (hU : A.units + 1000 < cLine) (hh0 : A.handled = none) {outer : List Env} (hfr : A.frames = some outer) (hhi : ∀ a ∈ framesOf outer, 781 ≤ a) {s : Shared} (G : Gr w s.heap) (F : FunOk s.heap outer) (text : List Nat) (tb : Nat) (hs : ∀ x ∈ text, isSign x) (hl : text.length < 900)
    (hR : ∀ ws, allF false text = some ws → ∀ h i l vs c', s.heap.get? l = none → 781 ≤ l → StrsAre vs ws → h.get? l = some (listO vs c') → UpTo outer [] s.heap h → R (.ok (.ret (.ref l))) ⟨h, s.gens, s.drawn, i, s.os⟩)
    (hE : allF false text = none → ∀ h i tk, UpTo outer [] s.heap h → R (.ok (.ret (.str noEsc tk))) ⟨h, s.gens, s.drawn, i, s.os⟩) :
    codeAny (model theProg w) A (heardC ⟨⟨text⟩⟩ tb) R s := by
  obtain ⟨h₀, g, dr, t₀, os⟩ := s
  have hb := fP_self w.params
  generalize w.params.followText "special-get-raises" = b at hb
  generalize w.params.followText "comprehension-iter-twice" = c at hb
  have h7 : 781 ≤ h₀.objs.size := size781 G
  have hnew0 : h₀.get? (h₀.objs.size + 0) = none := by
    cases q : h₀.get? (h₀.objs.size + 0) with
    | none => rfl
    | some o => exact absurd (Heap.lt_size q) (Nat.not_lt.mpr (Nat.le_add_right ..))
  have hlow : ∀ a ∈ framesOf outer, a < h₀.objs.size := fun a ha => by
    obtain ⟨o, q, _⟩ := F.mem ha
    exact Heap.lt_size q
  have O1 := mkOk (A := A) (t₀ := t₀) (sps := []) (ini := []) G hb (fun _ h => nomatch h) (by omega) (fun sp hm => nomatch hm)
  refine run_fine O1 (mkHp (h := h₀) (own := []) (fun _ h => nomatch h) List.nodup_nil) (adv := [1529, 1, 1, 1]) fun stk => fine_cut (runH0_is w.params b c _ _ stk _ ⟨⟨text⟩⟩ tb) fun h1 i1 hl1 hk1 => ?_
  have k01 : ∀ b o, h₀.get? b = some o → h1.get? b = some o := fun x o q => hk1 x o q (by first | trivial | simp)
  have f0 : h1.get? (h₀.objs.size + 0) = some (frameH w.params (t₀ + 0) ⟨⟨text⟩⟩ tb #[]) := hl1 _ (List.mem_cons_self ..)
  have G1 : Gr w h1 := G.keeps fun b o _ q => k01 b o q
  have h7F : 781 ≤ h₀.objs.size + 0 := Nat.le_trans h7 (Nat.le_add_right ..)
  generalize h₀.objs.size + 0 = F0 at *
  have hF0out : F0 ∉ framesOf outer := fun hm => by
    obtain ⟨o, q, _⟩ := F.mem hm
    have q' : h₀.get? F0 = some o := q
    rw [hnew0] at q'; cases q'
  have hout : framesOf (envFn w.params 763 F0 :: outer) = F0 :: framesOf outer := framesOf_cons (frame763 _ _)
  have F1 : FunOk h1 (envFn w.params 763 F0 :: outer) := fun env henv => by
    rcases List.mem_cons.mp henv with rfl | henv
    · exact ⟨by rw [kind763]; decide, _, _, frame763 _ _, f0, fun vs q => by cases q⟩
    · obtain ⟨p1, La, oa, p2, p3, p4⟩ := F env henv
      exact ⟨p1, La, oa, p2, k01 _ _ p3, p4⟩
  have hhi1 : ∀ a ∈ framesOf (envFn w.params 763 F0 :: outer), 781 ≤ a := fun a ha => by
    rw [hout] at ha
    rcases List.mem_cons.mp ha with rfl | ha
    · exact h7F
    · exact hhi a ha
  refine func_of ?_
  rw [execH]
  refine wpOwn_bind (wpOwn_bind (wpOwn_of_wpAny (wpAny_standAt ?_)))
  refine try_of (thH_ne _) ?_
  have D1 := mkHp (h := h1) (own := [(F0, frameH w.params (t₀ + 0) ⟨⟨text⟩⟩ tb #[])]) (by intro p hp; replace hp := memL hp; subst hp; exact f0) (by first | trivial | simp)
  have O2 := mkOk (A := A) (t₀ := i1) (sps := []) (ini := [F0]) G1 hb (by intro a ha; replace ha := memL ha; subst ha; exact h7F) (by omega) (fun sp hm => nomatch hm)
  have exQ : execsQ = execs := by unfold execsQ; rw [← ZFast.ze12563942051412417395]
  refine flow_to ?_
  have eB : PySem.W.R.bindR (execs (tbH (fP w.params b c)) (envFn (fP w.params b c) 763 F0)) (fun f => .pure (.done f)) = treeB (fP w.params b c) F0 := by rw [← exQ]; rfl
  rw [eB]
  refine ran_fine (V := cfgH w b c h1 i1 A.handled []) O2 D1 (adv := [6, 1, 1478, 1]) fun stk1 => fine_callA hfr (runH1_envs w.params b c _ _ stk1 _ F0 (t₀ + 0) ⟨⟨text⟩⟩ tb #[]) (runH1_is w.params b c _ _ stk1 _ F0 (t₀ + 0) ⟨⟨text⟩⟩ tb #[]) fun A2 R2 h2 i2 hdep2 hun2 hh2 hfr2 hl2 hk2 hcont2 => ?_
  have k12 : ∀ b o, h1.get? b = some o → h2.get? b = some o := fun x o q => by
    by_cases z : x = F0
    · subst z; rw [Option.some.inj (q.symm.trans f0)]; exact hl2 _ (List.mem_cons_self ..)
    · exact hk2 x o q (nmL z)
  have k02 : ∀ b o, h₀.get? b = some o → h2.get? b = some o := fun x o q => k12 x o (k01 x o q)
  have F2 : FunOk h2 (envFn w.params 763 F0 :: outer) := fun env henv => by
    obtain ⟨p1, La, oa, p2, p3, p4⟩ := F1 env henv
    exact ⟨p1, La, oa, p2, k12 _ _ p3, p4⟩
  have G2 : Gr w h2 := G1.keeps fun b o _ q => k12 b o q
  have hfr2' : A2.frames = some (envFn w.params 763 F0 :: outer) := by rw [hb] at hfr2; exact hfr2
  have new2 : ∀ a, h2.get? a = none → h₀.get? a = none := fun a ha => by
    cases q : h₀.get? a with
    | none => rfl
    | some o => have := k02 a o q; rw [ha] at this; cases this
  refine split_is (A := A2) (s := ⟨h2, g, dr, i2, os⟩) (by omega) (hh2.trans hh0) hfr2' hhi1 G2 F2 text tb hs hl (fun ws hws h3 i3 l vs c' hln hl7 hst hlist U => ?_) (fun hno h3 i3 e t tk X => ?_)
  · have G3 : Gr w h3 := U.gr G2 (fun _ h => nomatch h) hhi1
    have O3 := mkOk (A := A) (t₀ := i3) (sps := []) (ini := []) G3 hb (fun _ h => nomatch h) (by omega) (fun sp hm => nomatch hm)
    refine hcont2 (.ok (.ret (.ref l))) h3 i3 (cfgH w b c h3 i3 A.handled []) [] [] [] rfl O3 (mkHp (own := []) (fun _ h => nomatch h) List.nodup_nil) fun stk3 => ?_
    refine fine_ret (runH2_is w.params b c _ _ _ _ stk1 stk3 _ F0 (t₀ + 0) ⟨⟨text⟩⟩ tb #[] l) fun h4 i4 hl4 hk4 => ?_
    have k34 : ∀ b o, h3.get? b = some o → h4.get? b = some o := fun x o q => hk4 x o q (by first | trivial | simp)
    refine wpOwn_pure ?_
    have U2 := (UpTo.drop (frame763 _ _) U).base k02 (by intro a ha; replace ha := memL ha; subst ha; exact hnew0)
    exact hR ws hws h4 _ l vs c' (new2 l hln) hl7 hst (k34 _ _ hlist) (U2.keeps k34)
  · have G3 : Gr w h3 := X.up.gr G2 (fun _ h => nomatch h) hhi1
    have O3 := mkOk (A := A) (t₀ := i3) (sps := []) (ini := []) G3 hb (fun _ h => nomatch h) (by omega) (fun sp hm => nomatch hm)
    refine hcont2 (.error (.ref e)) h3 i3 (cfgH w b c h3 i3 A.handled []) [] [] [] rfl O3 (mkHp (own := []) (fun _ h => nomatch h) List.nodup_nil) fun stk3 => ?_
    refine fine_ret (runH3_is w.params b c _ _ _ _ stk1 stk3 _ F0 (t₀ + 0) ⟨⟨text⟩⟩ tb #[] e) fun h4 i4 hl4 hk4 => ?_
    have k34 : ∀ b o, h3.get? b = some o → h4.get? b = some o := fun x o q => hk4 x o q (by first | trivial | simp)
    have X4 := X.keeps k34
    have eE : envFn (fP w.params b c) 763 F0 = envFn w.params 763 F0 := by rw [hb]
    have fl4 := X4.flying F2 (fun _ _ h => nomatch h)
    have hideE : ∀ a o, (hideAll h2 ([] ++ framesOf (envFn w.params 763 F0 :: outer))).get? a = some o → h2.get? a = some o := fun a o q => of_hideAll _ q
    have inB : ∀ a o, h2.get? a = some o → a ∉ framesOf (envFn w.params 763 F0 :: outer) → (hideAll h2 ([] ++ framesOf (envFn w.params 763 F0 :: outer))).get? a = some o := fun a o q z => hideAll_get _ q (by simpa using z)
    generalize hideAll h2 ([] ++ framesOf (envFn w.params 763 F0 :: outer)) = Bs at fl4 hideE inB
    have hfrU : (A.under (.func (bodyFn (fP w.params b c) 763) (envFn (fP w.params b c) 763 F0))).frames = some (envFn (fP w.params b c) 763 F0 :: outer) := by
      show (A.deeper (envFn (fP w.params b c) 763 F0)).frames = _
      exact Around.frames_deeper hfr
    show wpOwn _ A _ (noteFrame (.ref e) (envFn (fP w.params b c) 763 F0)) _ _ _
    refine wpOwn_of_wpAny (wpAny_looks_onW (s := ⟨h4, g, dr, i4, os⟩) hfrU (frame763 _ _) (by rw [eE]; exact fl4) fun h5 fl5 up5 => ?_)
    refine wpOwn_of_wpAny (wpAny_landsW (s := ⟨h5, g, dr, i4, os⟩) fl5 fun h6 fl6 up6 => ?_)
    have up46 : h4.UpToSlots h6 := up5.trans up6
    obtain ⟨sl, g0⟩ : ∃ sl, h6.get? F0 = some (frameH w.params (t₀ + 0) ⟨⟨text⟩⟩ tb sl) := by
      have q2 : h2.get? F0 = some (frameH w.params (t₀ + 0) ⟨⟨text⟩⟩ tb #[]) := k12 _ _ f0
      obtain ⟨sl1, q4⟩ := X4.up.slots F0 _ q2 (fun h => nomatch h) (fun vs q => by cases q)
      obtain ⟨sl2, q6⟩ := up46 F0 _ q4 (fun vs q => by cases q)
      exact ⟨sl2, q6⟩
    obtain ⟨ot, nt, gt, gt1, gt2⟩ := X4.tup.of_slots up46
    obtain ⟨oe, vs, T, oT, tsv, ge, ⟨ge1, ge2⟩, ge3, ge4, gn, gne, gT, gT1, gT2⟩ := fl6.2.2.2
    obtain ⟨cx, dx, dte, sx⟩ := oe
    obtain ⟨cT, dT, dtT, sT⟩ := oT
    obtain ⟨ct, dt, dtt, st⟩ := ot
    simp only at ge1 ge3 gT1 gt1 gt2
    subst ge1 ge3 gT1 gt1 gt2
    obtain ⟨vr, rfl⟩ := fields_two ge2 ge4
    obtain ⟨z0, z1, z2, zr, rfl⟩ := fields_four gT2
    have neE : e ≠ F0 := fun q => data_ne (q ▸ ge) g0 (fun z => by cases z)
    have neT : T ≠ F0 := fun q => data_ne (q ▸ gT) g0 (fun z => by cases z)
    have net : t ≠ F0 := fun q => data_ne (q ▸ gt) g0 (fun z => by cases z)
    have nte : t ≠ e := fun q => data_ne (q ▸ gt) ge (fun z => by cases z)
    have ntT : t ≠ T := fun q => data_ne (q ▸ gt) gT (fun z => by cases z)
    have hnbase : ∀ a, h2.get? a = none → ∀ o, (ktb w.params).get a ≠ some o := fun a ha o ho => by
      have q : h2.get? a = some o := base_in G2.inn ho
      rw [ha] at q; cases q
    have hTb : ∀ o, (ktb w.params).get T ≠ some o := fun o ho => by
      have q : h2.get? T = some o := base_in G2.inn ho
      have hlt := base_lt G2.inn ho
      have := inB T o q (fun hm => absurd hlt (Nat.not_lt.mpr (hhi1 T hm)))
      rw [gn] at this; cases this
    have stay6 : Bs.StaysIn h6 := fl6.1
    have G6 : Gr w h6 := G2.keeps fun b o hlt q => stay6 b o (inB b o q (fun hm => absurd hlt (Nat.not_lt.mpr (hhi1 b hm))))
    refine flow_to ?_
    have eX : PySem.W.R.bindR (handleBy (.ref e) (envFn (fP w.params b c) 763 F0) (thH (fP w.params b c))) (fun f => .pure (.done f)) = treeX (fP w.params b c) F0 (.ref e) := by rw [← handleByQ_eq]; rfl
    rw [eX]
    have O6 := mkOk2 (A := A) (t₀ := i4) (sps := []) (ini := [F0, e, T, t]) G6 hb (by
      intro a ha
      replace ha := memL ha
      rcases ha with rfl | rfl | rfl | rfl
      · exact fun o ho => absurd (base_lt G2.inn ho) (Nat.not_lt.mpr h7F)
      · exact hnbase _ X.new
      · exact hTb
      · exact hnbase _ X.newT) (by omega) (fun sp hm => nomatch hm)
    have D6 := mkHp (h := h6) (own := [(F0, frameH w.params (t₀ + 0) ⟨⟨text⟩⟩ tb sl), (e, wayE (.type "ValueError") dx sx (.ref t) T vr), (T, wayT cT dT sT z0 z1 z2 .none zr), (t, wayU dt st nt tk)]) (by
      intro p hp
      replace hp := memL hp
      rcases hp with rfl | rfl | rfl | rfl
      · exact g0
      · exact ge
      · exact gT
      · exact gt) (by
      refine ndM ?_
      exact ⟨⟨Ne.symm neE, Ne.symm neT, Ne.symm net⟩, ⟨Ne.symm gne, Ne.symm nte⟩, Ne.symm ntT⟩)
    refine ran_fine (V := cfgH w b c h6 i4 A.handled []) O6 D6 (adv := advH4) fun stk6 => fine_callU (runH4_is w.params b c _ _ stk6 _ F0 (t₀ + 0) ⟨⟨text⟩⟩ tb sl e T t cT dx dT dt sx sT st z0 z1 z2 vr zr nt tk) fun A7 R7 h7' i7 hdep7 hun7 hl7 hk7 hcont7 => ?_
    have y0 := hl7 _ (List.mem_cons_self ..)
    have y1 := hl7 _ (List.mem_cons_of_mem _ (List.mem_cons_self ..))
    have y3 := hl7 _ (List.mem_cons_of_mem _ (List.mem_cons_of_mem _ (List.mem_cons_of_mem _ (List.mem_cons_self ..))))
    refine str_exc (s := ⟨h7', g, dr, i7, os⟩) (by omega) ⟨_, _, y1, rfl, rfl, rfl⟩ ⟨_, _, y3, rfl, rfl⟩ ?_
    have lk2 : ∀ b o, (Mine.K0 w.params).lookup b = some o → h2.get? b = some o := fun b o q => G2.inn b o q
    have lk7 : ∀ b o, (Mine.K0 w.params).lookup b = some o → b < 781 := fun b o q => by
      have hm : (b, o) ∈ Mine.K0 w.params := by
        have : ∀ (K : Frag), K.lookup b = some o → (b, o) ∈ K := by
          intro K
          induction K with
          | nil => intro e; cases e
          | cons p K ih =>
            intro e
            rw [List.lookup_cons] at e
            cases hp : b == p.1 with
            | true =>
              rw [hp] at e
              cases e
              rw [beq_iff_eq] at hp
              subst hp
              exact List.mem_cons_self ..
            | false => rw [hp] at e; exact List.mem_cons_of_mem _ (ih e)
        exact this _ q
      exact (inc_lookup (heap_inc _) _ hm).2
    have notIni : ∀ b o, (Mine.K0 w.params).lookup b = some o → b ∉ [F0, e, T, t] := fun b o q => by
      refine nmL ?_
      refine ⟨fun z => absurd (lk7 b o q) (Nat.not_lt.mpr (z ▸ h7F)), fun z => ?_, fun z => ?_, fun z => ?_⟩
      · have := lk2 b o q; rw [z, X.new] at this; cases this
      · have q2 := lk2 b o q
        have := inB b o q2 (fun hm => absurd (lk7 b o q) (Nat.not_lt.mpr (hhi1 b hm)))
        rw [z, gn] at this; cases this
      · have := lk2 b o q; rw [z, X.newT] at this; cases this
    have G7 : Gr w h7' := G6.keepsL fun b o q z => hk7 b o z (notIni b o q)
    have O7 := mkOk (A := A) (t₀ := i7) (sps := []) (ini := [F0]) G7 hb (by intro a ha; replace ha := memL ha; subst ha; exact h7F) (by omega) (fun sp hm => nomatch hm)
    have D7 := mkHp (h := h7') (own := [(F0, frameX w.params (t₀ + 0) ⟨⟨text⟩⟩ tb sl (i4 + 0) e)]) (by intro p hp; replace hp := memL hp; subst hp; exact y0) (by first | trivial | simp)
    refine hcont7 (.ok (.ret (.str noEsc tk))) h7' i7 (cfgH w b c h7' i7 A.handled []) _ _ advH5 rfl O7 D7 fun stk7 => ?_
    refine fine_ret (runH5_is w.params b c _ _ _ _ stk6 stk7 _ F0 (t₀ + 0) ⟨⟨text⟩⟩ tb sl e T t cT dx dT dt sx sT st z0 z1 z2 vr zr nt tk) fun h8 i8 hl8 hk8 => ?_
    refine wpOwn_pure ?_
    have keep8 : ∀ a o, h6.get? a = some o → a ∉ [F0, e, T, t] → h8.get? a = some o := fun a o q z => hk8 a o (hk7 a o q z) (by
      simp only [List.mem_cons, List.not_mem_nil, or_false, not_or] at z ⊢; exact z.1)
    have old : ∀ a o, h₀.get? a = some o → a ≠ F0 ∧ a ≠ e ∧ a ≠ t := fun a o q => by
      refine ⟨fun z => ?_, fun z => ?_, fun z => ?_⟩
      · rw [z, hnew0] at q; cases q
      · have := k02 a o q; rw [z, X.new] at this; cases this
      · have := k02 a o q; rw [z, X.newT] at this; cases this
    refine hE hno h8 i8 tk ⟨fun a o q _ zf => ?_, fun a o q _ zn => ?_⟩
    · obtain ⟨o1, o2, o3⟩ := old a o q
      have qB := inB a o (k02 a o q) (by rw [hout]; simp only [List.mem_cons, not_or]; exact ⟨o1, zf⟩)
      refine keep8 a o (stay6 a o qB) ?_
      refine nmL ?_
      exact ⟨o1, o2, fun z => (by rw [z, gn] at qB; cases qB), o3⟩
    · obtain ⟨o1, o2, o3⟩ := old a o q
      obtain ⟨sl4, q4⟩ := X4.up.slots a o (k02 a o q) (fun h => nomatch h) zn
      obtain ⟨sl6, q6⟩ := up46 a { o with slots := sl4 } q4 zn
      refine ⟨sl6, keep8 a { o with slots := sl6 } q6 ?_⟩
      refine nmL ?_
      exact ⟨o1, o2, fun z => data_ne (o := { o with slots := sl6 }) (by rw [← z]; exact q6) gT (fun y => zn _ y), o3⟩
end
end
section
set_option linter.unusedSimpArgs false
open PySem.Sre
noncomputable def reC1 : Array Nat := #[14, 4, 0, 1, 1, 6, 1, 16, 46, 1]
noncomputable def reC2 : Array Nat := #[14, 9, 4, 1, 2, 16, 10, 16, 13, 0, 7, 7, 16, 13, 16, 10, 15, 18, 5, 16, 10, 15, 13, 11, 16, 13, 5, 5, 0, 16, 10, 1, 15, 2, 0, 1]
theorem runFor_done {m : M} (h : m.outcome.isSome = true) : ∀ n, M.runFor n m = m
  | 0 => rfl
  | n + 1 => by show (if m.outcome.isSome = true then m else M.runFor n m.step) = m; rw [if_pos h]
theorem runFor_add (a b : Nat) : ∀ (m : M), M.runFor (a + b) m = M.runFor b (M.runFor a m) := by
  induction a with
  | zero => intro m; rw [Nat.zero_add]; rfl
  | succ a ih =>
    intro m
    rw [show a + 1 + b = (a + b) + 1 from by omega]
    show (if m.outcome.isSome = true then m else M.runFor (a + b) m.step) = M.runFor b (if m.outcome.isSome = true then m else M.runFor a m.step)
    by_cases h : m.outcome.isSome = true
    · rw [if_pos h, if_pos h]; exact (runFor_done h b).symm
    · rw [if_neg h, if_neg h]; exact ih _
theorem runFor_one {m : M} (h : m.outcome = none) : M.runFor 1 m = m.step := by
  show (if m.outcome.isSome = true then m else m.step) = m.step
  rw [if_neg (by rw [h]; simp)]
/-- the search of the first pattern, about to try the place p -/
noncomputable def mk1 (text : Array Nat) (p : Nat) (first : Bool) (seen : Sre.Seen) : M :=
  { code := reC1, text, lim := text.size, start := p, lastStart := text.size, pc := 5, pos := p, handed := p, outermost := first, marks := #[], frames := [{ wait := .nextStart, pc := 5, pos := p, outermost := first }], weight := 1, seen }
noncomputable abbrev Bol (text : Array Nat) (p : Nat) : Prop := p = 0 ∨ text[p - 1]?.getD 0 = 10
theorem run_step {m m' : M} {n : Nat} (ho : m.outcome = none) (h : m.step = m') : M.runFor (n + 1) m = M.runFor n m' := by
  show (if m.outcome.isSome = true then m else M.runFor n m.step) = _
  rw [if_neg (by rw [ho]; simp), h]
/-- a state of the search of the first pattern at the place p -/
noncomputable def st1 (text : Array Nat) (p pc pos handed : Nat) (om : Bool) (frames : List Sre.Frame) (wt : Nat) (ans : Option Bool) (seen : Sre.Seen) : M :=
  { code := reC1, text, lim := text.size, start := p, lastStart := text.size, pc, pos, handed, outermost := om, marks := #[], frames, weight := wt, answer := ans, seen }
noncomputable abbrev fr1s (p : Nat) (first : Bool) : List Sre.Frame := [{ wait := .nextStart, pc := 5, pos := p, outermost := first }]
section
variable {text : Array Nat} {p handed : Nat} {first : Bool} {seen : Sre.Seen}
theorem a_at : (mk1 text p first seen).step = if (p == 0 || text.getD (p - 1) 0 == 10) = true then st1 text p 7 p p first (fr1s p first) 1 none ((seen.add 6).add 44) else st1 text p 5 p p first (fr1s p first) 1 (some false) ((seen.add 6).add 44) := by kernel_rfl
theorem b_next {pc pos : Nat} {om : Bool} : (st1 text p pc pos handed om (fr1s p first) 1 (some false) seen).step = if p < text.size then mk1 text (p + 1) false seen else st1 text p 5 p handed first [] 0 (some false) seen := by kernel_rfl
theorem c_lit : (st1 text p 7 p p first (fr1s p first) 1 none seen).step = if p ≥ text.size then st1 text p 7 p p first (fr1s p first) 1 (some false) (seen.add 16) else cond (text.getD p 0 == 46) (st1 text p 9 (p + 1) p first (fr1s p first) 1 none (seen.add 16)) (st1 text p 7 p p first (fr1s p first) 1 (some false) (seen.add 16)) := by kernel_rfl
theorem d_ok : (st1 text p 9 (p + 1) p first (fr1s p first) 1 none seen).step = st1 text p 9 (p + 1) (p + 1) first (fr1s p first) 1 (some true) (seen.add 1) := by cases first <;> kernel_rfl
theorem e_ok : (st1 text p 9 (p + 1) (p + 1) first (fr1s p first) 1 (some true) seen).step = st1 text p 5 p (p + 1) first [] 0 (some true) seen := by kernel_rfl
theorem bol_if : ((p == 0 || text.getD (p - 1) 0 == 10) = true) ↔ Bol text p := by
  rw [Bool.or_eq_true, beq_iff_eq, beq_iff_eq, Array.getD_eq_getD_getElem?]
theorem at_yes (h : Bol text p) : (mk1 text p first seen).step = st1 text p 7 p p first (fr1s p first) 1 none ((seen.add 6).add 44) := a_at.trans (if_pos (bol_if.mpr h))
theorem at_no (h : ¬ Bol text p) : (mk1 text p first seen).step = st1 text p 5 p p first (fr1s p first) 1 (some false) ((seen.add 6).add 44) := a_at.trans (if_neg fun q => h (bol_if.mp q))
theorem s1_no (h : ¬ Bol text p) (hp : p < text.size) : M.runFor 2 (mk1 text p first seen) = mk1 text (p + 1) false ((seen.add 6).add 44) := by
  rw [run_step rfl (at_no h), run_step rfl (b_next.trans (if_pos hp))]
  rfl
theorem s1_noEnd (h : ¬ Bol text p) (hp : p = text.size) : (M.runFor 3 (mk1 text p first seen)).outcome = some .failed := by
  rw [run_step rfl (at_no h), run_step rfl (b_next.trans (if_neg (Nat.not_lt.mpr (Nat.le_of_eq hp.symm))))]
  rfl
theorem s1_other (h : Bol text p) (hp : p < text.size) (hc : ¬ text[p]?.getD 0 = 46) : M.runFor 3 (mk1 text p first seen) = mk1 text (p + 1) false (((seen.add 6).add 44).add 16) := by
  have e : (text.getD p 0 == 46) = false := by rw [Array.getD_eq_getD_getElem?, beq_eq_false_iff_ne]; exact hc
  rw [run_step rfl (at_yes h), run_step rfl (c_lit.trans (if_neg (Nat.not_le.mpr hp))), e]
  exact run_step rfl (b_next.trans (if_pos hp))
theorem s1_end (h : Bol text p) (hp : p = text.size) : (M.runFor 4 (mk1 text p first seen)).outcome = some .failed := by
  rw [run_step rfl (at_yes h), run_step rfl (c_lit.trans (if_pos (Nat.le_of_eq hp.symm))), run_step rfl (b_next.trans (if_neg (Nat.not_lt.mpr (Nat.le_of_eq hp.symm))))]
  rfl
theorem s1_hit (h : Bol text p) (hp : p < text.size) (hc : text[p]?.getD 0 = 46) : (M.runFor 5 (mk1 text p first seen)).outcome = some .matched ∧ (M.runFor 5 (mk1 text p first seen)).start = p ∧ (M.runFor 5 (mk1 text p first seen)).handed = p + 1 := by
  have e : (text.getD p 0 == 46) = true := by rw [Array.getD_eq_getD_getElem?, hc]; rfl
  rw [run_step rfl (at_yes h), run_step rfl (c_lit.trans (if_neg (Nat.not_le.mpr hp))), e]
  rw [show M.runFor 3 (cond true (st1 text p 9 (p + 1) p first (fr1s p first) 1 none (((seen.add 6).add 44).add 16)) (st1 text p 7 p p first (fr1s p first) 1 (some false) (((seen.add 6).add 44).add 16))) = _ from run_step rfl d_ok, run_step rfl e_ok]
  exact ⟨rfl, rfl, rfl⟩
end
/-- a state of the search of the second pattern at the place p -/
noncomputable def st2 (text : Array Nat) (p pc pos handed : Nat) (om : Bool) (frames : List Sre.Frame) (wt : Nat) (ans : Option Bool) (seen : Sre.Seen) : M :=
  { code := reC2, text, lim := text.size, start := p, lastStart := text.size, pc, pos, handed, outermost := om, marks := #[], frames, weight := wt, answer := ans, seen }
noncomputable abbrev mk2 (text : Array Nat) (p : Nat) (first : Bool) (seen : Sre.Seen) : M := st2 text p 10 p p first [{ wait := .nextStart, pc := 10, pos := p, outermost := first }] 1 none seen
section
variable {text : Array Nat} {p pos handed pc wt : Nat} {first om : Bool} {seen : Sre.Seen} {fr : List Sre.Frame}
noncomputable abbrev fb (p alt : Nat) (first : Bool) : Sre.Frame := { wait := .nextBranch, pc := alt, pos := p, outermost := first }
theorem t_branch : (st2 text p 10 pos handed om fr 1 none seen).step = st2 text p 12 pos pos om (fb pos 11 om :: fr) 2 none (seen.add 7) := by kernel_rfl
/-- a step at the sign ch -/
noncomputable def LitAt (pc ch : Nat) : Prop := ∀ (text : Array Nat) (p pos handed : Nat) (om : Bool) (fr : List Sre.Frame) (wt : Nat) (seen : Sre.Seen), (st2 text p pc pos handed om fr wt none seen).step =
  if pos ≥ text.size then st2 text p pc pos handed om fr wt (some false) (seen.add 16) else cond (text.getD pos 0 == ch) (st2 text p (pc + 2) (pos + 1) handed om fr wt none (seen.add 16)) (st2 text p pc pos handed om fr wt (some false) (seen.add 16))
theorem l12 : LitAt 12 13 := fun _ _ _ _ _ _ _ _ => by kernel_rfl
theorem l24 : LitAt 24 13 := fun _ _ _ _ _ _ _ _ => by kernel_rfl
theorem l14 : LitAt 14 10 := fun _ _ _ _ _ _ _ _ => by kernel_rfl
theorem l19 : LitAt 19 10 := fun _ _ _ _ _ _ _ _ => by kernel_rfl
theorem l29 : LitAt 29 10 := fun _ _ _ _ _ _ _ _ => by kernel_rfl
theorem LitAt.yes {ch : Nat} (l : LitAt pc ch) (hp : pos < text.size) (hc : text[pos]?.getD 0 = ch) : (st2 text p pc pos handed om fr wt none seen).step = st2 text p (pc + 2) (pos + 1) handed om fr wt none (seen.add 16) := by
  rw [l, if_neg (Nat.not_le.mpr hp), Array.getD_eq_getD_getElem?, hc, beq_self_eq_true]; rfl
theorem LitAt.no {ch : Nat} (l : LitAt pc ch) (hp : pos < text.size) (hc : ¬ text[pos]?.getD 0 = ch) : (st2 text p pc pos handed om fr wt none seen).step = st2 text p pc pos handed om fr wt (some false) (seen.add 16) := by
  rw [l, if_neg (Nat.not_le.mpr hp), Array.getD_eq_getD_getElem?, beq_eq_false_iff_ne.mpr hc]; rfl
theorem LitAt.past {ch : Nat} (l : LitAt pc ch) (hp : text.size ≤ pos) : (st2 text p pc pos handed om fr wt none seen).step = st2 text p pc pos handed om fr wt (some false) (seen.add 16) := by
  rw [l, if_pos hp]
theorem t_jump : (st2 text p 16 pos handed om fr wt none seen).step = st2 text p 35 pos handed om fr wt none (seen.add 15) ∧ (st2 text p 21 pos handed om fr wt none seen).step = st2 text p 35 pos handed om fr wt none (seen.add 15) ∧ (st2 text p 32 pos handed om fr wt none seen).step = st2 text p 35 pos handed om fr wt none (seen.add 15) :=
  ⟨by kernel_rfl, by kernel_rfl, by kernel_rfl⟩
theorem t_success : (st2 text p 35 pos handed om fr wt none seen).step = st2 text p 35 pos pos om fr wt (some true) (seen.add 1) := by cases om <;> kernel_rfl
theorem t_next1 : (st2 text p pc pos handed om (fb p 11 first :: fr) 2 (some false) seen).step = st2 text p 19 p p first (fb p 18 first :: fr) 2 none seen := by kernel_rfl
theorem t_next2 : (st2 text p pc pos handed om (fb p 18 first :: fr) 2 (some false) seen).step = st2 text p 24 p p first (fb p 23 first :: fr) 2 none seen := by kernel_rfl
theorem t_not : (st2 text p 26 pos handed om fr 2 none seen).step = st2 text p 29 pos pos false ({ wait := .lookNot, pc := 26, pos := pos, outermost := om } :: fr) 3 none (seen.add 5) := by kernel_rfl
theorem t_notNo {q : Nat} : (st2 text p pc pos handed om ({ wait := .lookNot, pc := 26, pos := q, outermost := first } :: fr) 3 (some false) seen).step = st2 text p 32 q handed first fr 2 none seen := by kernel_rfl
theorem t_yes {alt : Nat} : (st2 text p pc pos handed om (fb p alt first :: fr) 2 (some true) seen).step = st2 text p alt p handed first fr 1 (some true) seen := by kernel_rfl
theorem t_start : (st2 text p pc pos handed om ({ wait := .nextStart, pc := 10, pos := p, outermost := first } :: fr) 1 (some true) seen).step = st2 text p 10 p handed first fr 0 (some true) seen := by kernel_rfl
theorem t_done : (M.runFor 1 (st2 text p pc pos handed om [] wt (some true) seen)).outcome = some .matched ∧ (M.runFor 1 (st2 text p pc pos handed om [] wt (some true) seen)).start = p ∧ (M.runFor 1 (st2 text p pc pos handed om [] wt (some true) seen)).handed = handed := by
  refine ⟨?_, ?_, ?_⟩ <;> rfl
noncomputable def Hit (m : M) (n a b : Nat) : Prop := (M.runFor n m).outcome = some .matched ∧ (M.runFor n m).start = a ∧ (M.runFor n m).handed = b
theorem s2_crlf (hp : p + 1 < text.size) (hc : text[p]?.getD 0 = 13) (hn : text[p + 1]?.getD 0 = 10) : Hit (mk2 text p first seen) 8 p (p + 2) := by
  unfold Hit
  rw [run_step rfl t_branch, run_step rfl (l12.yes (by omega) hc), run_step rfl (l14.yes (by omega) hn), run_step rfl t_jump.1, run_step rfl t_success, run_step rfl t_yes, run_step rfl t_start]
  exact t_done
theorem s2_lf (hp : p < text.size) (hc : text[p]?.getD 0 = 10) : Hit (mk2 text p first seen) 9 p (p + 1) := by
  unfold Hit
  rw [run_step rfl t_branch, run_step rfl (l12.no hp (by rw [hc]; decide)), run_step rfl t_next1, run_step rfl (l19.yes hp hc), run_step rfl t_jump.2.1, run_step rfl t_success, run_step rfl t_yes, run_step rfl t_start]
  exact t_done
theorem s2_cr (hp : p < text.size) (hc : text[p]?.getD 0 = 13) (hn : ∀ q, p + 1 < text.size → text[p + 1]?.getD 0 = q → q ≠ 10) : Hit (mk2 text p first seen) 16 p (p + 1) := by
  have no14 : ∀ (pc : Nat) (handed : Nat) (om : Bool) (fr : List Sre.Frame) (wt : Nat) (seen : Sre.Seen), LitAt pc 10 → (st2 text p pc (p + 1) handed om fr wt none seen).step = st2 text p pc (p + 1) handed om fr wt (some false) (seen.add 16) := by
    intro pc handed om fr wt seen h
    by_cases q : p + 1 < text.size
    · exact h.no q (hn _ q rfl)
    · exact h.past (by omega)
  unfold Hit
  rw [run_step rfl t_branch, run_step rfl (l12.yes (by omega) hc), run_step rfl (no14 14 _ _ _ _ _ l14), run_step rfl t_next1, run_step rfl (l19.no hp (by rw [hc]; decide)), run_step rfl t_next2,
    run_step rfl (l24.yes hp hc), run_step rfl t_not, run_step rfl (no14 29 _ _ _ _ _ l29), run_step rfl t_notNo, run_step rfl t_jump.2.2, run_step rfl t_success, run_step rfl t_yes, run_step rfl t_start]
  exact ⟨by rw [runFor_add 1 1, runFor_done (by rw [t_done.1]; rfl)]; exact t_done.1, by rw [runFor_add 1 1, runFor_done (by rw [t_done.1]; rfl)]; exact t_done.2.1, by rw [runFor_add 1 1, runFor_done (by rw [t_done.1]; rfl)]; exact t_done.2.2⟩
end
end
section
set_option linter.unusedSimpArgs false
open PySem.Builtin.Re
section
variable {Mo : Model} {A : Around} {E : Value → Shared → Prop} {s : Shared}
theorem drive {Q : Sre.M → Shared → Prop} : ∀ (j turns : Nat) (m : Sre.M), j ≤ turns → 1 ≤ j → (Sre.M.runFor (4 * j) m).outcome.isSome = true → Q (Sre.M.runFor (4 * j) m) s → wpAny Mo A (reDrive turns m) Q E s
  | 0, _, _, _, h, _, _ => by omega
  | j + 1, 0, _, h, _, _, _ => by omega
  | j + 1, t + 1, m, h, _, ho, hq => by
    rw [show 4 * (j + 1) = 4 + 4 * j from by omega, runFor_add] at ho hq
    show wpAny Mo A (if (Sre.M.runFor 4 m).outcome.isSome = true then pure (Sre.M.runFor 4 m) else (do rule "sre.turn"; reDrive t (Sre.M.runFor 4 m))) Q E s
    by_cases h4 : (Sre.M.runFor 4 m).outcome.isSome = true
    · rw [if_pos h4]
      rw [runFor_done h4] at hq
      exact wpAny_pure hq
    · rw [if_neg h4]
      refine wpAny_bind (wpAny_rule ?_)
      cases j with
      | zero => exact absurd ho h4
      | succ j => exact drive (j + 1) t _ (by omega) (by omega) ho hq
theorem told {Q : PUnit → Shared → Prop} (c : Nat → Bool) (f : Nat → String) (h : Q PUnit.unit s) : ∀ l : List Nat, wpAny Mo A (forIn l PUnit.unit fun i r => (if c i = true then (do rule (f i); pure (ForInStep.yield PUnit.unit)) else pure (ForInStep.yield PUnit.unit) : Sem (ForInStep PUnit))) Q E s
  | [] => by rw [List.forIn_nil]; exact wpAny_pure h
  | i :: l => by
    rw [List.forIn_cons]
    refine wpAny_bind ?_
    by_cases hc : c i = true
    · rw [if_pos hc]
      exact wpAny_bind (wpAny_rule (wpAny_pure (told c f h l)))
    · rw [if_neg hc]
      exact wpAny_pure (told c f h l)
theorem toEnd {Q : Option Sre.M → Shared → Prop} {m : Sre.M} {n : Nat} (hn : n ≤ 100000) (h1 : 1 ≤ n) {oc : Sre.Outcome} (ho : (Sre.M.runFor n m).outcome = some oc) (hq : match oc with | .matched => Q (some (Sre.M.runFor n m)) s | .failed => Q none s | .stuck _ => False) : wpAny Mo A (reRunToEnd m) Q E s := by
  have e : Sre.M.runFor (4 * n) m = Sre.M.runFor n m := by
    rw [show 4 * n = n + 3 * n from by omega, runFor_add, runFor_done (by rw [ho]; rfl)]
  unfold reRunToEnd
  refine wpAny_bind (drive n (2 ^ 64) m (Nat.le_trans hn (by decide)) h1 (by rw [e, ho]; rfl) ?_)
  rw [e]
  refine wpAny_bind (told _ _ ?_ _)
  rw [ho]
  cases oc with
  | matched => exact wpAny_pure hq
  | failed => exact wpAny_pure hq
  | stuck _ => exact hq.elim
end
/-! the searches -/
noncomputable def find1 : Bool → List Nat → Option Nat
  | _, [] => none
  | b, c :: r => if b && c == 46 then some 0 else (find1 (c == 10) r).map (· + 1)
noncomputable def find2 : List Nat → Option (Nat × Nat)
  | [] => none
  | c :: r => if c == 13 then some (0, if r.head? == some 10 then 2 else 1) else if c == 10 then some (0, 1) else (find2 r).map fun x => (x.1 + 1, x.2)
theorem at_of_drop {l r : List Nat} {p c : Nat} (h : l.drop p = c :: r) : l[p]? = some c ∧ l.drop (p + 1) = r ∧ p < l.length := by
  have hk : p < l.length := by
    rcases Nat.lt_or_ge p l.length with h' | h'
    · exact h'
    · rw [List.drop_eq_nil_of_le h'] at h; cases h
  rw [List.drop_eq_getElem_cons hk] at h
  injection h with e1 e2
  exact ⟨by rw [List.getElem?_eq_getElem hk, e1], e2, hk⟩
noncomputable def Ends1 (m : Sre.M) (p : Nat) (B : Nat) : Option Nat → Prop
  | none => ∃ n, 1 ≤ n ∧ n ≤ B ∧ (Sre.M.runFor n m).outcome = some .failed
  | some k => ∃ n, 1 ≤ n ∧ n ≤ B ∧ Hit m n (p + k) (p + k + 1)
theorem Ends1.more {m m' : Sre.M} {p B a : Nat} {o : Option Nat} (h : Sre.M.runFor a m = m') (ha : a ≤ 6) (E : Ends1 m' (p + 1) B o) : Ends1 m p (B + 6) (o.map (· + 1)) := by
  cases o with
  | none =>
    obtain ⟨n, n1, n2, e⟩ := E
    exact ⟨a + n, by omega, by omega, by rw [runFor_add, h]; exact e⟩
  | some k =>
    obtain ⟨n, n1, n2, e1, e2, e3⟩ := E
    refine ⟨a + n, by omega, by omega, ?_⟩
    unfold Hit
    rw [runFor_add, h]
    exact ⟨e1, by rw [e2]; show p + 1 + k = p + (k + 1); omega, by rw [e3]; show p + 1 + k + 1 = p + (k + 1) + 1; omega⟩
theorem search1 {l : List Nat} : ∀ (rest : List Nat) (p : Nat) (first : Bool) (seen : Sre.Seen) (b : Bool), l.drop p = rest → p ≤ l.length → (b = true ↔ Bol l.toArray p) →
    Ends1 (mk1 l.toArray p first seen) p (6 * rest.length + 6) (find1 b rest)
  | [], p, first, seen, b, hd, hp, hb => by
    have he : p = l.toArray.size := by
      have := congrArg List.length hd
      simp only [List.length_drop, List.length_nil] at this
      simp only [List.size_toArray]; omega
    cases b with
    | false => exact ⟨3, by omega, by simp, s1_noEnd (fun q => by have := hb.mpr q; cases this) he⟩
    | true => exact ⟨4, by omega, by simp, s1_end (hb.mp rfl) he⟩
  | c :: r, p, first, seen, b, hd, hp, hb => by
    obtain ⟨hc, hd', hlt⟩ := at_of_drop hd
    have hlt' : p < l.toArray.size := by simpa using hlt
    have hch : l.toArray[p]?.getD 0 = c := by simp [hc]
    have hbn : ((c == 10) = true ↔ Bol l.toArray (p + 1)) := by
      unfold Bol
      have : l.toArray[p + 1 - 1]?.getD 0 = c := by rw [Nat.add_sub_cancel]; exact hch
      rw [this]; simp
    have ih := fun first seen => search1 r (p + 1) first seen (c == 10) hd' (by omega) hbn
    have hlen : 6 * (c :: r).length + 6 = (6 * r.length + 6) + 6 := by simp only [List.length_cons]; omega
    rw [hlen]
    unfold find1
    cases b with
    | false => exact (ih _ _).more (s1_no (fun q => by have := hb.mpr q; cases this) hlt') (by decide)
    | true =>
      by_cases h46 : c = 46
      · subst h46
        exact ⟨5, by omega, by omega, s1_hit (hb.mp rfl) hlt' hch⟩
      · have : (true && c == 46) = false := by simp [h46]
        rw [this]
        exact (ih _ _).more (s1_other (hb.mp rfl) hlt' (by rw [hch]; exact h46)) (by decide)
theorem start1 {l : List Nat} {p : Nat} (hp : p < l.length) : ∃ seen, Sre.forSearch reC1 l.toArray 0 p l.length false = mk1 l.toArray p true seen := by
  have h1 : ¬ (p > l.length || l.length - p < 1) = true := by simp; omega
  refine ⟨({} : Sre.Seen).add 14, ?_⟩
  show (if (p > l.length || l.length - p < 1) = true then _ else _) = _
  rw [if_neg h1]
  rfl
theorem done1 {l : List Nat} {p : Nat} (hp : p = l.length) : (Sre.M.runFor 1 (Sre.forSearch reC1 l.toArray 0 p l.length false)).outcome = some .failed := by
  have h1 : (p > l.length || l.length - p < 1) = true := by simp; omega
  have : Sre.forSearch reC1 l.toArray 0 p l.length false = (if (p > l.length || l.length - p < 1) = true then _ else _) := rfl
  rw [this, if_pos h1]
  rfl
theorem inSet2 (c : Nat) (seen : Sre.Seen) : ∃ seen', Sre.inSet reC2 c reC2.size 5 true seen = .ok (c == 10 || c == 13, seen') := by
  by_cases h1 : c = 10
  · subst h1; exact ⟨_, rfl⟩
  · by_cases h2 : c = 13
    · subst h2; exact ⟨_, rfl⟩
    · have e1 : (c == 10) = false := by simp [h1]
      have e2 : (c == 13) = false := by simp [h2]
      refine ⟨((seen.add 16).add 16).add 0, ?_⟩
      rw [e1, e2]
      show (if (c == 10) = true then _ else (if (c == 13) = true then _ else _)) = _
      rw [if_neg (by rw [e1]; simp), if_neg (by rw [e2]; simp)]
      rfl
set_option linter.unusedVariables false in
theorem admits {l : List Nat} {m : Sre.M} (hm : m.code = reC2) (ht : m.text = l.toArray) (hli : m.lim = l.length) : ∀ (rest : List Nat) (fuel p : Nat) (seen : Sre.Seen), l.drop p = rest → p ≤ l.length → rest.length < fuel →
    ∃ seen', m.admitted fuel p seen = .ok ((find2 rest).map fun x => p + x.1, seen')
  | rest, 0, p, seen, hd, hp, hf => by omega
  | [], fuel + 1, p, seen, hd, hp, hf => by
    have he : p = l.length := by
      have := congrArg List.length hd
      simp only [List.length_drop, List.length_nil] at this
      omega
    refine ⟨seen, ?_⟩
    show (if p ≥ m.lim then _ else _) = _
    rw [if_pos (by rw [hli]; omega)]
    rfl
  | c :: r, fuel + 1, p, seen, hd, hp, hf => by
    obtain ⟨hc, hd', hlt⟩ := at_of_drop hd
    have hch : m.text.getD p 0 = c := by rw [ht]; simp [hc]
    show ∃ seen', ((if p ≥ m.lim then Except.ok (none, seen) else match Sre.inSet m.code (m.text.getD p 0) m.code.size 5 true seen with
      | .ok (true, seen) => Except.ok (some p, seen)
      | .ok (false, seen) => m.admitted fuel (p + 1) seen
      | .error why => Except.error why) : Except String (Option Nat × Sre.Seen)) = _
    rw [if_neg (by rw [hli]; omega), hch, hm]
    obtain ⟨seen1, e⟩ := inSet2 c seen
    rw [e]
    unfold find2
    by_cases h13 : c = 13
    · subst h13; exact ⟨seen1, rfl⟩
    · by_cases h10 : c = 10
      · subst h10; exact ⟨seen1, rfl⟩
      · have e1 : (c == 10) = false := by simp [h10]
        have e2 : (c == 13) = false := by simp [h13]
        rw [e1, e2]
        simp only [List.length_cons] at hf
        obtain ⟨seen2, q⟩ := admits hm ht hli r fuel (p + 1) seen1 hd' (by omega) (by omega)
        refine ⟨seen2, ?_⟩
        show m.admitted fuel (p + 1) seen1 = _
        rw [q]
        cases find2 r with
        | none => rfl
        | some x =>
          show Except.ok (some (p + 1 + x.1), seen2) = Except.ok (some (p + (x.1 + 1)), seen2)
          rw [show p + 1 + x.1 = p + (x.1 + 1) from by omega]
noncomputable def Ends2 (m : Sre.M) (p : Nat) : Option (Nat × Nat) → Prop
  | none => ∃ n, 1 ≤ n ∧ n ≤ 100 ∧ (Sre.M.runFor n m).outcome = some .failed
  | some x => ∃ n, 1 ≤ n ∧ n ≤ 100 ∧ Hit m n (p + x.1) (p + x.1 + x.2)
theorem find2_at {l : List Nat} : ∀ (rest : List Nat) (p k n : Nat), l.drop p = rest → find2 rest = some (k, n) → p + k < l.length ∧ ((l[p + k]? = some 13 ∧ n = 2 ∧ l[p + k + 1]? = some 10) ∨ (l[p + k]? = some 13 ∧ n = 1 ∧ l[p + k + 1]? ≠ some 10) ∨ (l[p + k]? = some 10 ∧ n = 1))
  | [], p, k, n, _, e => by cases e
  | c :: r, p, k, n, hd, e => by
    obtain ⟨hc, hd', hlt⟩ := at_of_drop hd
    unfold find2 at e
    by_cases h13 : c = 13
    · subst h13
      have hh : r.head? = l[p + 1]? := by rw [← hd', List.head?_drop]
      simp only [beq_self_eq_true, if_true] at e
      cases e
      refine ⟨by simpa using hlt, ?_⟩
      by_cases h10 : r.head? = some 10
      · have : (r.head? == some 10) = true := by rw [h10]; rfl
        rw [this, hh] at *
        exact .inl ⟨hc, rfl, h10⟩
      · have : (r.head? == some 10) = false := by simpa using h10
        rw [this]
        rw [hh] at h10
        exact .inr (.inl ⟨hc, rfl, h10⟩)
    · by_cases h10 : c = 10
      · subst h10
        simp only [show ((10 : Nat) == 13) = false from rfl, beq_self_eq_true, if_true, Bool.false_eq_true, if_false] at e
        cases e
        exact ⟨by simpa using hlt, .inr (.inr ⟨hc, rfl⟩)⟩
      · have e1 : (c == 10) = false := by simp [h10]
        have e2 : (c == 13) = false := by simp [h13]
        rw [e1, e2] at e
        simp only [Bool.false_eq_true, if_false] at e
        cases q : find2 r with
        | none => rw [q] at e; cases e
        | some x =>
          rw [q] at e
          obtain ⟨k', n'⟩ := x
          cases e
          have := find2_at r (p + 1) k' _ hd' q
          rw [show p + (k' + 1) = p + 1 + k' from by omega]
          exact this
theorem search2 {l : List Nat} {p : Nat} (hp : p ≤ l.length) : Ends2 (Sre.forSearch reC2 l.toArray 0 p l.length false) p (find2 (l.drop p)) := by
  by_cases hlt : p < l.length
  · have h1 : ¬ (p > l.length || l.length - p < 1) = true := by simp; omega
    have e0 : ∃ m : Sre.M, Sre.forSearch reC2 l.toArray 0 p l.length false = m.attemptFrom p true ∧ m.code = reC2 ∧ m.text = l.toArray ∧ m.lim = l.length ∧ m.hasFirstSet = true ∧ (∀ seen, ({ m with seen } : Sre.M).say false = ({ m with seen } : Sre.M).say false) ∧
        (∀ q seen, ({ m with mustAdvance := false, seen } : Sre.M).attemptAt q true = mk2 l.toArray q true seen) ∧ (∀ seen, (Sre.M.runFor 1 (({ m with seen } : Sre.M).say false)).outcome = some .failed) := by
      have : Sre.forSearch reC2 l.toArray 0 p l.length false = (if (p > l.length || l.length - p < 1) = true then _ else _) := rfl
      rw [this, if_neg h1]
      exact ⟨_, rfl, rfl, rfl, rfl, rfl, fun _ => rfl, fun _ _ => rfl, fun _ => rfl⟩
    obtain ⟨m, e0, hm, ht, hli, hf, _, hat, hno⟩ := e0
    rw [e0]
    unfold Sre.M.attemptFrom
    rw [hf]
    simp only [Bool.not_true, Bool.false_eq_true, if_false]
    obtain ⟨seen', q⟩ := admits hm ht hli (l.drop p) (m.lim + 1 - p) p m.seen rfl hp (by rw [hli, List.length_drop]; omega)
    rw [q]
    cases hfd : find2 (l.drop p) with
    | none => exact ⟨1, by omega, by omega, hno seen'⟩
    | some x =>
      obtain ⟨k, n⟩ := x
      obtain ⟨hlt2, hcase⟩ := find2_at (l.drop p) p k n rfl hfd
      show Ends2 (({ m with mustAdvance := false, seen := seen' } : Sre.M).attemptAt (p + k) true) p (some (k, n))
      rw [hat]
      have hs : p + k < l.toArray.size := by simpa using hlt2
      rcases hcase with ⟨c1, rfl, c2⟩ | ⟨c1, rfl, c2⟩ | ⟨c1, rfl⟩
      · have hs2 : p + k + 1 < l.toArray.size := by
          have := (List.getElem?_eq_some_iff.mp c2).1
          simpa using this
        exact ⟨8, by omega, by omega, s2_crlf hs2 (by simp [c1]) (by simp [c2])⟩
      · exact ⟨16, by omega, by omega, s2_cr hs (by simp [c1]) (fun q hq e hq10 => by
          subst hq10
          apply c2
          have hq' : p + k + 1 < l.length := by simpa using hq
          rw [List.getElem?_eq_getElem hq']
          simp [hq'] at e
          rw [e])⟩
      · exact ⟨9, by omega, by omega, s2_lf hs (by simp [c1])⟩
  · have he : p = l.length := by omega
    have hd : l.drop p = [] := by rw [he]; simp
    rw [hd]
    refine ⟨1, by omega, by omega, ?_⟩
    have h1 : (p > l.length || l.length - p < 1) = true := by simp; omega
    have : Sre.forSearch reC2 l.toArray 0 p l.length false = (if (p > l.length || l.length - p < 1) = true then _ else _) := rfl
    rw [this, if_pos h1]
    rfl
end
section
set_option linter.unusedSimpArgs false
open PySem.Builtin.Re
/-- a compiled pattern in the heap -/
structure PatAt (h : Heap) (pa ca : Addr) (code : Array Nat) : Prop where
  pat : ∃ op vs, h.get? pa = some op ∧ op.data = .fields vs ∧ reRawNat (vs.getD 6 .none) = 0 ∧ vs.getD 5 .none = .ref ca ∧ reRawNat (vs.getD 2 .none) = 0
  code : ∃ oc items n, h.get? ca = some oc ∧ oc.data = .seq items n ∧ (items.map reRawOf).map (·.toNat) = code
theorem PatAt.keeps {h h' : Heap} {pa ca : Addr} {code : Array Nat} (x : PatAt h pa ca code) (k1 : ∀ o, h.get? pa = some o → h'.get? pa = some o) (k2 : ∀ o, h.get? ca = some o → h'.get? ca = some o) : PatAt h' pa ca code := by
  obtain ⟨⟨op, vs, e1, e2⟩, ⟨oc, items, n, e3, e4⟩⟩ := x
  exact ⟨⟨op, vs, k1 _ e1, e2⟩, ⟨oc, items, n, k2 _ e3, e4⟩⟩
noncomputable def tgt (pa : Addr) (l : List Nat) (tb : Nat) (code : Array Nat) : ReTarget := { pattern := .ref pa, string := .str ⟨⟨l⟩⟩ tb, code := code, text := ⟨l⟩, kind := 0, groups := 0, pos := 0, lim := l.length }
section
variable {Mo : Model} {A : Around} {E : Value → Shared → Prop} {s : Shared} {pa ca : Addr} {code : Array Nat} {l : List Nat} {tb : Nat}
theorem whole {Q : ReTarget → Shared → Prop} (P : PatAt s.heap pa ca code) (h : Q (tgt pa l tb code) s) : wpAny Mo A (reWholeTarget (.ref pa) (.str ⟨⟨l⟩⟩ tb)) Q E s := by
  obtain ⟨⟨op, vs, e1, e2, e3, e4, e5⟩, ⟨oc, items, n, e6, e7, e8⟩⟩ := P
  unfold reWholeTarget
  refine wpAny_bind ?_
  unfold fieldsOf
  refine wpAny_bind (wpAny_load e1 ?_)
  rw [e2]
  refine wpAny_pure ?_
  unfold reTextOf
  refine wpAny_bind (wpAny_bind (wpAny_pure ?_))
  refine wpAny_pure ?_
  simp only [e3]
  show wpAny Mo A (reNoCollectionInside (.str ⟨⟨l⟩⟩ tb) 0 >>= _) Q E s
  unfold reNoCollectionInside
  show wpAny Mo A (pure PUnit.unit >>= _) Q E s
  refine wpAny_bind (wpAny_pure ?_)
  rw [e4]
  unfold reRawItems
  refine wpAny_bind (wpAny_bind (wpAny_seqItems e6 e7 ?_))
  refine wpAny_pure ?_
  refine wpAny_pure ?_
  simp only [Option.getD_some, e5, e8]
  exact h
end
/-- what a search from the place p finds: how far, how long -/
noncomputable def bolB (l : List Nat) (p : Nat) : Bool := p == 0 || l[p - 1]? == some 10
noncomputable def next1 (l : List Nat) (p : Nat) : Option (Nat × Nat) := (find1 (bolB l p) (l.drop p)).map fun k => (k, 1)
noncomputable def next2 (l : List Nat) (p : Nat) : Option (Nat × Nat) := find2 (l.drop p)
noncomputable def Finds (code : Array Nat) (next : List Nat → Nat → Option (Nat × Nat)) : Prop := ∀ (Mo : Model) (A : Around) (E : Value → Shared → Prop) (s : Shared) (pa : Addr) (l : List Nat) (tb p : Nat) (Q : Option Sre.M → Shared → Prop), p ≤ l.length → l.length < 10000 →
  (next l p = none → Q none s) → (∀ k n, next l p = some (k, n) → 1 ≤ n ∧ p + k + n ≤ l.length → ∀ m : Sre.M, m.start = p + k → m.handed = p + k + n → Q (some m) s) → wpAny Mo A (reNextFound (tgt pa l tb code) p false) Q E s
theorem find1_lt : ∀ {b : Bool} {r : List Nat} {k : Nat}, find1 b r = some k → k < r.length
  | _, [], _, e => by cases e
  | b, c :: r, k, e => by
    unfold find1 at e
    split at e
    · cases e; simp
    · cases q : find1 (c == 10) r with
      | none => rw [q] at e; cases e
      | some k' =>
        rw [q] at e
        cases e
        have := find1_lt q
        simp only [List.length_cons]; omega
theorem finds1 : Finds reC1 next1 := by
  intro Mo A E s pa l tb p Q hp hl h0 h1
  unfold reNextFound
  show wpAny Mo A (reRunToEnd (Sre.forSearch reC1 ⟨l⟩ 0 p l.length false)) Q E s
  by_cases hlt : p < l.length
  · obtain ⟨seen, e⟩ := start1 hlt
    have e' : Sre.forSearch reC1 ⟨l⟩ 0 p l.length false = mk1 l.toArray p true seen := e
    rw [e']
    have hb : (bolB l p = true ↔ Bol l.toArray p) := by
      unfold bolB Bol
      rw [Bool.or_eq_true]
      refine or_congr (by simp) ?_
      simp only [beq_iff_eq, List.getElem?_toArray]
      cases l[p - 1]? <;> simp
    have S := search1 (l.drop p) p true seen (bolB l p) rfl hp hb
    have hB : 6 * (l.drop p).length + 6 ≤ 100000 := by rw [List.length_drop]; omega
    unfold next1 at h0 h1
    cases hf : find1 (bolB l p) (l.drop p) with
    | none =>
      rw [hf] at S h0
      obtain ⟨n, n1, n2, e⟩ := S
      exact toEnd (by omega) n1 e (h0 rfl)
    | some k =>
      have hk := find1_lt hf
      rw [List.length_drop] at hk
      rw [hf] at S h1
      obtain ⟨n, n1, n2, e, e2, e3⟩ := S
      exact toEnd (by omega) n1 e (h1 k 1 rfl ⟨by omega, by omega⟩ _ e2 e3)
  · have he : p = l.length := by omega
    have hd : l.drop p = [] := by rw [he]; simp
    refine toEnd (n := 1) (by decide) (by decide) (oc := .failed) (done1 he) (h0 ?_)
    unfold next1
    rw [hd]; rfl
theorem finds2 : Finds reC2 next2 := by
  intro Mo A E s pa l tb p Q hp hl h0 h1
  unfold reNextFound
  show wpAny Mo A (reRunToEnd (Sre.forSearch reC2 ⟨l⟩ 0 p l.length false)) Q E s
  have S := search2 (l := l) hp
  unfold next2 at h0 h1
  cases hf : find2 (l.drop p) with
  | none =>
    rw [hf] at S h0
    obtain ⟨n, n1, n2, e⟩ := S
    exact toEnd (by omega) n1 e (h0 rfl)
  | some x =>
    obtain ⟨k, n0⟩ := x
    obtain ⟨hlt, hc⟩ := find2_at (l.drop p) p k n0 rfl hf
    rw [hf] at S h1
    obtain ⟨n, n1, n2, e, e2, e3⟩ := S
    refine toEnd (by omega) n1 e (h1 k n0 rfl ?_ _ e2 e3)
    rcases hc with ⟨_, rfl, c2⟩ | ⟨_, rfl, _⟩ | ⟨_, rfl⟩
    · have := (List.getElem?_eq_some_iff.mp c2).1
      omega
    · omega
    · omega
noncomputable def outF (next : List Nat → Nat → Option (Nat × Nat)) (repl l : List Nat) : Nat → Nat → List Nat
  | 0, p => l.drop p
  | f + 1, p => match next l p with
    | none => l.drop p
    | some x => (l.drop p).take x.1 ++ repl ++ outF next repl l f (p + x.1 + x.2)
theorem extract_eq (l : List Nat) (a b : Nat) : (⟨l⟩ : Array Nat).extract a b = ⟨(l.drop a).take (b - a)⟩ := by
  apply Array.ext'
  simp [List.take_drop, List.extract_eq_take_drop]
theorem join_flat : ∀ ws : List (List Nat), Str.join ⟨⟨[]⟩⟩ (ws.map fun w => (⟨⟨w⟩⟩ : Str)) = ⟨⟨ws.flatten⟩⟩
  | [] => rfl
  | [w] => by simp [Str.join]
  | w :: v :: r => by
    have ih := join_flat (v :: r)
    show (⟨⟨w⟩⟩ : Str) ++ ⟨⟨[]⟩⟩ ++ Str.join ⟨⟨[]⟩⟩ ((v :: r).map fun w => (⟨⟨w⟩⟩ : Str)) = _
    rw [ih]
    apply Str.ext'
    rw [Str.cps_append, Str.cps_append]
    simp
theorem strs_rows : ∀ {vs : List Value} {ws : List (List Nat)}, StrsAre vs ws → PyProof.Rows.StrsAre vs (ws.map fun w => (⟨⟨w⟩⟩ : Str))
  | [], [], _ => .nil
  | v :: vs, w :: ws, ⟨⟨t, e⟩, h⟩ => by subst e; exact .cons _ _ (strs_rows h)
  | [], _ :: _, h => h.elim
  | _ :: _, [], h => h.elim
end
section
set_option linter.unusedSimpArgs false
open PySem.Builtin.Re
theorem plain_sub_loop : plainId "re.Pattern.sub.loop" = true := by decide +kernel
theorem entry_sub_loop : entryFor table "re.Pattern.sub.loop" = some Builtin.«re.Pattern.sub.loop» := entryFor_of_fast (by kernel_rfl)
theorem slice_is {Mo : Model} {A : Around} {E : Value → Shared → Prop} {s : Shared} {l : List Nat} {a b : Nat} {Q : Value → Shared → Prop} (hl : l.length < 1000) (h : Q (.str ⟨⟨(l.drop a).take (b - a)⟩⟩ s.toks) { s with toks := s.toks + 1 }) :
    wpAny Mo A (reSlice ⟨l⟩ 0 a b) Q E s := by
  unfold reSlice
  show wpAny Mo A (mkStr ⟨(⟨l⟩ : Array Nat).extract a b⟩) Q E s
  rw [extract_eq]
  refine wpAny_mkStr h ?_
  show ((l.drop a).take (b - a)).length ≤ sizeLine
  rw [sizeLine_eq, List.length_take, List.length_drop]
  omega
/-- pieces of which the made text is put together -/
theorem push_is {Mo : Model} {A : Around} {E : Value → Shared → Prop} {s : Shared} {PL : Addr} {acc : List Value} {c : Nat} {v : Value} {Q : Unit → Shared → Prop} (h : s.heap.get? PL = some (listO acc c)) (hn : acc.length < 100000)
    (hQ : ∀ h', h'.get? PL = some (listO (acc ++ [v]) (c + 1)) → (∀ b o, s.heap.get? b = some o → b ≠ PL → h'.get? b = some o) → Q () { s with heap := h' }) : wpAny Mo A (updateSeq PL (·.push v)) Q E s := by
  refine wpAny_updateSeq h rfl (hQ _ ?_ fun b o q z => (Heap.get?_update_other _ _ (Ne.symm z)).trans q) (by rw [sizeLine_eq]; simp only [List.size_toArray]; omega) (by rw [sizeLine_eq]; simp only [Array.size_push, List.size_toArray]; omega)
  rw [← mapSeq_push]
  exact Heap.get?_update_self _ h rfl
section
variable {prog : Program} {w : World} {A : Around} {R : Result → Shared → Prop} {pa ca PL : Addr} {code : Array Nat} {next : List Nat → Nat → Option (Nat × Nat)} {l repl : List Nat} {tb tr : Nat}
theorem sub_loop (hF : Finds code next) (hl : l.length < 1000) (hrl : repl.length ≤ 4) (hpa : pa ≠ PL) (hca : ca ≠ PL) :
    ∀ (fuel p n : Nat) (s : Shared) (acc : List Value) (c : Nat) (ws : List (List Nat)), l.length < p + fuel → p ≤ l.length → PatAt s.heap pa ca code → s.heap.get? PL = some (listO acc c) → StrsAre acc ws → acc.length + 2 * fuel < 5000 → (∀ x ∈ ws, x.length ≤ 1000) → (ws = [] → p = 0) →
    (∀ h i tk, (∀ b o, s.heap.get? b = some o → b ≠ PL → h.get? b = some o) → R (.ok (.ret (.str ⟨⟨ws.flatten ++ outF next repl l fuel p⟩⟩ tk))) ⟨h, s.gens, s.drawn, i, s.os⟩) →
    codeAny (model prog w) A (.builtin "re.Pattern.sub.loop" ⟨[.ref pa, .str ⟨⟨l⟩⟩ tb, .str ⟨⟨repl⟩⟩ tr, rawInt 0, rawInt 0, rawInt n, rawInt p, rawInt p, .bool false, .ref PL, .bool false], []⟩) R s := by
  intro fuel
  induction fuel with
  | zero => intro p n s acc c ws h1 h2; omega
  | succ fuel ih =>
    intro p n s acc c ws hfu hp P hPL hst hacc hws hw0 hR
    refine codeAny_builtin entry_sub_loop ?_
    rw [Around.under_plainId plain_sub_loop _]
    unfold Builtin.«re.Pattern.sub.loop»
    refine wpAny_bind (whole P ?_)
    refine wpAny_bind ?_
    show wpAny _ _ (reLiteralCannotBeTurned (.str ⟨⟨repl⟩⟩ tr)) _ _ _
    unfold reLiteralCannotBeTurned
    refine wpAny_bind (wpAny_pure ?_)
    show wpAny _ _ (pure PUnit.unit) _ _ _
    refine wpAny_pure ?_
    show wpAny _ _ (reNextFound (tgt pa l tb code) ((p : Int)).toNat false >>= _) _ _ _
    rw [Int.toNat_natCast]
    refine wpAny_bind (hF _ _ _ _ pa l tb p _ hp (by omega) (fun hno => ?_) (fun k n' hnx hle m hm1 hm2 => ?_))
    · have eo : outF next repl l (fuel + 1) p = l.drop p := by unfold outF; rw [hno]
      rw [eo] at hR
      have fin : ∀ (h : Heap) (i : Nat) (acc' : List Value) (c' : Nat) (ws' : List (List Nat)), h.get? PL = some (listO acc' c') → StrsAre acc' ws' → acc'.length < 6000 → (∀ x ∈ ws', x.length ≤ 1000) → ws'.flatten = ws.flatten ++ l.drop p → (∀ b o, s.heap.get? b = some o → b ≠ PL → h.get? b = some o) →
          wpAny (model prog w) A.in1 (reSlice ⟨l⟩ 0 0 0 >>= fun joiner => seqItems? (.ref PL) >>= fun r => if (r.getD #[]).isEmpty = true then (pure joiner >>= fun text => ret text) else (call (.builtin "str.join") [joiner, .ref PL] >>= fun text => ret text)) (fun fin s' => match fin with | .done f => R (.ok f) s' | .again c' => c'.quiet = true ∧ codeAny (model prog w) A c' R s') (fun e s' => R (.error e) s') ⟨h, s.gens, s.drawn, i, s.os⟩ := by
        intro h i acc' c' ws' hL hst' hlen hws' hfl hk
        refine wpAny_bind (slice_is hl ?_)
        refine wpAny_bind (wpAny_seqItems hL rfl ?_)
        show wpAny _ _ (if (acc'.toArray.isEmpty) = true then _ else _) _ _ _
        cases acc' with
        | nil =>
          rw [if_pos (by simp)]
          refine wpAny_bind (wpAny_pure (wpAny_pure ?_))
          cases ws' with
          | cons _ _ => exact hst'.elim
          | nil =>
            have := hR h (i + 1) i hk
            rw [← hfl] at this
            simpa using this
        | cons v vs =>
          rw [if_neg (by simp)]
          refine wpAny_bind (PyProof.Rows.join_list (ys := ws'.map fun w => (⟨⟨w⟩⟩ : Str)) ⟨_, hL, rfl, _, rfl⟩ (strs_rows hst') ?_ fun t' k => ?_)
          · have e0 : (⟨⟨(l.drop 0).take (0 - 0)⟩⟩ : Str).length = 0 := by show ((l.drop 0).take (0 - 0)).length = 0; simp
            rw [e0, Nat.mul_zero, Nat.add_zero]
            have hle : ∀ (us : List (List Nat)), (∀ x ∈ us, x.length ≤ 1000) → ((us.map fun w => (⟨⟨w⟩⟩ : Str)).map (·.length)).sum ≤ 1000 * us.length := by
              intro us
              induction us with
              | nil => intro _; simp
              | cons u us ih =>
                intro hu
                have h1 : (⟨⟨u⟩⟩ : Str).length ≤ 1000 := hu u (List.mem_cons_self ..)
                have h2 := ih fun x hx => hu x (List.mem_cons_of_mem _ hx)
                simp only [List.map_cons, List.sum_cons, List.length_cons] at h2 ⊢
                omega
            have := hle ws' hws'
            have := hst'.length
            simp only [List.length_cons] at hlen this
            omega
          · refine wpAny_pure ?_
            have e1 : Txt.join (⟨⟨(l.drop 0).take (0 - 0)⟩⟩ : Str) (ws'.map fun w => (⟨⟨w⟩⟩ : Str)) = ⟨⟨ws'.flatten⟩⟩ := by
              have : (⟨⟨(l.drop 0).take (0 - 0)⟩⟩ : Str) = ⟨⟨[]⟩⟩ := by simp
              rw [this]
              exact (StrLaws.glued_eq_join _ _).trans (join_flat ws')
            rw [e1, hfl]
            exact hR h k t' hk
      show wpAny _ _ (if p < l.length then _ else _) _ _ _
      by_cases hlt : p < l.length
      · rw [if_pos hlt]
        refine wpAny_bind (slice_is hl ?_)
        refine wpAny_bind (push_is hPL (by omega) fun h' h1 h2 => ?_)
        exact fin h' _ _ _ (ws ++ [(l.drop p).take (l.length - p)]) h1 (hst.append ⟨⟨_, rfl⟩, trivial⟩) (by simp only [List.length_append, List.length_cons, List.length_nil]; omega) (by
          intro x hx
          rcases List.mem_append.mp hx with hx | hx
          · exact hws x hx
          · rw [List.mem_singleton] at hx; subst hx; rw [List.length_take, List.length_drop]; omega) (by
          have : (l.drop p).take (l.length - p) = l.drop p := List.take_of_length_le (by rw [List.length_drop]; omega)
          rw [this]; simp) h2
      · rw [if_neg hlt]
        have hd : l.drop p = [] := List.drop_eq_nil_of_le (by omega)
        exact fin s.heap _ acc c ws hPL hst (by omega) hws (by rw [hd, List.append_nil]) fun b o q _ => q
    · have eo : outF next repl l (fuel + 1) p = (l.drop p).take k ++ repl ++ outF next repl l fuel (p + k + n') := by
        show (match next l p with | none => l.drop p | some x => (l.drop p).take x.1 ++ repl ++ outF next repl l fuel (p + x.1 + x.2)) = _
        rw [hnx]
      rw [eo] at hR
      show wpAny _ _ (if p < m.start then _ else _) _ _ _
      rw [hm1, hm2]
      have go : ∀ (h : Heap) (i : Nat) (acc' : List Value) (c' : Nat) (ws' : List (List Nat)), h.get? PL = some (listO acc' c') → StrsAre acc' ws' → acc'.length ≤ acc.length + 1 → (∀ x ∈ ws', x.length ≤ 1000) → ws'.flatten = ws.flatten ++ (l.drop p).take k → (∀ b o, s.heap.get? b = some o → b ≠ PL → h.get? b = some o) →
          wpAny (model prog w) A.in1 (updateSeq PL (·.push (.str ⟨⟨repl⟩⟩ tr)) >>= fun _ =>
            again (.builtin "re.Pattern.sub.loop" ⟨[.ref pa, .str ⟨⟨l⟩⟩ tb, .str ⟨⟨repl⟩⟩ tr, rawInt 0, rawInt 0, rawInt ((n : Int) + 1), rawInt (p + k + n' : Nat), rawInt (p + k + n' : Nat), .bool (p + k + n' == p + k), .ref PL, .bool false], []⟩)) (fun fin s' => match fin with | .done f => R (.ok f) s' | .again c' => c'.quiet = true ∧ codeAny (model prog w) A c' R s') (fun e s' => R (.error e) s') ⟨h, s.gens, s.drawn, i, s.os⟩ := by
        intro h i acc' c' ws' hL hst' hlen hws' hfl hk
        refine wpAny_bind (push_is hL (by omega) fun h' h1 h2 => ?_)
        have en : (p + k + n' == p + k) = false := by simp; omega
        rw [en]
        have k2 : ∀ b o, s.heap.get? b = some o → b ≠ PL → h'.get? b = some o := fun b o q z => h2 b o (hk b o q z) z
        refine wpAny_pure ⟨plainId_quiet plain_sub_loop _, ?_⟩
        refine ih (p + k + n') (n + 1) ⟨h', s.gens, s.drawn, i, s.os⟩ _ _ (ws' ++ [repl]) (by omega) hle.2 (P.keeps (fun o q => k2 _ o q hpa) (fun o q => k2 _ o q hca)) h1 (hst'.append ⟨⟨tr, rfl⟩, trivial⟩) (by simp only [List.length_append, List.length_cons, List.length_nil]; omega) (by
          intro x hx
          rcases List.mem_append.mp hx with hx | hx
          · exact hws' x hx
          · rw [List.mem_singleton] at hx; subst hx; omega) (by intro q; simp at q) fun h3 i3 tk hk3 => ?_
        have := hR h3 i3 tk fun b o q z => hk3 b o (k2 b o q z) z
        rw [List.flatten_append, hfl]
        simpa [List.append_assoc] using this
      by_cases hk0 : 0 < k
      · rw [if_pos (by omega)]
        refine wpAny_bind (slice_is hl ?_)
        refine wpAny_bind (push_is hPL (by omega) fun h' h1 h2 => ?_)
        have ek : p + k - p = k := by omega
        rw [ek] at h1
        exact go h' _ _ _ (ws ++ [(l.drop p).take k]) h1 (hst.append ⟨⟨_, rfl⟩, trivial⟩) (by simp only [List.length_append, List.length_cons, List.length_nil]; omega) (by
          intro x hx
          rcases List.mem_append.mp hx with hx | hx
          · exact hws x hx
          · rw [List.mem_singleton] at hx; subst hx; rw [List.length_take, List.length_drop]; omega) (by simp) h2
      · rw [if_neg (by omega)]
        have hk00 : k = 0 := by omega
        subst hk00
        exact go s.heap _ acc c ws hPL hst (by omega) hws (by simp) fun b o q _ => q
end
end
section
set_option linter.unusedSimpArgs false
open PySem.Builtin.Re
theorem crlf_true : ∀ (r : List Nat), r.head? ≠ some 10 → crlfF true r = crlfF false r
  | [], _ => rfl
  | c :: r, h => by
    have : ¬ c = 10 := fun q => h (by rw [q]; rfl)
    simp [crlfF, this]
theorem crlf_find : ∀ (r : List Nat), match find2 r with
    | none => crlfF false r = r
    | some (k, n) => crlfF false r = r.take k ++ [13, 10] ++ crlfF false (r.drop (k + n))
  | [] => rfl
  | c :: r => by
    by_cases h13 : c = 13
    · subst h13
      by_cases h10 : r.head? = some 10
      · have e : find2 (13 :: r) = some (0, 2) := by simp [find2, h10]
        rw [e]
        cases r with
        | nil => cases h10
        | cons d r =>
          have : d = 10 := by simpa using h10
          subst this
          rfl
      · have e : find2 (13 :: r) = some (0, 1) := by simp [find2, h10]
        rw [e]
        show crlfF false (13 :: r) = _
        simp [crlfF, crlf_true r h10]
    · by_cases h10 : c = 10
      · subst h10
        have e : find2 (10 :: r) = some (0, 1) := by simp [find2]
        rw [e]
        simp [crlfF]
      · have ih := crlf_find r
        have e : find2 (c :: r) = (find2 r).map fun x => (x.1 + 1, x.2) := by simp [find2, h13, h10]
        rw [e]
        cases hf : find2 r with
        | none =>
          rw [hf] at ih
          have ih' : crlfF false r = r := ih
          show crlfF false (c :: r) = c :: r
          simp [crlfF, h13, h10, ih']
        | some x =>
          obtain ⟨k, n⟩ := x
          rw [hf] at ih
          have ih' : crlfF false r = r.take k ++ [13, 10] ++ crlfF false (r.drop (k + n)) := ih
          show crlfF false (c :: r) = (c :: r).take (k + 1) ++ [13, 10] ++ crlfF false ((c :: r).drop (k + 1 + n))
          have e2 : (c :: r).drop (k + 1 + n) = r.drop (k + n) := by rw [show k + 1 + n = (k + n) + 1 from by omega]; rfl
          rw [e2]
          have e3 : crlfF false (c :: r) = c :: crlfF false r := by simp [crlfF, h13, h10]
          rw [e3, ih']
          simp
theorem dot_find : ∀ (b : Bool) (r : List Nat), match find1 b r with
    | none => dotF b r = r
    | some k => dotF b r = r.take k ++ [46, 46] ++ dotF false (r.drop (k + 1)) ∧ r[k]? = some 46
  | _, [] => rfl
  | b, c :: r => by
    by_cases h : (b && c == 46) = true
    · have e : find1 b (c :: r) = some 0 := by unfold find1; rw [if_pos h]
      rw [e]
      rw [Bool.and_eq_true, beq_iff_eq] at h
      obtain ⟨rfl, rfl⟩ := h
      exact ⟨rfl, rfl⟩
    · have e : find1 b (c :: r) = (find1 (c == 10) r).map (· + 1) := by
        show (if (b && c == 46) = true then _ else _) = _
        rw [if_neg h]
      rw [e]
      have ih := dot_find (c == 10) r
      have ed : dotF b (c :: r) = c :: dotF (c == 10) r := by
        show (if (b && c == 46) = true then _ else _) = _
        rw [if_neg h]
      cases hf : find1 (c == 10) r with
      | none =>
        rw [hf] at ih
        have ih' : dotF (c == 10) r = r := ih
        show dotF b (c :: r) = c :: r
        rw [ed, ih']
      | some k =>
        rw [hf] at ih
        obtain ⟨i1, i2⟩ := ih
        refine ⟨?_, i2⟩
        show dotF b (c :: r) = (c :: r).take (k + 1) ++ [46, 46] ++ dotF false (r.drop (k + 1))
        rw [ed, i1]
        simp
theorem out2 {l : List Nat} : ∀ (f p : Nat), l.length < p + f → outF next2 [13, 10] l f p = crlfF false (l.drop p)
  | 0, p, h => by
    have : l.drop p = [] := List.drop_eq_nil_of_le (by omega)
    show l.drop p = _
    rw [this]; rfl
  | f + 1, p, h => by
    have c := crlf_find (l.drop p)
    unfold outF next2
    cases hf : find2 (l.drop p) with
    | none => rw [hf] at c; exact c.symm
    | some x =>
      obtain ⟨k, n⟩ := x
      have hn : 1 ≤ n := by
        rcases (find2_at (l.drop p) p k n rfl hf).2 with ⟨_, rfl, _⟩ | ⟨_, rfl, _⟩ | ⟨_, rfl⟩ <;> omega
      rw [hf] at c
      have c' : crlfF false (l.drop p) = (l.drop p).take k ++ [13, 10] ++ crlfF false ((l.drop p).drop (k + n)) := c
      show (l.drop p).take k ++ [13, 10] ++ outF next2 [13, 10] l f (p + k + n) = _
      rw [out2 f (p + k + n) (by omega), c', List.drop_drop, show p + k + n = p + (k + n) from by omega]
theorem out1 {l : List Nat} : ∀ (f p : Nat), l.length < p + f → outF next1 [46, 46] l f p = dotF (bolB l p) (l.drop p)
  | 0, p, h => by
    have : l.drop p = [] := List.drop_eq_nil_of_le (by omega)
    show l.drop p = _
    rw [this]; rfl
  | f + 1, p, h => by
    have c := dot_find (bolB l p) (l.drop p)
    unfold outF next1
    cases hf : find1 (bolB l p) (l.drop p) with
    | none => rw [hf] at c; exact c.symm
    | some k =>
      rw [hf] at c
      obtain ⟨c1, c2⟩ := c
      show (l.drop p).take k ++ [46, 46] ++ outF next1 [46, 46] l f (p + k + 1) = _
      have hb : bolB l (p + k + 1) = false := by
        unfold bolB
        rw [List.getElem?_drop] at c2
        rw [Nat.add_sub_cancel, c2]
        rfl
      rw [out1 f (p + k + 1) (by omega), c1, hb, List.drop_drop, show p + k + 1 = p + (k + 1) from by omega]
theorem no_call_str : typeLookup (.type "str") (Str.ofString "__call__") = pure none := by rw [typeLookup_type, builtinLookup_eq_fast]; kernel_rfl
theorem named_sub (a b : Value) : reNamed "re.Pattern.sub" "sub" ["repl", "string", "count"] 2 [a, b] [] = pure [some a, some b, none] := by kernel_rfl
theorem plain_sub : plainId "re.Pattern.sub" = true := by decide +kernel
theorem entry_sub : entryFor table "re.Pattern.sub" = some Builtin.«re.Pattern.sub» := entryFor_of_fast (by kernel_rfl)
section
variable {prog : Program} {w : World} {A : Around} {R : Result → Shared → Prop} {pa ca : Addr} {code : Array Nat} {next : List Nat → Nat → Option (Nat × Nat)} {l repl : List Nat} {tb tr : Nat}
theorem sub_body (hF : Finds code next) (hl : l.length < 1000) (hrl : repl.length ≤ 4) (hlit : (⟨repl⟩ : Array Nat).contains 92 = false) {s : Shared} (P : PatAt s.heap pa ca code)
    (hR : ∀ h i tk, (∀ b o, s.heap.get? b = some o → h.get? b = some o) → R (.ok (.ret (.str ⟨⟨outF next repl l (l.length + 1) 0⟩⟩ tk))) ⟨h, s.gens, s.drawn, i, s.os⟩) :
    wpAny (model prog w) A.in1 (Builtin.«re.Pattern.sub» ⟨[.ref pa, .str ⟨⟨repl⟩⟩ tr, .str ⟨⟨l⟩⟩ tb], []⟩) (fun fin s' => match fin with | .done f => R (.ok f) s' | .again c' => c'.quiet = true ∧ codeAny (model prog w) A c' R s') (fun e s' => R (.error e) s') s := by
  unfold Builtin.«re.Pattern.sub» reSubstitute
  refine wpAny_bind (wpAny_of_eq (named_sub _ _) ?_)
  refine wpAny_bind (wpAny_pure ?_)
  refine wpAny_bind (wpAny_specialOf (name := Str.ofString "__call__") (typeIs_str _ _ _) no_call_str ?_)
  show wpAny _ _ (if (false = true) then _ else _) _ _ _
  rw [if_neg (by decide)]
  refine wpAny_bind (wpAny_pure ?_)
  show wpAny _ _ (pure (!(⟨repl⟩ : Array Nat).contains 92) >>= _) _ _ _
  rw [hlit]
  refine wpAny_bind (wpAny_pure ?_)
  show wpAny _ _ (if (false = true) then _ else _) _ _ _
  rw [if_neg (by decide)]
  show wpAny _ _ (if (true = true) then _ else _) _ _ _
  rw [if_pos rfl]
  refine wpAny_bind (wpAny_pure ?_)
  refine wpAny_bind (wpAny_holding (whole P ?_))
  refine wpAny_bind (wpAny_newList ?_)
  have hL : (s.heap.push (listO [] 0)).get? s.heap.objs.size = some (listO [] 0) := Heap.get?_push_size _ rfl
  have hk : ∀ b o, s.heap.get? b = some o → (s.heap.push (listO [] 0)).get? b = some o := fun b o q => Heap.get?_push_of_some _ q
  obtain ⟨⟨op, vs, e1, _⟩, ⟨oc, items, n, e2, _⟩⟩ := id P
  refine wpAny_pure ⟨plainId_quiet plain_sub_loop _, ?_⟩
  refine sub_loop (n := 0) hF hl hrl (Nat.ne_of_lt (Heap.lt_size e1)) (Nat.ne_of_lt (Heap.lt_size e2)) (l.length + 1) 0 ⟨s.heap.push (listO [] 0), s.gens, s.drawn, s.toks, s.os⟩ [] 0 [] (by omega) (Nat.zero_le _) (P.keeps (fun o q => hk _ o q) (fun o q => hk _ o q)) hL trivial (by simp only [List.length_nil]; omega) (fun _ h => nomatch h) (fun _ => rfl) fun h i tk k => ?_
  exact hR h i tk fun b o q => k b o (hk b o q) (Nat.ne_of_lt (Heap.lt_size q))
theorem sub_call (hF : Finds code next) (hl : l.length < 1000) (hrl : repl.length ≤ 4) (hlit : (⟨repl⟩ : Array Nat).contains 92 = false) {s : Shared} (P : PatAt s.heap pa ca code) (hT : s.TypeIs (.ref pa) "re.Pattern")
    (hR : ∀ h i tk, (∀ b o, s.heap.get? b = some o → h.get? b = some o) → R (.ok (.ret (.str ⟨⟨outF next repl l (l.length + 1) 0⟩⟩ tk))) ⟨h, s.gens, s.drawn, i, s.os⟩) :
    codeAny (model prog w) A (.call (.builtin "re.Pattern.sub") ⟨[.ref pa, .str ⟨⟨repl⟩⟩ tr, .str ⟨⟨l⟩⟩ tb], []⟩) R s := by
  have sl : Slot "re.Pattern" (Str.ofString "sub") "re.Pattern.sub" := .of (owner := "re.Pattern") (n := "sub") (by rw [typeLookup_type, builtinLookup_eq_fast]; kernel_rfl) (by decide +kernel) (by decide +kernel) (by decide +kernel)
    (by first | exact .inl (by decide +kernel) | exact .inr (by decide +kernel)) (by rw [isSubtype_type]; kernel_rfl)
  refine codeAny_call_builtin sl.plain entry_sub (sl.check _ _ _ _ _ _ _ _ hT (by unfold argsOk; kernel_rfl) ?_)
  exact sub_body hF hl hrl hlit P hR
end
end
section
noncomputable def patV (o : Option Obj) : Option (Value × Nat × Value × Nat) := match o with
  | some o => match o.data with
    | .fields vs => some (o.cls, Builtin.Re.reRawNat (vs.getD 6 .none), vs.getD 5 .none, Builtin.Re.reRawNat (vs.getD 2 .none))
    | _ => none
  | none => none
noncomputable def codeV (o : Option Obj) : Option (Array Nat) := match o with
  | some o => match o.data with
    | .seq items _ => some ((items.map Builtin.Re.reRawOf).map (·.toNat))
    | _ => none
  | none => none
theorem patAt_of {w : World} {h : Heap} (G : Gr w h) {pa ca : Addr} {code : Array Nat} (e1 : patV ((ktb w.params).get pa) = some (.type "re.Pattern", 0, .ref ca, 0)) (e2 : codeV ((ktb w.params).get ca) = some code) :
    PatAt h pa ca code ∧ ∃ o, h.get? pa = some o ∧ o.cls = .type "re.Pattern" := by
  cases hp : (ktb w.params).get pa with
  | none => rw [hp] at e1; cases e1
  | some op =>
    cases hc : (ktb w.params).get ca with
    | none => rw [hc] at e2; cases e2
    | some oc =>
      rw [hp] at e1
      rw [hc] at e2
      unfold patV at e1
      unfold codeV at e2
      simp only at e1 e2
      split at e1
      · rename_i vs hd
        have e1' := Option.some.inj e1
        obtain ⟨a1, a2, a3, a4⟩ : op.cls = .type "re.Pattern" ∧ Builtin.Re.reRawNat (vs.getD 6 .none) = 0 ∧ vs.getD 5 .none = .ref ca ∧ Builtin.Re.reRawNat (vs.getD 2 .none) = 0 :=
          ⟨congrArg (fun x => x.1) e1', congrArg (fun x => x.2.1) e1', congrArg (fun x => x.2.2.1) e1', congrArg (fun x => x.2.2.2) e1'⟩
        split at e2
        · rename_i items n hd2
          exact ⟨⟨⟨op, vs, base_in G.inn hp, hd, a2, a3, a4⟩, ⟨oc, items, n, base_in G.inn hc, hd2, Option.some.inj e2⟩⟩, op, base_in G.inn hp, a1⟩
        · cases e2
      · cases e1
theorem pat1 (P : Params) : patV ((ktb P).get 744) = some (.type "re.Pattern", 0, .ref 743, 0) := by kernel_rfl
theorem pat1c (P : Params) : codeV ((ktb P).get 743) = some reC1 := by kernel_rfl
theorem pat2 (P : Params) : patV ((ktb P).get 749) = some (.type "re.Pattern", 0, .ref 748, 0) := by kernel_rfl
theorem pat2c (P : Params) : codeV ((ktb P).get 748) = some reC2 := by kernel_rfl
noncomputable abbrev quoteC (buf : Str) (tb : Nat) : Code := .call (.ref 756) ⟨[.str buf tb], []⟩
noncomputable abbrev runQ1 (P : Params) (b c : Bool) (rho tau : Nat → Nat) (stk : Stk) (h0 : Option Value) (buf : Str) (tb : Nat) : Out :=
  entered (cfg (fP P b c) rho tau h0 []) stk [1515, 1, 1, 2, 6, 1488, 1488, 1488, 1488, 6, 1498, 1498, 1498, 1498, 6, 1, 1] (quoteC buf tb) []
theorem runQ1_is (P : Params) (b c : Bool) (rho tau : Nat → Nat) (stk : Stk) (h0 : Option Value) (buf : Str) (tb : Nat) :
    let o := runQ1 P b c rho tau stk h0 buf tb
    (chkL o, cutR [] o) = (chkR o, some (.call (.builtin "re.Pattern.sub") ⟨[.ref 749, .str ⟨⟨[13, 10]⟩⟩ 1257, .str buf tb], []⟩, [])) := by
  cases b <;> kernel_rfl
noncomputable abbrev runQ2 (P : Params) (b c : Bool) (rho tau rho2 tau2 : Nat → Nat) (stk stk2 : Stk) (h0 : Option Value) (buf : Str) (tb : Nat) (x : Str) (tx : Nat) : Out :=
  res (runQ1 P b c rho tau stk h0 buf tb) (.ok (.ret (.str x tx))) (cfg (fP P b c) rho2 tau2 h0 []) stk2 [1] []
theorem runQ2_is (P : Params) (b c : Bool) (rho tau rho2 tau2 : Nat → Nat) (stk stk2 : Stk) (h0 : Option Value) (buf : Str) (tb : Nat) (x : Str) (tx : Nat) :
    let o := runQ2 P b c rho tau rho2 tau2 stk stk2 h0 buf tb x tx
    (chkL o, cutR [] o) = (chkR o, some (.call (.builtin "re.Pattern.sub") ⟨[.ref 744, .str ⟨⟨[46, 46]⟩⟩ (tau 1), .str x tx], []⟩, [])) := by
  cases b <;> kernel_rfl
theorem runQ3_is (P : Params) (b c : Bool) (rho tau rho2 tau2 rho3 tau3 : Nat → Nat) (stk stk2 stk3 : Stk) (h0 : Option Value) (buf : Str) (tb : Nat) (x y : Str) (tx ty : Nat) :
    let o := res (runQ2 P b c rho tau rho2 tau2 stk stk2 h0 buf tb x tx) (.ok (.ret (.str y ty))) (cfg (fP P b c) rho3 tau3 h0 []) stk3 [] []
    (chkL o, retV [] o) = (chkR o, some (.ok (.ret (.str y ty)), [])) := by
  cases b <;> kernel_rfl
theorem crlf_len : ∀ (b : Bool) (r : List Nat), (crlfF b r).length ≤ 2 * r.length
  | _, [] => Nat.le_refl _
  | b, c :: r => by
    have h1 := crlf_len true r
    have h2 := crlf_len false r
    simp only [crlfF]
    repeat' split
    all_goals simp only [List.length_cons] <;> omega
section
variable {w : World} {R : Result → Shared → Prop}
theorem quote_is {A : Around} (hA : A.depth + 200 ≤ recursionLimit) {s : Shared} (G : Gr w s.heap) (text : List Nat) (tb : Nat) (hl : text.length < 400)
    (hR : ∀ h i tk, (∀ b o, s.heap.get? b = some o → h.get? b = some o) → R (.ok (.ret (.str ⟨⟨quoteF text⟩⟩ tk))) ⟨h, s.gens, s.drawn, i, s.os⟩) :
    codeAny (model theProg w) A (quoteC ⟨⟨text⟩⟩ tb) R s := by
  obtain ⟨h₀, g, dr, t₀, os⟩ := s
  have hb := fP_self w.params
  generalize w.params.followText "special-get-raises" = b at hb
  generalize w.params.followText "comprehension-iter-twice" = c at hb
  have mk : ∀ (h : Heap) (t : Nat), Gr w h → (cfgH w b c h t A.handled []).Ok w A t [] h := fun h t G => mkOk (A := A) (t₀ := t) (sps := []) (ini := []) G hb (fun _ h => nomatch h) (by omega) (fun sp hm => nomatch hm)
  have nil : ∀ h : Heap, Hp [] h h [] 0 := fun h => mkHp (h := h) (own := []) (fun _ h => nomatch h) List.nodup_nil
  refine run_fine (mk h₀ t₀ G) (nil h₀) (adv := [1515, 1, 1, 2, 6, 1488, 1488, 1488, 1488, 6, 1498, 1498, 1498, 1498, 6, 1, 1]) fun stk => fine_call (runQ1_is w.params b c _ _ stk _ ⟨⟨text⟩⟩ tb) fun A1 R1 h1 i1 hdep1 hh1 hl1 hk1 hcont1 => ?_
  have k1 : ∀ b o, h₀.get? b = some o → h1.get? b = some o := fun x o q => hk1 x o q (by simp)
  have G1 : Gr w h1 := G.keeps fun b o _ q => k1 b o q
  obtain ⟨P1, o1, q1, q2⟩ := patAt_of G1 (pat2 _) (pat2c _)
  refine sub_call (s := ⟨h1, g, dr, i1, os⟩) finds2 (by omega) (by decide) (by decide +kernel) P1 ⟨o1, q1, q2⟩ fun h2 i2 tx k2 => ?_
  rw [out2 (text.length + 1) 0 (by omega), List.drop_zero]
  have G2 : Gr w h2 := G1.keeps fun b o _ q => k2 b o q
  refine hcont1 _ h2 i2 (cfgH w b c h2 i2 A.handled []) [] [] [1] rfl (mk h2 i2 G2) (nil h2) fun stk2 => ?_
  refine fine_call (runQ2_is w.params b c (fun m => h₀.objs.size + m) (fun i => t₀ + i) _ _ stk stk2 _ ⟨⟨text⟩⟩ tb ⟨⟨crlfF false text⟩⟩ tx) fun A3 R3 h3 i3 hdep3 hh3 hl3 hk3 hcont3 => ?_
  have k3 : ∀ b o, h2.get? b = some o → h3.get? b = some o := fun x o q => hk3 x o q (by simp)
  have G3 : Gr w h3 := G2.keeps fun b o _ q => k3 b o q
  obtain ⟨P3, o3, q3, q4⟩ := patAt_of G3 (pat1 _) (pat1c _)
  have hlen := crlf_len false text
  refine sub_call (s := ⟨h3, g, dr, i3, os⟩) finds1 (by omega) (by decide) (by decide +kernel) P3 ⟨o3, q3, q4⟩ fun h4 i4 ty k4 => ?_
  have e1 : outF next1 [46, 46] (crlfF false text) ((crlfF false text).length + 1) 0 = quoteF text := by
    rw [out1 _ 0 (by omega)]
    rfl
  rw [e1]
  have G4 : Gr w h4 := G3.keeps fun b o _ q => k4 b o q
  refine hcont3 _ h4 i4 (cfgH w b c h4 i4 A.handled []) [] [] [] rfl (mk h4 i4 G4) (nil h4) fun stk4 => ?_
  refine fine_ret (runQ3_is w.params b c (fun m => h₀.objs.size + m) (fun i => t₀ + i) _ _ _ _ stk stk2 stk4 _ ⟨⟨text⟩⟩ tb _ _ tx ty) fun h5 i5 hl5 hk5 => ?_
  exact hR h5 i5 ty fun x o q => hk5 x o (k4 x o (k3 x o (k2 x o (k1 x o q)))) (by simp)
end
end
section
section
variable {prog : Program} {w : World} {A : Around} {s : Shared}
theorem ans_sub (a b : Int) (t u k : Tok) (hk : s.toks = k) : Ans prog w A s (bi "int.__sub__" [.int a t, .int b u]) (.int (a - b) k) 1 := by
  subst hk
  exact ans_gives F.slot_int_sub (typeIs_int s a t) F.entry_int_sub (F.args_int_sub_2 _ _) (gives_int_sub a b t u) fun R hR => hR
theorem ans_mod (a b : Int) (t u k : Tok) (hb : b ≠ 0) (hk : s.toks = k) : Ans prog w A s (bi "int.__mod__" [.int a t, .int b u]) (.int (a.fmod b) k) 1 := by
  subst hk
  exact ans_gives F.slot_int_mod (typeIs_int s a t) F.entry_int_mod (F.args_int_mod_2 _ _) (AutoIntG6.int___mod___int_int_1 a t b u (by simpa using hb)) fun R hR => hR
theorem ans_eqI (a b : Int) (t u : Tok) (c : Bool) (hc : (a == b) = c) : Ans prog w A s (bi "int.__eq__" [.int a t, .int b u]) (.bool c) 0 := by
  subst hc
  exact ans_gives F.slot_int_eq (typeIs_int s a t) F.entry_int_eq (F.args_int_eq_2 _ _) (gives_int_eq a b t u) fun R hR => hR
end
/-- how many backslashes stand last -/
noncomputable def tailN (l : List Nat) : Nat := (l.reverse.takeWhile (· == 92)).length
theorem tailN_le (l : List Nat) : tailN l ≤ l.length := by
  unfold tailN
  have := (List.takeWhile_sublist (· == 92) (l := l.reverse)).length_le
  rwa [List.length_reverse] at this
theorem finF_append : ∀ (l : List Nat) (i : Bool) (c : Nat), finF i (l ++ [c]) = flipF (finF i l) c
  | [], i, c => rfl
  | d :: l, i, c => finF_append l (flipF i d) c
theorem tail_append (l : List Nat) (c : Nat) : tailN (l ++ [c]) = if c = 92 then tailN l + 1 else 0 := by
  unfold tailN
  rw [List.reverse_append]
  simp only [List.reverse_cons, List.reverse_nil, List.nil_append, List.cons_append, List.takeWhile_cons]
  by_cases h : c = 92
  · simp [h]
  · simp [h]
theorem tail_odd (l : List Nat) : (tailN l % 2 == 1) = finF false l := by
  have : ∀ r : List Nat, (tailN r.reverse % 2 == 1) = finF false r.reverse := by
    intro r
    induction r with
    | nil => rfl
    | cons c r ih =>
      rw [List.reverse_cons, tail_append, finF_append, ← ih]
      by_cases h : c = 92
      · rw [if_pos h]
        unfold flipF
        simp only [h, beq_self_eq_true, if_true]
        rcases Nat.mod_two_eq_zero_or_one (tailN r.reverse) with q | q
        · have : (tailN r.reverse + 1) % 2 = 1 := by omega
          rw [q, this]; rfl
        · have : (tailN r.reverse + 1) % 2 = 0 := by omega
          rw [q, this]; rfl
      · rw [if_neg h]
        unfold flipF
        simp [h]
  have := this l.reverse
  rwa [List.reverse_reverse] at this
/-- rstrip of backslashes -/
noncomputable def stripB (l : List Nat) : List Nat := l.take (l.length - tailN l)
theorem strip_hi (l : List Nat) : PySem.stripHi (⟨#[92]⟩ : Str).cps.contains true ⟨⟨l⟩⟩ 0 = l.length - tailN l := by
  unfold PySem.stripHi tailN
  have e : ((⟨#[92]⟩ : Str).cps.contains : Nat → Bool) = (· == 92) := by
    funext c
    simp [Array.contains]
  rw [if_pos rfl, e]
  simp
  rfl
theorem pick_text (l : List Nat) (a n : Nat) : ((List.range n).map (fun k => a + k)).filterMap (fun i => (⟨⟨l⟩⟩ : Str).cps[i]?) = (l.drop a).take n := by
  induction n with
  | zero => simp
  | succ n ih =>
    rw [List.range_succ, List.map_append, List.filterMap_append, ih, List.take_add_one]
    congr 1
    simp only [List.map_cons, List.map_nil, List.filterMap_cons, List.filterMap_nil, List.getElem?_drop]
    have : (⟨⟨l⟩⟩ : Str).cps[a + n]? = l[a + n]? := by simp
    rw [this]
    cases l[a + n]? <;> rfl
theorem range_none (b : Int) (len : Nat) : Builtin.Str.strSliceIndices none (some b) 1 len = Builtin.Str.strSliceIndices (some ((0 : Nat) : Int)) (some b) 1 len := by
  unfold Builtin.Str.strSliceIndices
  have h : max (0 : Int) (min 0 (len : Int)) = 0 := by omega
  simp [h]
theorem range_last (len : Nat) : Builtin.Str.strSliceIndices (some (-1)) none 1 len = Builtin.Str.strSliceIndices (some ((len - 1 : Nat) : Int)) (some (len : Int)) 1 len := by
  unfold Builtin.Str.strSliceIndices
  have h1 : max (0 : Int) (min (-1 + (len : Int)) (len : Int)) = ((len - 1 : Nat) : Int) := by omega
  have h2 : max (0 : Int) (min (((len - 1 : Nat) : Int)) (len : Int)) = ((len - 1 : Nat) : Int) := by omega
  have h3 : max (0 : Int) (min ((len : Int)) (len : Int)) = (len : Int) := by omega
  have h4 : ¬ (((len - 1 : Nat) : Int)) < 0 := by omega
  have h5 : ¬ (len : Int) < 0 := by omega
  simp [h1, h2, h4, h5]
section
variable {prog : Program} {w : World} {A : Around} {s : Shared}
theorem ans_cut (l : List Nat) (t k : Tok) (sa : Addr) (lo hi : Option (Int × Tok)) (a b : Nat) (hab : a ≤ b) (hb : b ≤ l.length) (hidx : Builtin.Str.strSliceIndices (lo.map (·.1)) (hi.map (·.1)) 1 l.length = Builtin.Str.strSliceIndices (some (a : Int)) (some (b : Int)) 1 l.length)
    (hl : l.length < 1000) (hk : s.toks = k) (hs : s.heap.IsSlice sa lo hi none) :
    Ans prog w A s (bi "str.__getitem__" [.str ⟨⟨l⟩⟩ t, .ref sa]) (.str ⟨⟨(l.drop a).take (b - a)⟩⟩ (if b - a = l.length then t else k)) (if b - a = l.length then 0 else 1) := by
  subst hk
  have e : slicePicked ⟨⟨l⟩⟩ lo hi none = (List.range (b - a)).map (fun k => a + k) := hidx.trans (StrLaws.strSliceIndices_plain hab hb)
  have hsz : (⟨⟨l⟩⟩ : Str).length ≤ sizeLine := by show l.length ≤ _; rw [sizeLine_eq]; omega
  obtain ⟨h1, h2⟩ := ans_slice (prog := prog) (w := w) (A := A) ⟨⟨l⟩⟩ t sa lo hi hsz hs
  have el : (slicePicked ⟨⟨l⟩⟩ lo hi none).length = b - a := by rw [e]; simp
  by_cases q : b - a = l.length
  · rw [if_pos q, if_pos q]
    have h0 : a = 0 := by omega
    have : (l.drop a).take (b - a) = l := by rw [h0] at q ⊢; rw [q]; simp
    rw [this]
    exact h1 (by rw [el, q]; rfl)
  · rw [if_neg q, if_neg q]
    have := h2 (by rw [el]; exact q)
    rw [e] at this
    have e2 := pick_text l a (b - a)
    have e3 : (((List.range (b - a)).map (fun k => a + k)).filterMap ((⟨⟨l⟩⟩ : Str).cps[·]?)) = (l.drop a).take (b - a) := e2
    rw [e3] at this
    exact this
theorem ans_strip (l : List Nat) (t u k : Tok) (hl : l.length < 1000) (hk : s.toks = k) :
    Ans prog w A s (bi "str.rstrip" [.str ⟨⟨l⟩⟩ t, .str ⟨#[92]⟩ u]) (.str ⟨⟨stripB l⟩⟩ (if tailN l = 0 then t else k)) (if tailN l = 0 then 0 else 1) := by
  subst hk
  have hle := tailN_le l
  have hlo : PySem.stripLo (⟨#[92]⟩ : Str).cps.contains false ⟨⟨l⟩⟩ = 0 := rfl
  have hsame : PySem.stripSame (⟨#[92]⟩ : Str).cps.contains false true ⟨⟨l⟩⟩ = decide (tailN l = 0) := by
    unfold PySem.stripSame
    rw [hlo, strip_hi]
    show (0 == 0 && (l.length - tailN l == l.length)) = _
    by_cases q : tailN l = 0
    · simp [q]
    · have : ¬ l.length - tailN l = l.length := by omega
      simp [q, this]
  refine ans_gives F.slot_str_rstrip (typeIs_str s _ t) F.entry_str_rstrip (F.args_str_rstrip_2 _ _) (gives_str_rstrip_chars ⟨⟨l⟩⟩ ⟨#[92]⟩ t u) fun R hR => ?_
  rw [hsame]
  by_cases q : tailN l = 0
  · rw [if_pos q, if_pos q] at hR
    have : stripB l = l := by unfold stripB; rw [q]; simp
    rw [this] at hR
    simp only [q, decide_true, if_true]
    exact hR
  · rw [if_neg q, if_neg q] at hR
    simp only [q, decide_false, Bool.false_eq_true, if_false]
    have e : PySem.stripped (⟨#[92]⟩ : Str).cps.contains false true ⟨⟨l⟩⟩ = ⟨⟨stripB l⟩⟩ := by
      unfold PySem.stripped
      rw [hlo, strip_hi]
      show (⟨(⟨l⟩ : Array Nat).extract 0 (l.length - tailN l)⟩ : Str) = _
      rw [extract_eq]
      simp [stripB]
    rw [e]
    refine ⟨?_, hR⟩
    show (stripB l).length ≤ sizeLine
    unfold stripB
    rw [sizeLine_eq, List.length_take]
    omega
end
end
section
noncomputable abbrev slTo (k : Int) (t : Nat) : Obj := { cls := .type "slice", data := .fields #[.none, .int k t, .none] }
noncomputable def advI : List Nat := [1543, 1, 1, 1, 1, 2, 1, 1, 4, 1, 1, 6, 0, 1, 6, 6, 0, 1, 8, 10, 12, 14, 16]
noncomputable abbrev itselfC (text : Str) (tb : Nat) (k : Int) (tk : Nat) : Code := .call (.ref 770) ⟨[.str text tb, .int k tk], []⟩
noncomputable abbrev spI (rho tau : Nat → Nat) (text : Str) (tb : Nat) (k : Int) (tk : Nat) (ahead st : Str) (t1 t2 d1 d2 : Nat) (na nb nc nd : Int) (r : Bool) : List Sp := [
  ⟨bi "str.__getitem__" [.str text tb, .ref (rho 1)], [(1, rho 1, slTo k tk)], .str ahead t1, 2, d1⟩,
  ⟨bi "len" [.str ahead t1], [], .int na (tau (2 + d1 + 2)), 2 + d1 + 1, 2⟩,
  ⟨bi "str.rstrip" [.str ahead t1, .str ⟨#[92]⟩ (tau (2 + d1 + 3))], [], .str st t2, 2 + d1 + 4, d2⟩,
  ⟨bi "len" [.str st t2], [], .int nb (tau (2 + d1 + 4 + d2 + 1)), 2 + d1 + 4 + d2, 2⟩,
  ⟨bi "int.__sub__" [.int na (tau (2 + d1 + 2)), .int nb (tau (2 + d1 + 4 + d2 + 1))], [], .int nc (tau (2 + d1 + 4 + d2 + 2)), 2 + d1 + 4 + d2 + 2, 1⟩,
  ⟨bi "int.__mod__" [.int nc (tau (2 + d1 + 4 + d2 + 2)), .int 2 (tau (2 + d1 + 4 + d2 + 3))], [], .int nd (tau (2 + d1 + 4 + d2 + 4)), 2 + d1 + 4 + d2 + 4, 1⟩,
  ⟨bi "int.__eq__" [.int nd (tau (2 + d1 + 4 + d2 + 4)), .int 1 (tau (2 + d1 + 4 + d2 + 5))], [], .bool r, 2 + d1 + 4 + d2 + 6, 0⟩]
theorem runI_is (P : Params) (b c : Bool) (rho tau : Nat → Nat) (stk : Stk) (h0 : Option Value) (text : Str) (tb : Nat) (k : Int) (tk : Nat) (ahead st : Str) (t1 t2 d1 d2 : Nat) (na nb nc nd : Int) (r : Bool) :
    let o := entered (cfg (fP P b c) rho tau h0 (spI rho tau text tb k tk ahead st t1 t2 d1 d2 na nb nc nd r)) stk advI (itselfC text tb k tk) []
    (chkL o, retV [] o) = (chkR o, some (.ok (.ret (.bool r)), [])) := by
  cases b <;> kernel_rfl
section
variable {w : World} {R : Result → Shared → Prop}
theorem itself_is {A : Around} (hA : A.depth + 200 ≤ recursionLimit) {s : Shared} (G : Gr w s.heap) (text : List Nat) (tb : Nat) (hl : text.length < 1000) (k : Nat) (tk : Nat) (hk : k ≤ text.length)
    (hR : ∀ h i, (∀ b o, s.heap.get? b = some o → h.get? b = some o) → R (.ok (.ret (.bool (finF false (text.take k))))) ⟨h, s.gens, s.drawn, i, s.os⟩) :
    codeAny (model theProg w) A (itselfC ⟨⟨text⟩⟩ tb k tk) R s := by
  obtain ⟨h₀, g, dr, t₀, os⟩ := s
  have hb := fP_self w.params
  generalize w.params.followText "special-get-raises" = b at hb
  generalize w.params.followText "comprehension-iter-twice" = c at hb
  generalize hah : text.take k = ah at hR
  have hal : ah.length = k := by rw [← hah, List.length_take]; omega
  have hsl : (stripB ah).length = ah.length - tailN ah := by unfold stripB; rw [List.length_take]; omega
  have htl := tailN_le ah
  have eah : (text.drop 0).take (k - 0) = ah := by rw [List.drop_zero, Nat.sub_zero]; exact hah
  have O := mkOk (A := A) (t₀ := t₀) (ini := []) (sps := spI (fun m => h₀.objs.size + m) (fun i => t₀ + i) ⟨⟨text⟩⟩ tb k tk ⟨⟨ah⟩⟩ ⟨⟨stripB ah⟩⟩ (if k - 0 = text.length then tb else t₀ + 2)
      (if tailN ah = 0 then (if k - 0 = text.length then tb else t₀ + 2) else t₀ + (2 + (if k - 0 = text.length then 0 else 1) + 4)) (if k - 0 = text.length then 0 else 1) (if tailN ah = 0 then 0 else 1)
      (ah.length : Int) ((stripB ah).length : Int) ((ah.length : Int) - ((stripB ah).length : Int)) (((ah.length : Int) - ((stripB ah).length : Int)).fmod 2) (((ah.length : Int) - ((stripB ah).length : Int)).fmod 2 == 1)) G hb (fun _ h => nomatch h) (by omega) (by
    intro sp hm
    replace hm := memL hm
    rcases hm with rfl | rfl | rfl | rfl | rfl | rfl | rfl <;> intro A s hn ht
    · have := ans_cut (prog := theProg) (w := w) (A := A) (s := s) text tb (t₀ + 2) (h₀.objs.size + 1) none (some ((k : Int), tk)) 0 k (Nat.zero_le _) hk (range_none _ _) hl ht ⟨_, hn _ (List.mem_singleton.mpr rfl), rfl, rfl⟩
      rw [eah] at this
      exact this
    · exact ans_len _ _ _ (by show ah.length < 1000; omega) (by rw [ht]; rfl)
    · exact ans_strip ah _ _ _ (by omega) ht
    · exact ans_len _ _ _ (by show (stripB ah).length < 1000; omega) (by rw [ht]; rfl)
    · exact ans_sub _ _ _ _ _ ht
    · exact ans_mod _ _ _ _ _ (by decide) ht
    · exact ans_eqI _ _ _ _ _ rfl)
  refine run_fine O (mkHp (h := h₀) (own := []) (fun _ h => nomatch h) List.nodup_nil) (adv := advI) fun stk => fine_ret (runI_is w.params b c _ _ stk _ _ tb k tk _ _ _ _ _ _ _ _ _ _ _) fun h i hl' hk' => ?_
  have e : (((ah.length : Int) - ((stripB ah).length : Int)).fmod 2 == 1) = finF false ah := by
    rw [hsl, ← tail_odd]
    have : ((ah.length : Int) - ((ah.length - tailN ah : Nat) : Int)) = (tailN ah : Int) := by omega
    rw [this]
    have e2 : (tailN ah : Int).fmod 2 = ((tailN ah % 2 : Nat) : Int) := by
      rw [Int.fmod_eq_emod_of_nonneg _ (by decide)]; rfl
    rw [e2]
    rcases Nat.mod_two_eq_zero_or_one (tailN ah) with q | q <;> rw [q] <;> rfl
  rw [e]
  exact hR h i fun x o q => hk' x o q (by first | trivial | simp)
end
end
section
noncomputable def forOf : List Stmt → Option (Expr × List Stmt × List Stmt)
  | [] => none
  | st :: l => match st with
    | .For t _ b o _ => some (t, b, o)
    | _ => forOf l
/-- the loop of _law_due, in the frame F over the iterator it -/
@[irreducible] noncomputable def FL (P : Params) (F it : Addr) : Code := match forOf (bodyFn P 775) with
  | some x => .forLoop x.1 (.ref it) x.2.1 x.2.2 (envFn P 775 F)
  | none => .body [] default
structure DX where
  F : Addr
  W : Addr
  I : Addr
  text : Str
  tb : Nat
  tk : Nat → Nat
noncomputable abbrev fr3 (P : Params) (D : DX) (sent : Bool) : Obj := { cls := .type "frame", data := .dict #[entQ P "text" (D.tk 1) (.str D.text D.tb), entQ P "sent" (D.tk 2) (.bool sent), entQ P "words" (D.tk 3) (.ref D.W)] 3 }
noncomputable abbrev fr4 (P : Params) (D : DX) (sent : Bool) (t4 : Nat) (k : Int) (tk : Nat) : Obj := { cls := .type "frame", data := .dict #[entQ P "text" (D.tk 1) (.str D.text D.tb), entQ P "sent" (D.tk 2) (.bool sent), entQ P "words" (D.tk 3) (.ref D.W), entQ P "k" t4 (.int k tk)] 4 }
noncomputable abbrev fr6 (P : Params) (D : DX) (sent : Bool) (t4 t5 t6 : Nat) (k : Int) (tk : Nat) (it : Bool) (ah : Str) (ta : Nat) : Obj :=
  { cls := .type "frame", data := .dict #[entQ P "text" (D.tk 1) (.str D.text D.tb), entQ P "sent" (D.tk 2) (.bool sent), entQ P "words" (D.tk 3) (.ref D.W), entQ P "k" t4 (.int k tk), entQ P "itself" t5 (.bool it), entQ P "ahead" t6 (.str ah ta)] 6 }
noncomputable abbrev riO (k n : Int) : Obj := { cls := .type "range_iterator", data := .fields #[.int k 0, .int n 0, .int 1 0] }
noncomputable abbrev slLast (t : Nat) : Obj := { cls := .type "slice", data := .fields #[.int (-1) t, .none, .none] }
noncomputable abbrev sqNext (tau : Nat → Nat) (D : DX) (k n : Int) : List Sq := [⟨bi "range_iterator.__next__" [.ref D.I], [(2, D.I, riO k n)], some (2, D.I, riO (k + 1) (n - 1)), [], .int k (tau 0), 0, 0, 1⟩]
noncomputable abbrev spP1 (rho tau : Nat → Nat) (D : DX) (k : Int) (ah0 ah : Str) (t1 t2 d1 d2 : Nat) : List Sp := [
  ⟨bi "str.__getitem__" [.str D.text D.tb, .ref (rho 0)], [(3, rho 0, slTo k (tau 0))], .str ah0 t1, 2, d1⟩,
  ⟨bi "str.__getitem__" [.str ah0 t1, .ref (rho 1)], [(4, rho 1, slLast (tau (2 + d1 + 1)))], .str ah t2, 2 + d1 + 2, d2⟩]
noncomputable def advP1 : List Nat := [2, 5, 8, 1, 1, 1, 1, 4, 0, 0, 6, 6, 1, 1, 1540, 1]
noncomputable abbrev runP1 (P : Params) (b c : Bool) (rho tau : Nat → Nat) (stk : Stk) (h0 : Option Value) (D : DX) (fr : Obj) (xs : List Value) (cn : Nat) (k n : Int) (ah0 ah : Str) (t1 t2 d1 d2 : Nat) : Out :=
  entered (cfgQ (fP P b c) rho tau h0 (spP1 rho tau D k ah0 ah t1 t2 d1 d2) (sqNext tau D k n)) stk advP1 (FL (fP P b c) D.F D.I) [(D.F, fr), (D.W, listO xs cn), (D.I, riO k n)]
theorem runP1a_is (P : Params) (b c : Bool) (rho tau : Nat → Nat) (stk : Stk) (h0 : Option Value) (D : DX) (sent : Bool) (xs : List Value) (cn : Nat) (k n : Int) (ah0 ah : Str) (t1 t2 d1 d2 : Nat) :
    let o := runP1 P b c rho tau stk h0 D (fr3 P D sent) xs cn k n ah0 ah t1 t2 d1 d2
    (chkL o, cutR [0, 1, 2] o) = (chkR o, some (itselfC D.text D.tb k (tau 0), [(D.F, fr4 P D sent (tau 1) k (tau 0)), (D.W, listO xs cn), (D.I, riO (k + 1) (n - 1))])) := by
  cases b <;> kernel_rfl
theorem runP1b_is (P : Params) (b c : Bool) (rho tau : Nat → Nat) (stk : Stk) (h0 : Option Value) (D : DX) (sent : Bool) (t4 t5 t6 : Nat) (k' : Int) (tk' : Nat) (it' : Bool) (ah' : Str) (ta' : Nat) (xs : List Value) (cn : Nat) (k n : Int) (ah0 ah : Str) (t1 t2 d1 d2 : Nat) :
    let o := runP1 P b c rho tau stk h0 D (fr6 P D sent t4 t5 t6 k' tk' it' ah' ta') xs cn k n ah0 ah t1 t2 d1 d2
    (chkL o, cutR [0, 1, 2] o) = (chkR o, some (itselfC D.text D.tb k (tau 0), [(D.F, fr6 P D sent t4 t5 t6 k (tau 0) it' ah' ta'), (D.W, listO xs cn), (D.I, riO (k + 1) (n - 1))])) := by
  cases b <;> kernel_rfl
end
section
/-- what the second part of a turn meets -/
structure DE where
  D : DX
  k : Int
  ah : Str
  t2 : Nat
  xs : List Value
  xs1 : List Value
  xs2 : List Value
  cn : Nat
  cur : Str
  new : Str
  tcur : Nat
  tnew : Nat
  d3 : Nat
/-- an answer that a turn wants: the sign, the last word, the sum, the two tests of the sign ahead -/
inductive Aw where
  | gi (i : Nat)
  | wg (i : Nat)
  | ad
  | co (r : Bool)
  | ne (r : Bool)
/-- a kind of turn -/
structure TS where
  c : Nat
  sent : Bool
  it : Bool
  aws : List Aw
  y : List Nat
  ad : Nat
  m : Nat
  sets : Bool
  app : Nat
  adv : List Nat
  hy : y.length < 2000 := by decide
noncomputable def TS.sp (S : TS) (rho2 tau tau2 : Nat → Nat) (E : DE) : Aw → Sp
  | .gi i => ⟨bi "str.__getitem__" [.str E.D.text E.D.tb, .int E.k (tau 0)], [], .str ⟨#[S.c]⟩ (tau2 i), i, 1⟩
  | .wg i => ⟨bi "list.__getitem__" [.ref E.D.W, .int (-1) (tau2 (i - 1))], [(1, E.D.W, listO E.xs E.cn)], .str E.cur E.tcur, i, 0⟩
  | .ad => ⟨bi "str.__add__" [.str E.cur E.tcur, .str ⟨⟨S.y⟩⟩ (tau2 (S.ad - 1))], [], .str E.new E.tnew, S.ad, E.d3⟩
  | .co r => ⟨bi "list.__contains__" [.ref (rho2 4), .str E.ah E.t2], [(7, rho2 4, listO [.str ⟨#[]⟩ (tau2 6), .str ⟨#[13]⟩ (tau2 7), .str ⟨#[10]⟩ (tau2 8)] 0)], .bool r, 9, 0⟩
  | .ne r => ⟨bi "str.__ne__" [.str E.ah E.t2, .str ⟨#[13]⟩ (tau2 6)], [], .bool r, 7, 0⟩
noncomputable def sqSet (E : DE) (tau2 : Nat → Nat) (ad m : Nat) : Sq := ⟨bi "list.__setitem__" [.ref E.D.W, .int (-1) (tau2 (ad + E.d3 + 1)), .str E.new E.tnew], [(1, E.D.W, listO E.xs E.cn)], some (1, E.D.W, listO E.xs1 E.cn), [], .none, ad + E.d3 + 2, m, 0⟩
noncomputable def sqApp (E : DE) (xs : List Value) (t i m : Nat) : Sq := ⟨bi "list.append" [.ref E.D.W, .str ⟨#[]⟩ t], [(1, E.D.W, listO xs E.cn)], some (1, E.D.W, listO E.xs2 (E.cn + 1)), [], .none, i, m, 0⟩
noncomputable def TS.sqs (S : TS) (tau2 : Nat → Nat) (E : DE) : List Sq := match S.sets with
  | true => sqSet E tau2 S.ad S.m :: (match S.app with
    | 0 => []
    | _ + 1 => [sqApp E E.xs1 (tau2 (S.ad + E.d3 + 2)) (S.ad + E.d3 + 3) S.m])
  | false => match S.app with
    | 0 => []
    | j + 1 => [sqApp E E.xs (tau2 (j + 1)) (j + 2) S.m]
noncomputable def TS.fin (S : TS) (E : DE) : List Value × Nat := match S.app with
  | 0 => match S.sets with
    | true => (E.xs1, E.cn)
    | false => (E.xs, E.cn)
  | _ + 1 => (E.xs2, E.cn + 1)
noncomputable abbrev Run2 (S : TS) (fr0 : Params → DX → Obj) (fr1 : Params → DX → (Nat → Nat) → Int → Obj) (fr2 : Params → (tau tau2 : Nat → Nat) → DE → Obj) : Prop :=
  ∀ (P : Params) (b c : Bool) (rho tau rho2 tau2 : Nat → Nat) (stk stk2 : Stk) (E : DE) (n : Int) (ah0 : Str) (t1 d1 d2 : Nat),
    let o := res (runP1 P b c rho tau stk none E.D (fr0 P E.D) E.xs E.cn E.k n ah0 E.ah t1 E.t2 d1 d2) (.ok (.ret (.bool S.it))) (cfgQ (fP P b c) rho2 tau2 none (S.aws.map (S.sp rho2 tau tau2 E)) (S.sqs tau2 E)) stk2 S.adv [(E.D.F, fr1 P E.D tau E.k), (E.D.W, listO E.xs E.cn), (E.D.I, riO (E.k + 1) (n - 1))]
    (chkL o, cutV [0, 1, 2] o) = (chkR o, some (FL (fP P b c) E.D.F E.D.I, [(E.D.F, fr2 P tau tau2 E), (E.D.W, listO (S.fin E).1 (S.fin E).2), (E.D.I, riO (E.k + 1) (n - 1))]))
noncomputable abbrev RunF (S : TS) : Prop := Run2 S (fun P D => fr3 P D S.sent) (fun P D tau k => fr4 P D S.sent (tau 1) k (tau 0)) (fun P tau tau2 E => fr6 P E.D S.sent (tau 1) (tau2 0) (tau2 1) E.k (tau 0) S.it E.ah E.t2)
noncomputable abbrev RunG (S : TS) : Prop := ∀ (t4 t5 t6 : Nat) (k' : Int) (tk' : Nat) (it' : Bool) (ah' : Str) (ta' : Nat), Run2 S (fun P D => fr6 P D S.sent t4 t5 t6 k' tk' it' ah' ta') (fun P D tau k => fr6 P D S.sent t4 t5 t6 k (tau 0) it' ah' ta') (fun P tau tau2 E => fr6 P E.D S.sent t4 t5 t6 E.k (tau 0) S.it E.ah E.t2)
noncomputable def stFFK : TS := { c := 92, sent := false, it := false, aws := [.gi 2, .gi 4], y := [], ad := 0, m := 4, sets := false, app := 0, adv := [7,7,7,0,7,0,9,9,0,9,0,9,9,7,9,9,9,0,9,0,9,9,7,9,9,9,0,9,0,9,9,7,9,9,13,1,1,1,1,1,1,1,1,1,4,0,0,1,1,6,0,0,1] }
theorem runFFK : RunF stFFK := fun _ b _ _ _ _ _ _ _ _ _ _ _ _ _ => by cases b <;> kernel_rfl
noncomputable def stGFKn : TS := { c := 92, sent := false, it := false, aws := [.gi 2, .gi 4], y := [], ad := 0, m := 4, sets := false, app := 0, adv := [7,7,7,0,7,0,9,9,0,9,0,9,9,7,9,9,9,0,9,0,9,9,7,9,9,9,0,9,0,9,9,7,9,9,13,1,1,1,1,1,1,1,1,1,4,0,0,1,1,6,0,0,1] }
theorem runGFKn : RunG stGFKn := fun _ _ _ _ _ _ _ _ _ b _ _ _ _ _ _ _ _ _ _ _ _ _ => by cases b <;> kernel_rfl
noncomputable def stGFKi : TS := { c := 92, sent := false, it := true, aws := [.wg 4, .gi 4, .ad], y := [92], ad := 5, m := 4, sets := true, app := 0, adv := [7,7,7,0,7,0,9,9,0,9,0,9,9,7,9,9,9,0,9,0,9,9,7,9,9,9,0,9,0,9,9,7,9,9,13,1,1,1,1,1,1,1,1,0,0,3,3,3,4,1,1,6,8,1,0,0,3,3,10,1] }
theorem runGFKi : RunG stGFKi := fun _ _ _ _ _ _ _ _ _ b _ _ _ _ _ _ _ _ _ _ _ _ _ => by cases b <;> kernel_rfl
noncomputable def stFTK : TS := { c := 92, sent := true, it := false, aws := [.gi 2, .gi 4, .gi 6, .gi 8], y := [], ad := 0, m := 4, sets := false, app := 0, adv := [7,7,7,0,7,0,9,9,0,9,0,9,9,7,9,9,9,0,9,0,9,9,7,9,9,9,0,9,0,9,9,7,9,9,13,1,1,1,1,1,1,1,4,0,0,1,1,1,6,0,0,1,1,1,8,0,0,1,1,10,0,0,1] }
theorem runFTK : RunF stFTK := fun _ b _ _ _ _ _ _ _ _ _ _ _ _ _ => by cases b <;> kernel_rfl
noncomputable def stGTKn : TS := { c := 92, sent := true, it := false, aws := [.gi 2, .gi 4, .gi 6, .gi 8], y := [], ad := 0, m := 4, sets := false, app := 0, adv := [7,7,7,0,7,0,9,9,0,9,0,9,9,7,9,9,9,0,9,0,9,9,7,9,9,9,0,9,0,9,9,7,9,9,13,1,1,1,1,1,1,1,4,0,0,1,1,1,6,0,0,1,1,1,8,0,0,1,1,10,0,0,1] }
theorem runGTKn : RunG stGTKn := fun _ _ _ _ _ _ _ _ _ b _ _ _ _ _ _ _ _ _ _ _ _ _ => by cases b <;> kernel_rfl
noncomputable def stGTKi : TS := { c := 92, sent := true, it := true, aws := [.gi 2, .gi 4, .wg 8, .gi 8, .ad], y := [92], ad := 9, m := 4, sets := true, app := 0, adv := [7,7,7,0,7,0,9,9,0,9,0,9,9,7,9,9,9,0,9,0,9,9,7,9,9,9,0,9,0,9,9,7,9,9,13,1,1,1,1,1,1,1,4,0,0,1,1,1,6,0,0,1,1,0,0,3,3,3,8,1,1,10,12,1,0,0,3,3,14,1] }
theorem runGTKi : RunG stGTKi := fun _ _ _ _ _ _ _ _ _ b _ _ _ _ _ _ _ _ _ _ _ _ _ => by cases b <;> kernel_rfl
noncomputable def stFFR : TS := { c := 13, sent := false, it := false, aws := [.gi 2, .gi 4], y := [], ad := 0, m := 4, sets := false, app := 6, adv := [7,7,7,0,7,0,9,9,0,9,0,9,9,7,9,9,9,0,9,0,9,9,7,9,9,9,0,9,0,9,9,7,9,9,13,1,1,1,1,1,1,1,1,1,4,0,0,1,1,6,0,0,1,3,3,3,3,8,1] }
theorem runFFR : RunF stFFR := fun _ b _ _ _ _ _ _ _ _ _ _ _ _ _ => by cases b <;> kernel_rfl
noncomputable def stGFRn : TS := { c := 13, sent := false, it := false, aws := [.gi 2, .gi 4], y := [], ad := 0, m := 4, sets := false, app := 6, adv := [7,7,7,0,7,0,9,9,0,9,0,9,9,7,9,9,9,0,9,0,9,9,7,9,9,9,0,9,0,9,9,7,9,9,13,1,1,1,1,1,1,1,1,1,4,0,0,1,1,6,0,0,1,3,3,3,3,8,1] }
theorem runGFRn : RunG stGFRn := fun _ _ _ _ _ _ _ _ _ b _ _ _ _ _ _ _ _ _ _ _ _ _ => by cases b <;> kernel_rfl
noncomputable def stGFRi : TS := { c := 13, sent := false, it := true, aws := [.wg 4, .gi 4, .ad], y := [13], ad := 5, m := 4, sets := true, app := 0, adv := [7,7,7,0,7,0,9,9,0,9,0,9,9,7,9,9,9,0,9,0,9,9,7,9,9,9,0,9,0,9,9,7,9,9,13,1,1,1,1,1,1,1,1,0,0,3,3,3,4,1,1,6,8,1,0,0,3,3,10,1] }
theorem runGFRi : RunG stGFRi := fun _ _ _ _ _ _ _ _ _ b _ _ _ _ _ _ _ _ _ _ _ _ _ => by cases b <;> kernel_rfl
noncomputable def stFTR : TS := { c := 13, sent := true, it := false, aws := [.gi 2, .gi 4, .wg 8, .ad], y := [], ad := 9, m := 4, sets := true, app := 1, adv := [7,7,7,0,7,0,9,9,0,9,0,9,9,7,9,9,9,0,9,0,9,9,7,9,9,9,0,9,0,9,9,7,9,9,13,1,1,1,1,1,1,1,4,0,0,1,1,6,0,0,1,0,0,3,3,3,8,1,10,1,0,0,3,3,12,1,3,3,3,3,14,1] }
theorem runFTR : RunF stFTR := fun _ b _ _ _ _ _ _ _ _ _ _ _ _ _ => by cases b <;> kernel_rfl
noncomputable def stGTRn : TS := { c := 13, sent := true, it := false, aws := [.gi 2, .gi 4, .wg 8, .ad], y := [], ad := 9, m := 4, sets := true, app := 1, adv := [7,7,7,0,7,0,9,9,0,9,0,9,9,7,9,9,9,0,9,0,9,9,7,9,9,9,0,9,0,9,9,7,9,9,13,1,1,1,1,1,1,1,4,0,0,1,1,6,0,0,1,0,0,3,3,3,8,1,10,1,0,0,3,3,12,1,3,3,3,3,14,1] }
theorem runGTRn : RunG stGTRn := fun _ _ _ _ _ _ _ _ _ b _ _ _ _ _ _ _ _ _ _ _ _ _ => by cases b <;> kernel_rfl
noncomputable def stGTRi : TS := { c := 13, sent := true, it := true, aws := [.gi 2, .gi 4, .wg 8, .ad], y := [13], ad := 9, m := 4, sets := true, app := 1, adv := [7,7,7,0,7,0,9,9,0,9,0,9,9,7,9,9,9,0,9,0,9,9,7,9,9,9,0,9,0,9,9,7,9,9,13,1,1,1,1,1,1,1,4,0,0,1,1,6,0,0,1,0,0,3,3,3,8,1,10,1,0,0,3,3,12,1,3,3,3,3,14,1] }
theorem runGTRi : RunG stGTRi := fun _ _ _ _ _ _ _ _ _ b _ _ _ _ _ _ _ _ _ _ _ _ _ => by cases b <;> kernel_rfl
noncomputable def stFFL : TS := { c := 10, sent := false, it := false, aws := [.gi 2, .gi 4], y := [], ad := 0, m := 4, sets := false, app := 6, adv := [7,7,7,0,7,0,9,9,0,9,0,9,9,7,9,9,9,0,9,0,9,9,7,9,9,9,0,9,0,9,9,7,9,9,13,1,1,1,1,1,1,1,1,1,4,0,0,1,1,6,0,0,1,3,3,3,3,8,1] }
theorem runFFL : RunF stFFL := fun _ b _ _ _ _ _ _ _ _ _ _ _ _ _ => by cases b <;> kernel_rfl
noncomputable def stGFLn : TS := { c := 10, sent := false, it := false, aws := [.gi 2, .gi 4], y := [], ad := 0, m := 4, sets := false, app := 6, adv := [7,7,7,0,7,0,9,9,0,9,0,9,9,7,9,9,9,0,9,0,9,9,7,9,9,9,0,9,0,9,9,7,9,9,13,1,1,1,1,1,1,1,1,1,4,0,0,1,1,6,0,0,1,3,3,3,3,8,1] }
theorem runGFLn : RunG stGFLn := fun _ _ _ _ _ _ _ _ _ b _ _ _ _ _ _ _ _ _ _ _ _ _ => by cases b <;> kernel_rfl
noncomputable def stGFLi : TS := { c := 10, sent := false, it := true, aws := [.wg 4, .gi 4, .ad], y := [10], ad := 5, m := 4, sets := true, app := 0, adv := [7,7,7,0,7,0,9,9,0,9,0,9,9,7,9,9,9,0,9,0,9,9,7,9,9,9,0,9,0,9,9,7,9,9,13,1,1,1,1,1,1,1,1,0,0,3,3,3,4,1,1,6,8,1,0,0,3,3,10,1] }
theorem runGFLi : RunG stGFLi := fun _ _ _ _ _ _ _ _ _ b _ _ _ _ _ _ _ _ _ _ _ _ _ => by cases b <;> kernel_rfl
noncomputable def stFTL : TS := { c := 10, sent := true, it := false, aws := [.gi 2, .gi 4, .ne true, .wg 9, .ad], y := [], ad := 10, m := 4, sets := true, app := 1, adv := [7,7,7,0,7,0,9,9,0,9,0,9,9,7,9,9,9,0,9,0,9,9,7,9,9,9,0,9,0,9,9,7,9,9,13,1,1,1,1,1,1,1,4,0,0,1,1,6,0,0,1,8,1,0,0,3,3,3,10,1,12,1,0,0,3,3,14,1,3,3,3,3,16,1] }
theorem runFTL : RunF stFTL := fun _ b _ _ _ _ _ _ _ _ _ _ _ _ _ => by cases b <;> kernel_rfl
noncomputable def stGTLn : TS := { c := 10, sent := true, it := false, aws := [.gi 2, .gi 4, .ne true, .wg 9, .ad], y := [], ad := 10, m := 4, sets := true, app := 1, adv := [7,7,7,0,7,0,9,9,0,9,0,9,9,7,9,9,9,0,9,0,9,9,7,9,9,9,0,9,0,9,9,7,9,9,13,1,1,1,1,1,1,1,4,0,0,1,1,6,0,0,1,8,1,0,0,3,3,3,10,1,12,1,0,0,3,3,14,1,3,3,3,3,16,1] }
theorem runGTLn : RunG stGTLn := fun _ _ _ _ _ _ _ _ _ b _ _ _ _ _ _ _ _ _ _ _ _ _ => by cases b <;> kernel_rfl
noncomputable def stGTLi : TS := { c := 10, sent := true, it := true, aws := [.gi 2, .gi 4, .ne true, .wg 9, .ad], y := [13], ad := 10, m := 4, sets := true, app := 1, adv := [7,7,7,0,7,0,9,9,0,9,0,9,9,7,9,9,9,0,9,0,9,9,7,9,9,9,0,9,0,9,9,7,9,9,13,1,1,1,1,1,1,1,4,0,0,1,1,6,0,0,1,8,1,0,0,3,3,3,10,1,12,1,0,0,3,3,14,1,3,3,3,3,16,1] }
theorem runGTLi : RunG stGTLi := fun _ _ _ _ _ _ _ _ _ b _ _ _ _ _ _ _ _ _ _ _ _ _ => by cases b <;> kernel_rfl
noncomputable def stFFD : TS := { c := 46, sent := false, it := false, aws := [.gi 2, .wg 6, .gi 6, .ad], y := [46], ad := 7, m := 4, sets := true, app := 0, adv := [7,7,7,0,7,0,9,9,0,9,0,9,9,7,9,9,9,0,9,0,9,9,7,9,9,9,0,9,0,9,9,7,9,9,13,1,1,1,1,1,1,1,1,1,4,0,0,1,0,0,3,3,3,6,1,1,8,10,1,0,0,3,3,12,1] }
theorem runFFD : RunF stFFD := fun _ b _ _ _ _ _ _ _ _ _ _ _ _ _ => by cases b <;> kernel_rfl
noncomputable def stGFDn : TS := { c := 46, sent := false, it := false, aws := [.gi 2, .wg 6, .gi 6, .ad], y := [46], ad := 7, m := 4, sets := true, app := 0, adv := [7,7,7,0,7,0,9,9,0,9,0,9,9,7,9,9,9,0,9,0,9,9,7,9,9,9,0,9,0,9,9,7,9,9,13,1,1,1,1,1,1,1,1,1,4,0,0,1,0,0,3,3,3,6,1,1,8,10,1,0,0,3,3,12,1] }
theorem runGFDn : RunG stGFDn := fun _ _ _ _ _ _ _ _ _ b _ _ _ _ _ _ _ _ _ _ _ _ _ => by cases b <;> kernel_rfl
noncomputable def stGFDi : TS := { c := 46, sent := false, it := true, aws := [.wg 4, .gi 4, .ad], y := [46], ad := 5, m := 4, sets := true, app := 0, adv := [7,7,7,0,7,0,9,9,0,9,0,9,9,7,9,9,9,0,9,0,9,9,7,9,9,9,0,9,0,9,9,7,9,9,13,1,1,1,1,1,1,1,1,0,0,3,3,3,4,1,1,6,8,1,0,0,3,3,10,1] }
theorem runGFDi : RunG stGFDi := fun _ _ _ _ _ _ _ _ _ b _ _ _ _ _ _ _ _ _ _ _ _ _ => by cases b <;> kernel_rfl
noncomputable def stFTD : TS := { c := 46, sent := true, it := false, aws := [.gi 2, .gi 4, .co true, .wg 11, .ad], y := [46, 46], ad := 12, m := 5, sets := true, app := 0, adv := [7,7,7,0,7,0,9,9,0,9,0,9,9,7,9,9,9,0,9,0,9,9,7,9,9,9,0,9,0,9,9,7,9,9,13,1,1,1,1,1,1,1,4,0,0,1,1,1,6,0,0,1,15,15,8,1,0,0,3,3,3,10,12,1,0,0,3,3,14,1] }
theorem runFTD : RunF stFTD := fun _ b _ _ _ _ _ _ _ _ _ _ _ _ _ => by cases b <;> kernel_rfl
noncomputable def stGTDn : TS := { c := 46, sent := true, it := false, aws := [.gi 2, .gi 4, .co false, .gi 9, .wg 13, .gi 13, .ad], y := [46], ad := 14, m := 5, sets := true, app := 0, adv := [7,7,7,0,7,0,9,9,0,9,0,9,9,7,9,9,9,0,9,0,9,9,7,9,9,9,0,9,0,9,9,7,9,9,13,1,1,1,1,1,1,1,4,0,0,1,1,1,6,0,0,1,15,15,8,1,1,1,10,0,0,1,0,0,3,3,3,12,1,1,14,16,1,0,0,3,3,18,1] }
theorem runGTDn : RunG stGTDn := fun _ _ _ _ _ _ _ _ _ b _ _ _ _ _ _ _ _ _ _ _ _ _ => by cases b <;> kernel_rfl
noncomputable def stGTDi : TS := { c := 46, sent := true, it := true, aws := [.gi 2, .gi 4, .co false, .wg 11, .gi 11, .ad], y := [46], ad := 12, m := 5, sets := true, app := 0, adv := [7,7,7,0,7,0,9,9,0,9,0,9,9,7,9,9,9,0,9,0,9,9,7,9,9,9,0,9,0,9,9,7,9,9,13,1,1,1,1,1,1,1,4,0,0,1,1,1,6,0,0,1,15,15,8,1,1,0,0,3,3,3,10,1,1,12,14,1,0,0,3,3,16,1] }
theorem runGTDi : RunG stGTDi := fun _ _ _ _ _ _ _ _ _ b _ _ _ _ _ _ _ _ _ _ _ _ _ => by cases b <;> kernel_rfl
noncomputable def stFFA : TS := { c := 97, sent := false, it := false, aws := [.gi 2, .wg 6, .gi 6, .ad], y := [97], ad := 7, m := 4, sets := true, app := 0, adv := [7,7,7,0,7,0,9,9,0,9,0,9,9,7,9,9,9,0,9,0,9,9,7,9,9,9,0,9,0,9,9,7,9,9,13,1,1,1,1,1,1,1,1,1,4,0,0,1,0,0,3,3,3,6,1,1,8,10,1,0,0,3,3,12,1] }
theorem runFFA : RunF stFFA := fun _ b _ _ _ _ _ _ _ _ _ _ _ _ _ => by cases b <;> kernel_rfl
noncomputable def stGFAn : TS := { c := 97, sent := false, it := false, aws := [.gi 2, .wg 6, .gi 6, .ad], y := [97], ad := 7, m := 4, sets := true, app := 0, adv := [7,7,7,0,7,0,9,9,0,9,0,9,9,7,9,9,9,0,9,0,9,9,7,9,9,9,0,9,0,9,9,7,9,9,13,1,1,1,1,1,1,1,1,1,4,0,0,1,0,0,3,3,3,6,1,1,8,10,1,0,0,3,3,12,1] }
theorem runGFAn : RunG stGFAn := fun _ _ _ _ _ _ _ _ _ b _ _ _ _ _ _ _ _ _ _ _ _ _ => by cases b <;> kernel_rfl
noncomputable def stGFAi : TS := { c := 97, sent := false, it := true, aws := [.wg 4, .gi 4, .ad], y := [97], ad := 5, m := 4, sets := true, app := 0, adv := [7,7,7,0,7,0,9,9,0,9,0,9,9,7,9,9,9,0,9,0,9,9,7,9,9,9,0,9,0,9,9,7,9,9,13,1,1,1,1,1,1,1,1,0,0,3,3,3,4,1,1,6,8,1,0,0,3,3,10,1] }
theorem runGFAi : RunG stGFAi := fun _ _ _ _ _ _ _ _ _ b _ _ _ _ _ _ _ _ _ _ _ _ _ => by cases b <;> kernel_rfl
noncomputable def stFTA : TS := { c := 97, sent := true, it := false, aws := [.gi 2, .gi 4, .gi 6, .wg 10, .gi 10, .ad], y := [97], ad := 11, m := 4, sets := true, app := 0, adv := [7,7,7,0,7,0,9,9,0,9,0,9,9,7,9,9,9,0,9,0,9,9,7,9,9,9,0,9,0,9,9,7,9,9,13,1,1,1,1,1,1,1,4,0,0,1,1,1,6,0,0,1,1,1,8,0,0,1,0,0,3,3,3,10,1,1,12,14,1,0,0,3,3,16,1] }
theorem runFTA : RunF stFTA := fun _ b _ _ _ _ _ _ _ _ _ _ _ _ _ => by cases b <;> kernel_rfl
noncomputable def stGTAn : TS := { c := 97, sent := true, it := false, aws := [.gi 2, .gi 4, .gi 6, .wg 10, .gi 10, .ad], y := [97], ad := 11, m := 4, sets := true, app := 0, adv := [7,7,7,0,7,0,9,9,0,9,0,9,9,7,9,9,9,0,9,0,9,9,7,9,9,9,0,9,0,9,9,7,9,9,13,1,1,1,1,1,1,1,4,0,0,1,1,1,6,0,0,1,1,1,8,0,0,1,0,0,3,3,3,10,1,1,12,14,1,0,0,3,3,16,1] }
theorem runGTAn : RunG stGTAn := fun _ _ _ _ _ _ _ _ _ b _ _ _ _ _ _ _ _ _ _ _ _ _ => by cases b <;> kernel_rfl
noncomputable def stGTAi : TS := { c := 97, sent := true, it := true, aws := [.gi 2, .gi 4, .wg 8, .gi 8, .ad], y := [97], ad := 9, m := 4, sets := true, app := 0, adv := [7,7,7,0,7,0,9,9,0,9,0,9,9,7,9,9,9,0,9,0,9,9,7,9,9,9,0,9,0,9,9,7,9,9,13,1,1,1,1,1,1,1,4,0,0,1,1,1,6,0,0,1,1,0,0,3,3,3,8,1,1,10,12,1,0,0,3,3,14,1] }
theorem runGTAi : RunG stGTAi := fun _ _ _ _ _ _ _ _ _ b _ _ _ _ _ _ _ _ _ _ _ _ _ => by cases b <;> kernel_rfl
noncomputable def stFFW : TS := { c := 32, sent := false, it := false, aws := [.gi 2, .gi 4], y := [], ad := 0, m := 4, sets := false, app := 6, adv := [7,7,7,0,7,0,9,9,0,9,0,9,9,7,9,9,9,0,9,0,9,9,7,9,9,9,0,9,0,9,9,7,9,9,13,1,1,1,1,1,1,1,1,1,4,0,0,1,1,6,0,0,1,3,3,3,3,8,1] }
theorem runFFW : RunF stFFW := fun _ b _ _ _ _ _ _ _ _ _ _ _ _ _ => by cases b <;> kernel_rfl
noncomputable def stGFWn : TS := { c := 32, sent := false, it := false, aws := [.gi 2, .gi 4], y := [], ad := 0, m := 4, sets := false, app := 6, adv := [7,7,7,0,7,0,9,9,0,9,0,9,9,7,9,9,9,0,9,0,9,9,7,9,9,9,0,9,0,9,9,7,9,9,13,1,1,1,1,1,1,1,1,1,4,0,0,1,1,6,0,0,1,3,3,3,3,8,1] }
theorem runGFWn : RunG stGFWn := fun _ _ _ _ _ _ _ _ _ b _ _ _ _ _ _ _ _ _ _ _ _ _ => by cases b <;> kernel_rfl
noncomputable def stGFWi : TS := { c := 32, sent := false, it := true, aws := [.wg 4, .gi 4, .ad], y := [32], ad := 5, m := 4, sets := true, app := 0, adv := [7,7,7,0,7,0,9,9,0,9,0,9,9,7,9,9,9,0,9,0,9,9,7,9,9,9,0,9,0,9,9,7,9,9,13,1,1,1,1,1,1,1,1,0,0,3,3,3,4,1,1,6,8,1,0,0,3,3,10,1] }
theorem runGFWi : RunG stGFWi := fun _ _ _ _ _ _ _ _ _ b _ _ _ _ _ _ _ _ _ _ _ _ _ => by cases b <;> kernel_rfl
noncomputable def stFTW : TS := { c := 32, sent := true, it := false, aws := [.gi 2, .gi 4, .gi 6, .gi 8], y := [], ad := 0, m := 4, sets := false, app := 10, adv := [7,7,7,0,7,0,9,9,0,9,0,9,9,7,9,9,9,0,9,0,9,9,7,9,9,9,0,9,0,9,9,7,9,9,13,1,1,1,1,1,1,1,4,0,0,1,1,1,6,0,0,1,1,1,8,0,0,1,1,10,0,0,1,3,3,3,3,12,1] }
theorem runFTW : RunF stFTW := fun _ b _ _ _ _ _ _ _ _ _ _ _ _ _ => by cases b <;> kernel_rfl
noncomputable def stGTWn : TS := { c := 32, sent := true, it := false, aws := [.gi 2, .gi 4, .gi 6, .gi 8], y := [], ad := 0, m := 4, sets := false, app := 10, adv := [7,7,7,0,7,0,9,9,0,9,0,9,9,7,9,9,9,0,9,0,9,9,7,9,9,9,0,9,0,9,9,7,9,9,13,1,1,1,1,1,1,1,4,0,0,1,1,1,6,0,0,1,1,1,8,0,0,1,1,10,0,0,1,3,3,3,3,12,1] }
theorem runGTWn : RunG stGTWn := fun _ _ _ _ _ _ _ _ _ b _ _ _ _ _ _ _ _ _ _ _ _ _ => by cases b <;> kernel_rfl
noncomputable def stGTWi : TS := { c := 32, sent := true, it := true, aws := [.gi 2, .gi 4, .wg 8, .gi 8, .ad], y := [32], ad := 9, m := 4, sets := true, app := 0, adv := [7,7,7,0,7,0,9,9,0,9,0,9,9,7,9,9,9,0,9,0,9,9,7,9,9,9,0,9,0,9,9,7,9,9,13,1,1,1,1,1,1,1,4,0,0,1,1,1,6,0,0,1,1,0,0,3,3,3,8,1,1,10,12,1,0,0,3,3,14,1] }
theorem runGTWi : RunG stGTWi := fun _ _ _ _ _ _ _ _ _ b _ _ _ _ _ _ _ _ _ _ _ _ _ => by cases b <;> kernel_rfl
noncomputable def stGTLnr : TS := { c := 10, sent := true, it := false, aws := [.gi 2, .gi 4, .ne false], y := [], ad := 0, m := 4, sets := false, app := 0, adv := [7,7,7,0,7,0,9,9,0,9,0,9,9,7,9,9,9,0,9,0,9,9,7,9,9,9,0,9,0,9,9,7,9,9,13,1,1,1,1,1,1,1,4,0,0,1,1,6,0,0,1,8,1] }
theorem runGTLnr : RunG stGTLnr := fun _ _ _ _ _ _ _ _ _ b _ _ _ _ _ _ _ _ _ _ _ _ _ => by cases b <;> kernel_rfl
noncomputable def stGTDnb : TS := { c := 46, sent := true, it := false, aws := [.gi 2, .gi 4, .co true, .wg 11, .ad], y := [46, 46], ad := 12, m := 5, sets := true, app := 0, adv := [7,7,7,0,7,0,9,9,0,9,0,9,9,7,9,9,9,0,9,0,9,9,7,9,9,9,0,9,0,9,9,7,9,9,13,1,1,1,1,1,1,1,4,0,0,1,1,1,6,0,0,1,15,15,8,1,0,0,3,3,3,10,12,1,0,0,3,3,14,1] }
theorem runGTDnb : RunG stGTDnb := fun _ _ _ _ _ _ _ _ _ b _ _ _ _ _ _ _ _ _ _ _ _ _ => by cases b <;> kernel_rfl
end
section
section
variable {prog : Program} {w : World} {A : Around} {s : Shared}
noncomputable abbrev AnsQ (prog : Program) (w : World) (A : Around) (s : Shared) (c : Code) (g : Option (Nat × Addr × Obj)) (news : List Obj) (v : Value) (dt : Nat) : Prop :=
  wpAny (model prog w) A (runValue c) (fun r s' => r = v ∧ ∃ h', SqHeap g news s.heap h' ∧ s' = { s with heap := h', toks := s.toks + dt }) (fun _ _ => False) s
theorem SqHeap.of_same {h h' : Heap} {a : Addr} {o : Obj} {j : Nat} (ho : h'.get? a = some o) (hs : Heap.SameBut a h h') : SqHeap (some (j, a, o)) [] h h' :=
  ⟨hs.1, fun k o e => by simp at e, fun j' a' o' e => by cases e; exact ho, fun b o' e hb => (hs.2 b (hb j a o rfl)).trans e⟩
theorem list_IsList {h : Heap} {a : Addr} {xs : List Value} {c : Nat} (e : h.get? a = some (listO xs c)) : h.IsList a xs.toArray := ⟨_, e, rfl, _, rfl⟩
theorem ans_last (W : Addr) (xs : List Value) (v : Value) (c : Nat) (t : Tok) (hW : s.heap.get? W = some (listO (xs ++ [v]) c)) (hl : xs.length < 100000) : Ans prog w A s (bi "list.__getitem__" [.ref W, .int (-1) t]) v 0 := by
  have hI := list_IsList hW
  refine wpAny_call_entry slot_list_getitem hI.typeIs entry_list_getitem ?_ (args_list_getitem _ _)
  show wpAny _ _ (Builtin.List.listSubscript? (.int (-1) t) >>= _) _ _ s
  refine wpAny_bind (wpAny_listSubscript_int (fitsIndex_neg (by decide) (by decide)) ?_)
  show wpAny _ _ ((Builtin.List.listItems (.ref W) >>= fun xs => pure ((seqIndex? (-1) xs.size).bind fun i => xs[i]?.map (i, ·))) >>= _) _ _ s
  refine wpAny_bind (wpAny_bind ?_)
  show wpAny _ _ (seqItems? (.ref W) >>= _) _ _ s
  refine wpAny_bind (wpAny_seqItems hW rfl (wpAny_pure (wpAny_pure ?_)))
  have hidx : seqIndex? (-1) (xs ++ [v]).toArray.size = some xs.length := by
    rw [seqIndex_neg (by decide) (by simp; omega)]
    simp
    omega
  have hx : (xs ++ [v]).toArray[xs.length]? = some v := by simp
  rw [hidx]
  simp only [Option.bind_some, hx, Option.map_some]
  exact wpAny_pure ⟨v, rfl, rfl, rfl⟩
theorem ansq_set (W : Addr) (xs : List Value) (v y : Value) (c j : Nat) (t : Tok) (hW : s.heap.get? W = some (listO (xs ++ [v]) c)) (hl : xs.length < 100000) : AnsQ prog w A s (bi "list.__setitem__" [.ref W, .int (-1) t, y]) (some (j, W, listO (xs ++ [y]) c)) [] .none 0 := by
  have hI := list_IsList hW
  refine wpAny_call_entry slot_list_setitem hI.typeIs entry_list_setitem ?_ (args_list_setitem _ _ _)
  show wpAny _ _ (Builtin.List.listSubscript? (.int (-1) t) >>= _) _ _ s
  refine wpAny_bind (wpAny_listSubscript_int (fitsIndex_neg (by decide) (by decide)) ?_)
  show wpAny _ _ ((Builtin.List.listItems (.ref W) >>= fun xs => pure ((seqIndex? (-1) xs.size).bind fun i => xs[i]?.map (i, ·))) >>= _) _ _ s
  refine wpAny_bind (wpAny_bind ?_)
  show wpAny _ _ (seqItems? (.ref W) >>= _) _ _ s
  refine wpAny_bind (wpAny_seqItems hW rfl (wpAny_pure (wpAny_pure ?_)))
  have hidx : seqIndex? (-1) (xs ++ [v]).toArray.size = some xs.length := by
    rw [seqIndex_neg (by decide) (by simp; omega)]
    simp
    omega
  have hx : (xs ++ [v]).toArray[xs.length]? = some v := by simp
  rw [hidx]
  simp only [Option.bind_some, hx, Option.map_some]
  refine wpAny_bind (wpAny_setSeqItemAt hW rfl ?_)
  refine wpAny_pure ⟨.none, rfl, rfl, _, SqHeap.of_same ?_ (Heap.SameBut.update ..), rfl⟩
  rw [Heap.get?_update_self _ hW rfl]
  congr 1
  simp only [Obj.mapSeq, listO]
  congr 1
  simp
theorem ansq_append (W : Addr) (xs : List Value) (y : Value) (c j : Nat) (hW : s.heap.get? W = some (listO xs c)) (hl : xs.length < 100000) : AnsQ prog w A s (bi "list.append" [.ref W, y]) (some (j, W, listO (xs ++ [y]) (c + 1))) [] .none 0 := by
  have hI := list_IsList hW
  refine wpAny_call_entry slot_list_append hI.typeIs entry_list_append ?_ (by unfold argsOk; kernel_rfl)
  show wpAny _ _ (updateSeq W (·.push y) >>= _) _ _ s
  refine wpAny_bind (wpAny_updateSeq hW rfl (wpAny_pure ⟨.none, rfl, rfl, _, SqHeap.of_same ?_ (Heap.SameBut.update ..), rfl⟩) (by rw [sizeLine_eq]; simp only [List.size_toArray]; omega) (by rw [sizeLine_eq]; simp only [Array.size_push, List.size_toArray]; omega))
  rw [← mapSeq_push]
  exact Heap.get?_update_self _ hW rfl
theorem ansq_next (I : Addr) (k n : Int) (t : Tok) (j : Nat) (hI : s.heap.get? I = some (riO k n)) (hn : 0 < n) (ht : s.toks = t) : AnsQ prog w A s (bi "range_iterator.__next__" [.ref I]) (some (j, I, riO (k + 1) (n - 1))) [] (.int k t) 1 := by
  subst ht
  refine call_meets F.slot_range_iterator_next ⟨_, hI, rfl⟩ F.entry_range_iterator_next (F.args_range_iterator_next_1 _) (AutoRange.range_iterator___next___range_iterator_1 I k n 1 (by omega)) ⟨hI, rfl, _, SqHeap.of_same ?_ ((Heap.SameBut.update ..).trans (Heap.SameBut.update ..)), rfl⟩
  exact Heap.get?_update_self _ (Heap.get?_update_self _ hI rfl) rfl
theorem ans_at (l : List Nat) (t u k : Tok) (i c : Nat) (hk : s.toks = k) (hl : l.length < 1000) (hc : l[i]? = some c) : Ans prog w A s (bi "str.__getitem__" [.str ⟨⟨l⟩⟩ t, .int i u]) (.str ⟨#[c]⟩ k) 1 := by
  subst hk
  have hlt := (List.getElem?_eq_some_iff.mp hc).1
  refine ans_gives F.slot_str_getitem (typeIs_str s _ t) F.entry_str_getitem (F.args_str_getitem_2 _ _) (gives_str_getitem ⟨⟨l⟩⟩ i t u c (by
    have h1 : ¬ (i : Int) < -(2 ^ 63 : Int) := by omega
    have h2 : ¬ (i : Int) ≥ 2 ^ 63 := by omega
    simp; omega) ?_) fun R hR => ⟨by rw [sizeLine_eq]; show 1 ≤ 16777216; decide, hR⟩
  have : seqIndex? (i : Int) (⟨⟨l⟩⟩ : Str).length = some i := by
    unfold seqIndex?
    have h1 : ¬ (i : Int) < 0 := by omega
    have h2 : (i : Int) < ((⟨⟨l⟩⟩ : Str).length : Int) := by show (i : Int) < (l.length : Int); omega
    simp [h1, h2]
  rw [this]
  show l.toArray[i]? = some c
  simpa using hc
theorem ans_strne (x y : Str) (t u : Tok) (b : Bool) (hb : (!(x.cps.toList == y.cps.toList)) = b) : Ans prog w A s (bi "str.__ne__" [.str x t, .str y u]) (.bool b) 0 := by
  subst hb
  exact ans_gives F.slot_str_ne (typeIs_str s x t) F.entry_str_ne (F.args_str_ne_2 _ _) (gives_str_ne x y t u) fun R hR => hR
theorem ans_in3 (a : Addr) (x : Str) (t0 t1 t2 u : Tok) (r : Bool) (hh : s.heap.get? a = some (listO [.str ⟨#[]⟩ t0, .str ⟨#[13]⟩ t1, .str ⟨#[10]⟩ t2] 0)) (hr : ([] == x.cps.toList || ([13] == x.cps.toList || [10] == x.cps.toList)) = r) : Ans prog w A s (bi "list.__contains__" [.ref a, .str x u]) (.bool r) 0 := by
  subst hr
  refine call_meets F.slot_list_contains (T := "list") ⟨_, hh, rfl⟩ F.entry_list_contains (F.args_list_contains_2 _ _) (MeetsSeq.list_contains a _ 0 (.str x u) (fun v => match v with | .str y _ => y.cps.toList == x.cps.toList | _ => false) ?_) ⟨hh, ?_, rfl⟩
  · intro y hy
    have hy' : y ∈ [Value.str ⟨#[]⟩ t0, .str ⟨#[13]⟩ t1, .str ⟨#[10]⟩ t2] := by simpa using hy
    replace hy' := memL hy'
    rcases hy' with rfl | rfl | rfl <;> exact SeqRoads2.EqGives.str _ _ _ _
  · have : ∀ (l : List Nat), (l == x.cps.toList) = (l.toArray == x.cps) := fun l => by
      obtain ⟨⟨xl⟩⟩ := x
      simp
    congr 1
    simp [this]
theorem ans_addL (x y : List Nat) (t u k : Tok) (hk : s.toks = k) (hx : x.length < 2000) (hy : y.length < 2000) : Ans prog w A s (bi "str.__add__" [.str ⟨⟨x⟩⟩ t, .str ⟨⟨y⟩⟩ u]) (.str ⟨⟨x ++ y⟩⟩ (if x = [] then u else if y = [] then t else k)) (if x = [] then 0 else if y = [] then 0 else 1) := by
  subst hk
  have e : (⟨⟨x⟩⟩ : Str) ++ ⟨⟨y⟩⟩ = ⟨⟨x ++ y⟩⟩ := by
    apply Str.ext'
    rw [Str.cps_append]
    simp
  refine ans_gives F.slot_str_add (typeIs_str s _ t) F.entry_str_add (F.args_str_add_2 _ _) (gives_str_add ⟨⟨x⟩⟩ ⟨⟨y⟩⟩ t u) fun R hR => ?_
  cases x with
  | nil => exact hR
  | cons a x =>
    cases y with
    | nil =>
      rw [List.append_nil] at hR
      exact hR
    | cons b y =>
      refine ⟨?_, ?_⟩
      · rw [e]
        show (a :: x ++ b :: y).length ≤ sizeLine
        rw [sizeLine_eq, List.length_append]
        omega
      · rw [e]; exact hR
end
end
section
structure DX.Ok (D : DX) (text : List Nat) : Prop where
  apart : [D.F, D.W, D.I].Nodup
  high : ∀ a ∈ [D.F, D.W, D.I], 781 ≤ a
  txt : D.text = ⟨⟨text⟩⟩
  len : text.length < 900
/-- the sign ahead of the place k -/
noncomputable def aheadL (text : List Nat) (k : Nat) : List Nat := ((text.take k).drop ((text.take k).length - 1)).take ((text.take k).length - ((text.take k).length - 1))
noncomputable def aheadO (text : List Nat) (k : Nat) : Option Nat := if k = 0 then none else text[k - 1]?
theorem ahead_is {text : List Nat} {k : Nat} (hk : k ≤ text.length) : aheadL text k = (aheadO text k).toList := by
  unfold aheadL aheadO
  have hl : (text.take k).length = k := by rw [List.length_take]; omega
  rw [hl]
  by_cases h0 : k = 0
  · subst h0; simp
  · rw [if_neg h0]
    have hlt : k - 1 < text.length := by omega
    have e1 : k - (k - 1) = 1 := by omega
    rw [e1, List.getElem?_eq_getElem hlt]
    rw [List.drop_take, e1]
    rw [List.take_take]
    simp only [Nat.min_self]
    rw [List.drop_eq_getElem_cons hlt]
    rfl
structure DAt (D : DX) (h : Heap) (fr : Obj) (xs : List Value) (cn : Nat) (k n : Int) : Prop where
  F : h.get? D.F = some fr
  W : h.get? D.W = some (listO xs cn)
  I : h.get? D.I = some (riO k n)
theorem DAt.has {D : DX} {h : Heap} {fr : Obj} {xs : List Value} {cn : Nat} {k n : Int} (x : DAt D h fr xs cn k n) : ∀ p ∈ [(D.F, fr), (D.W, listO xs cn), (D.I, riO k n)], h.get? p.1 = some p.2 := by
  intro p hp
  replace hp := memL hp
  rcases hp with rfl | rfl | rfl
  · exact x.F
  · exact x.W
  · exact x.I
section
variable {w : World} {A : Around} {R : Result → Shared → Prop} {D : DX} {text : List Nat}
/-- a turn of the loop, from its two runs -/
theorem turnD {s : Shared} (OD : D.Ok text) (G : Gr w s.heap) (hA : A.depth + 300 ≤ recursionLimit) (hh0 : A.handled = none) {fr0 : Obj} {k : Nat} (hk : k < text.length) {xs : List Value} {cn : Nat} {n : Int} (hn : 0 < n) (X : DAt D s.heap fr0 xs cn k n)
    (fr1 : (Nat → Nat) → Obj)
    (hp1 : ∀ b c rho tau stk t1 t2 d1 d2, (chkL (runP1 w.params b c rho tau stk none D fr0 xs cn k n ⟨⟨text.take k⟩⟩ ⟨⟨aheadL text k⟩⟩ t1 t2 d1 d2), cutR [0, 1, 2] (runP1 w.params b c rho tau stk none D fr0 xs cn k n ⟨⟨text.take k⟩⟩ ⟨⟨aheadL text k⟩⟩ t1 t2 d1 d2)) =
      (chkR (runP1 w.params b c rho tau stk none D fr0 xs cn k n ⟨⟨text.take k⟩⟩ ⟨⟨aheadL text k⟩⟩ t1 t2 d1 d2), some (itselfC D.text D.tb k (tau 0), [(D.F, fr1 tau), (D.W, listO xs cn), (D.I, riO (k + 1) (n - 1))])))
    (spsF : (rho2 tau tau2 : Nat → Nat) → Nat → List Sp) (sqsF : (rho2 tau tau2 : Nat → Nat) → Nat → List Sq) (advX : List Nat)
    (hsp : ∀ b c (h2 : Heap) (i2 : Nat) tau t2, ∀ sp ∈ spsF (fun m => h2.objs.size + m) tau (fun i => i2 + i) t2, SpOk (cfgHQ w b c h2 i2 none (spsF (fun m => h2.objs.size + m) tau (fun i => i2 + i) t2) (sqsF (fun m => h2.objs.size + m) tau (fun i => i2 + i) t2)) w sp)
    (hsq : ∀ b c (h2 : Heap) (i2 : Nat) tau t2, ∀ sq ∈ sqsF (fun m => h2.objs.size + m) tau (fun i => i2 + i) t2, SqOk (cfgHQ w b c h2 i2 none (spsF (fun m => h2.objs.size + m) tau (fun i => i2 + i) t2) (sqsF (fun m => h2.objs.size + m) tau (fun i => i2 + i) t2)) w sq)
    (fr2 : (tau tau2 : Nat → Nat) → Nat → Obj) (xsF : (tau tau2 : Nat → Nat) → Nat → List Value) (cF : Nat)
    (hrun : ∀ b c rho tau rho2 tau2 stk stk2 t1 t2 d1 d2,
      (chkL (res (runP1 w.params b c rho tau stk none D fr0 xs cn k n ⟨⟨text.take k⟩⟩ ⟨⟨aheadL text k⟩⟩ t1 t2 d1 d2) (.ok (.ret (.bool (finF false (text.take k))))) (cfgQ (fP w.params b c) rho2 tau2 none (spsF rho2 tau tau2 t2) (sqsF rho2 tau tau2 t2)) stk2 advX [(D.F, fr1 tau), (D.W, listO xs cn), (D.I, riO (k + 1) (n - 1))]),
        cutV [0, 1, 2] (res (runP1 w.params b c rho tau stk none D fr0 xs cn k n ⟨⟨text.take k⟩⟩ ⟨⟨aheadL text k⟩⟩ t1 t2 d1 d2) (.ok (.ret (.bool (finF false (text.take k))))) (cfgQ (fP w.params b c) rho2 tau2 none (spsF rho2 tau tau2 t2) (sqsF rho2 tau tau2 t2)) stk2 advX [(D.F, fr1 tau), (D.W, listO xs cn), (D.I, riO (k + 1) (n - 1))])) =
      (chkR (res (runP1 w.params b c rho tau stk none D fr0 xs cn k n ⟨⟨text.take k⟩⟩ ⟨⟨aheadL text k⟩⟩ t1 t2 d1 d2) (.ok (.ret (.bool (finF false (text.take k))))) (cfgQ (fP w.params b c) rho2 tau2 none (spsF rho2 tau tau2 t2) (sqsF rho2 tau tau2 t2)) stk2 advX [(D.F, fr1 tau), (D.W, listO xs cn), (D.I, riO (k + 1) (n - 1))]),
        some (FL (fP w.params b c) D.F D.I, [(D.F, fr2 tau tau2 t2), (D.W, listO (xsF tau tau2 t2) cF), (D.I, riO (k + 1) (n - 1))])))
    (hgo : ∀ h i tau tau2 t2, DAt D h (fr2 tau tau2 t2) (xsF tau tau2 t2) cF (k + 1) (n - 1) → (∀ b o, s.heap.get? b = some o → b ∉ [D.F, D.W, D.I] → h.get? b = some o) → codeAny (model theProg w) A (FL w.params D.F D.I) R ⟨h, s.gens, s.drawn, i, s.os⟩) :
    codeAny (model theProg w) A (FL w.params D.F D.I) R s := by
  obtain ⟨h₀, g, dr, t₀, os⟩ := s
  have hb := fP_self w.params
  generalize w.params.followText "special-get-raises" = b at hb
  generalize w.params.followText "comprehension-iter-twice" = c at hb
  have eW : FL w.params D.F D.I = FL (fP w.params b c) D.F D.I := by rw [hb]
  rw [eW]
  have hni : ∀ a ∈ [D.F, D.W, D.I], ∀ o, (ktb w.params).get a ≠ some o := fun a ha o ho => absurd (base_lt G.inn ho) (Nat.not_lt.mpr (OD.high a ha))
  have hln := OD.len
  have hal : (text.take k).length = k := by rw [List.length_take]; omega
  generalize ht1 : (if k - 0 = text.length then D.tb else t₀ + 2) = t1
  generalize hd1 : (if k - 0 = text.length then 0 else 1) = d1
  have O1 := mkOkQ (A := A) (t₀ := t₀) (ini := [D.F, D.W, D.I])
    (sps := spP1 (fun m => h₀.objs.size + m) (fun i => t₀ + i) D k ⟨⟨text.take k⟩⟩ ⟨⟨aheadL text k⟩⟩ t1 (if (text.take k).length - ((text.take k).length - 1) = (text.take k).length then t1 else t₀ + (2 + d1 + 2)) d1 (if (text.take k).length - ((text.take k).length - 1) = (text.take k).length then 0 else 1))
    (sqs := sqNext (fun i => t₀ + i) D k n) G hb hni (by omega) (by
      intro sp hm
      replace hm := memL hm
      rcases hm with rfl | rfl <;> intro A s hn' ht
      · have := ans_cut (prog := theProg) (w := w) (A := A) (s := s) text D.tb (t₀ + 2) (h₀.objs.size + 0) none (some ((k : Int), t₀ + 0)) 0 k (Nat.zero_le _) (by omega) (range_none _ _) (by omega) ht ⟨_, hn' _ (List.mem_singleton.mpr rfl), rfl, rfl⟩
        rw [List.drop_zero, Nat.sub_zero] at this
        rw [← ht1, ← hd1, OD.txt]
        exact this
      · exact ans_cut (prog := theProg) (w := w) (A := A) (s := s) (text.take k) t1 _ (h₀.objs.size + 1) (some (-1, t₀ + (2 + d1 + 1))) none ((text.take k).length - 1) (text.take k).length (by omega) (Nat.le_refl _) (range_last _) (by omega) ht ⟨_, hn' _ (List.mem_singleton.mpr rfl), rfl, rfl⟩) (by
      intro sq hm
      replace hm := memL hm
      subst hm
      intro A s hn' ht hm
      exact ansq_next D.I k n _ 2 (hn' _ (List.mem_singleton.mpr rfl)) hn ht)
  rw [hh0] at O1
  refine run_fine O1 (mkHp (own := [(D.F, fr0), (D.W, listO xs cn), (D.I, riO k n)]) X.has OD.apart) (adv := advP1) fun stk => fine_call (hp1 b c _ _ stk t1 _ d1 _) fun A' R' h i hdep hh hl hk1 hcont => ?_
  rw [OD.txt]
  have G1 : Gr w h := G.keeps fun b o hlt e => hk1 b o e fun hm => absurd hlt (Nat.not_lt.mpr (OD.high b hm))
  have x1 : h.get? D.F = some (fr1 fun i => t₀ + i) := hl (D.F, _) (List.mem_cons_self ..)
  have x2 : h.get? D.W = some (listO xs cn) := hl (D.W, listO xs cn) (List.mem_cons_of_mem _ (List.mem_cons_self ..))
  have x3 : h.get? D.I = some (riO (k + 1) (n - 1)) := hl (D.I, riO (k + 1) (n - 1)) (List.mem_cons_of_mem _ (List.mem_cons_of_mem _ (List.mem_cons_self ..)))
  refine itself_is (A := A') (s := ⟨h, g, dr, i, os⟩) (by omega) G1 text D.tb (by omega) k _ (by omega) fun h2 i2 k2 => ?_
  have G2 : Gr w h2 := G1.keeps fun b o _ e => k2 b o e
  generalize (if (text.take k).length - ((text.take k).length - 1) = (text.take k).length then t1 else t₀ + (2 + d1 + 2)) = t2 at hcont ⊢
  have O2 := mkOkQ (A := A) (t₀ := i2) (ini := [D.F, D.W, D.I]) (sps := spsF (fun m => h2.objs.size + m) (fun i => t₀ + i) (fun i => i2 + i) t2) (sqs := sqsF (fun m => h2.objs.size + m) (fun i => t₀ + i) (fun i => i2 + i) t2) G2 hb hni (by omega)
    (by rw [hh0]; exact hsp b c h2 i2 _ t2) (by rw [hh0]; exact hsq b c h2 i2 _ t2)
  rw [hh0] at O2
  refine hcont _ h2 i2 (cfgHQ w b c h2 i2 none (spsF (fun m => h2.objs.size + m) (fun i => t₀ + i) (fun i => i2 + i) t2) (sqsF (fun m => h2.objs.size + m) (fun i => t₀ + i) (fun i => i2 + i) t2)) _ _ advX rfl O2 (mkHp (own := [(D.F, fr1 fun i => t₀ + i), (D.W, listO xs cn), (D.I, riO (k + 1) (n - 1))]) (DAt.has ⟨k2 _ _ x1, k2 _ _ x2, k2 _ _ x3⟩) OD.apart) fun stk2 => ?_
  refine fine_cut (hrun b c _ _ _ _ stk stk2 t1 t2 d1 _) fun h3 i3 hl3 hk3 => ?_
  have := hgo h3 i3 (fun i => t₀ + i) (fun i => i2 + i) t2 ⟨hl3 (D.F, _) (List.mem_cons_self ..), hl3 (D.W, _) (List.mem_cons_of_mem _ (List.mem_cons_self ..)), hl3 (D.I, riO (k + 1) (n - 1)) (List.mem_cons_of_mem _ (List.mem_cons_of_mem _ (List.mem_cons_self ..)))⟩
    (fun b o e hm => hk3 b o (k2 b o (hk1 b o e hm)) hm)
  rw [← eW]
  exact this
end
end
section
theorem strs_one (t : Nat) (l : List Nat) : StrsAre [Value.str ⟨⟨l⟩⟩ t] [l] := ⟨⟨t, rfl⟩, trivial⟩
noncomputable def Fr6 (P : Params) (D : DX) (sent : Bool) (o : Obj) : Prop := ∃ t4 t5 t6 k' tk' it' ah' ta', o = fr6 P D sent t4 t5 t6 k' tk' it' ah' ta'
noncomputable def AwOk (l : List Nat) : Aw → Prop
  | .co r => ([] == l || ([13] == l || [10] == l)) = r
  | .ne r => (!(l == [13])) = r
  | _ => True
noncomputable def AwsOk (l : List Nat) : List Aw → Prop
  | [] => True
  | .co r :: as => ([] == l || ([13] == l || [10] == l)) = r ∧ AwsOk l as
  | .ne r :: as => (!(l == [13])) = r ∧ AwsOk l as
  | _ :: as => AwsOk l as
theorem AwsOk.all {l : List Nat} : ∀ {as : List Aw}, AwsOk l as → ∀ a ∈ as, AwOk l a
  | [], _, _, h => nomatch h
  | b :: as, x, a, h => by
    have z : AwOk l b ∧ AwsOk l as := by
      cases b with
      | co r => exact x
      | ne r => exact x
      | _ => exact ⟨trivial, x⟩
    rcases List.mem_cons.mp h with rfl | h
    · exact z.1
    · exact AwsOk.all z.2 a h
/-- the words behind a turn -/
noncomputable def TS.ws (S : TS) (d : List (List Nat)) (cur : List Nat) : List (List Nat) := match S.app with
  | 0 => d ++ [match S.sets with
    | true => cur ++ S.y
    | false => cur]
  | _ + 1 => d ++ [match S.sets with
    | true => cur ++ S.y
    | false => cur] ++ [[]]
section
variable {w : World} {A : Around} {R : Result → Shared → Prop} {D : DX} {text : List Nat} {s : Shared} (OD : D.Ok text) (G : Gr w s.heap) (hA : A.depth + 300 ≤ recursionLimit) (hh0 : A.handled = none) {k : Nat} (hk : k < text.length) {n : Int} (hn : 0 < n) {xs0 : List Value} {cur : List Nat} {tcur cn : Nat} {d : List (List Nat)} (hd : StrsAre xs0 d) (hx : xs0.length < 50000) (hcur : cur.length < 1900)
noncomputable abbrev TS.newT (S : TS) (cur : List Nat) (tcur : Nat) (tau2 : Nat → Nat) : Nat := if cur = [] then tau2 (S.ad - 1) else if S.y = [] then tcur else tau2 S.ad
noncomputable abbrev TS.newD (S : TS) (cur : List Nat) : Nat := if cur = [] then 0 else if S.y = [] then 0 else 1
noncomputable abbrev deOf (S : TS) (D : DX) (text : List Nat) (k : Nat) (xs0 : List Value) (cur : List Nat) (tcur cn : Nat) (tau2 : Nat → Nat) (t2 : Nat) : DE :=
  ⟨D, k, ⟨⟨aheadL text k⟩⟩, t2, xs0 ++ [Value.str ⟨⟨cur⟩⟩ tcur], xs0 ++ [Value.str ⟨⟨cur ++ S.y⟩⟩ (S.newT cur tcur tau2)],
    (match S.sets with
    | true => (xs0 ++ [Value.str ⟨⟨cur ++ S.y⟩⟩ (S.newT cur tcur tau2)]) ++ [Value.str ⟨#[]⟩ (tau2 (S.ad + S.newD cur + 2))]
    | false => (xs0 ++ [Value.str ⟨⟨cur⟩⟩ tcur]) ++ [Value.str ⟨#[]⟩ (tau2 S.app)]), cn, ⟨⟨cur⟩⟩, ⟨⟨cur ++ S.y⟩⟩, tcur, S.newT cur tcur tau2, S.newD cur⟩
include OD G hA hh0 hk hn hd hx hcur
/-- a turn, from what is told of its kind -/
theorem stepD (S : TS) {fr0 : Params → DX → Obj} {fr1 : Params → DX → (Nat → Nat) → Int → Obj} {fr2 : Params → (tau tau2 : Nat → Nat) → DE → Obj}
    (h0 : ∀ b c rho tau stk t1 t2 d1 d2, let o := runP1 w.params b c rho tau stk none D (fr0 w.params D) (xs0 ++ [Value.str ⟨⟨cur⟩⟩ tcur]) cn k n ⟨⟨text.take k⟩⟩ ⟨⟨aheadL text k⟩⟩ t1 t2 d1 d2
      (chkL o, cutR [0, 1, 2] o) = (chkR o, some (itselfC D.text D.tb k (tau 0), [(D.F, fr1 w.params D tau k), (D.W, listO (xs0 ++ [Value.str ⟨⟨cur⟩⟩ tcur]) cn), (D.I, riO (k + 1) (n - 1))])))
    (run : Run2 S fr0 fr1 fr2) (h6 : ∀ tau tau2 E, E.D = D → Fr6 w.params D S.sent (fr2 w.params tau tau2 E))
    (X : DAt D s.heap (fr0 w.params D) (xs0 ++ [Value.str ⟨⟨cur⟩⟩ tcur]) cn k n) (hc : text[k]? = some S.c) (hit : finF false (text.take k) = S.it) (haw : AwsOk (aheadL text k) S.aws)
    (hgo : ∀ h i fr' xs' cn', Fr6 w.params D S.sent fr' → StrsAre xs' (S.ws d cur) → DAt D h fr' xs' cn' (k + 1) (n - 1) → (∀ b o, s.heap.get? b = some o → b ∉ [D.F, D.W, D.I] → h.get? b = some o) → codeAny (model theProg w) A (FL w.params D.F D.I) R ⟨h, s.gens, s.drawn, i, s.os⟩) :
    codeAny (model theProg w) A (FL w.params D.F D.I) R s := by
  have hln := OD.len
  have hl0 : ∀ v : Value, (xs0 ++ [v]).length < 100000 := fun v => by rw [List.length_append]; exact Nat.lt_trans (Nat.add_lt_add_right hx 1) (by decide)
  have hx' : xs0.length < 100000 := Nat.lt_trans hx (by decide)
  refine turnD OD G hA hh0 hk hn X (fun tau => fr1 w.params D tau k) h0
    (fun rho2 tau tau2 t2 => S.aws.map (S.sp rho2 tau tau2 (deOf S D text k xs0 cur tcur cn tau2 t2))) (fun rho2 tau tau2 t2 => S.sqs tau2 (deOf S D text k xs0 cur tcur cn tau2 t2)) S.adv ?_ ?_
    (fun tau tau2 t2 => fr2 w.params tau tau2 (deOf S D text k xs0 cur tcur cn tau2 t2)) (fun tau tau2 t2 => (S.fin (deOf S D text k xs0 cur tcur cn tau2 t2)).1) (S.fin (deOf S D text k xs0 cur tcur cn (fun _ => 0) 0)).2 ?_ ?_
  · intro b c h2 i2 tau t2 sp hm
    obtain ⟨a, ha, rfl⟩ := List.mem_map.mp hm
    have hok := haw.all a ha
    intro A s hn' ht
    cases a with
    | gi i =>
      have q := ans_at (prog := theProg) (w := w) (A := A) (s := s) text D.tb (tau 0) _ k S.c ht (Nat.lt_trans hln (by decide)) hc
      rw [← OD.txt] at q
      exact q
    | wg i => exact ans_last D.W xs0 _ cn _ (hn' _ (List.mem_singleton.mpr rfl)) hx'
    | ad => exact ans_addL cur S.y _ _ _ ht (Nat.lt_trans hcur (by decide)) S.hy
    | co r => exact ans_in3 _ _ _ _ _ _ _ (hn' _ (List.mem_singleton.mpr rfl)) hok
    | ne r => exact ans_strne _ _ _ _ _ hok
  · intro b c h2 i2 tau t2 sq hm
    unfold TS.sqs at hm
    have K1 : SqOk (cfgHQ w b c h2 i2 none (S.aws.map (S.sp (fun m => h2.objs.size + m) tau (fun i => i2 + i) (deOf S D text k xs0 cur tcur cn (fun i => i2 + i) t2))) (S.sqs (fun i => i2 + i) (deOf S D text k xs0 cur tcur cn (fun i => i2 + i) t2))) w (sqSet (deOf S D text k xs0 cur tcur cn (fun i => i2 + i) t2) (fun i => i2 + i) S.ad S.m) :=
      fun A s hn' ht hm => ansq_set D.W xs0 _ _ cn 1 _ (hn' _ (List.mem_singleton.mpr rfl)) hx'
    cases hs : S.sets with
    | true =>
      rw [hs] at hm
      cases ha : S.app with
      | zero =>
        rw [ha] at hm
        cases List.mem_singleton.mp hm
        exact K1
      | succ j =>
        rw [ha] at hm
        rcases List.mem_cons.mp hm with rfl | hm
        · exact K1
        · cases List.mem_singleton.mp hm
          intro A s hn' ht hm
          have z := ansq_append (prog := theProg) (w := w) (A := A) D.W _ (Value.str ⟨#[]⟩ (i2 + (S.ad + S.newD cur + 2))) cn 1 (hn' _ (List.mem_singleton.mpr rfl)) (hl0 _)
          unfold sqApp
          simp only [hs]
          exact z
    | false =>
      rw [hs] at hm
      cases ha : S.app with
      | zero =>
        rw [ha] at hm
        cases hm
      | succ j =>
        rw [ha] at hm
        cases List.mem_singleton.mp hm
        intro A s hn' ht hm
        have z := ansq_append (prog := theProg) (w := w) (A := A) D.W _ (Value.str ⟨#[]⟩ (i2 + (j + 1))) cn 1 (hn' _ (List.mem_singleton.mpr rfl)) (hl0 _)
        unfold sqApp
        simp only [hs, ha]
        exact z
  · rw [hit]
    intro b c rho tau rho2 tau2 stk stk2 t1 t2 d1 d2
    have z := run w.params b c rho tau rho2 tau2 stk stk2 (deOf S D text k xs0 cur tcur cn tau2 t2) n ⟨⟨text.take k⟩⟩ t1 d1 d2
    have e : (S.fin (deOf S D text k xs0 cur tcur cn (fun _ => 0) 0)).2 = (S.fin (deOf S D text k xs0 cur tcur cn tau2 t2)).2 := by
      unfold TS.fin
      cases S.app with
      | zero => cases S.sets <;> rfl
      | succ => rfl
    rw [e]
    exact z
  · intro h i tau tau2 t2 Y K
    refine hgo h i _ _ _ (h6 tau tau2 _ rfl) ?_ Y K
    unfold TS.fin TS.ws
    cases hs : S.sets with
    | true =>
      cases ha : S.app with
      | zero => simp only [hs]; exact hd.append (strs_one _ _)
      | succ j => simp only [hs]; exact (hd.append (strs_one _ _)).append (strs_one _ _)
    | false =>
      cases ha : S.app with
      | zero => simp only [hs]; exact hd.append (strs_one _ _)
      | succ j => simp only [hs]; exact (hd.append (strs_one _ _)).append (strs_one _ _)
theorem stepF (S : TS) (run : RunF S) (X : DAt D s.heap (fr3 w.params D S.sent) (xs0 ++ [Value.str ⟨⟨cur⟩⟩ tcur]) cn k n) (hc : text[k]? = some S.c) (hit : finF false (text.take k) = S.it) (haw : AwsOk (aheadL text k) S.aws)
    (hgo : ∀ h i fr' xs' cn', Fr6 w.params D S.sent fr' → StrsAre xs' (S.ws d cur) → DAt D h fr' xs' cn' (k + 1) (n - 1) → (∀ b o, s.heap.get? b = some o → b ∉ [D.F, D.W, D.I] → h.get? b = some o) → codeAny (model theProg w) A (FL w.params D.F D.I) R ⟨h, s.gens, s.drawn, i, s.os⟩) :
    codeAny (model theProg w) A (FL w.params D.F D.I) R s :=
  stepD OD G hA hh0 hk hn hd hx hcur S (fun b c rho tau stk t1 t2 d1 d2 => runP1a_is w.params b c rho tau stk none D S.sent _ cn k n _ _ t1 t2 d1 d2) run (fun _ _ E e => e ▸ ⟨_, _, _, _, _, _, _, _, rfl⟩) X hc hit haw hgo
theorem stepG (S : TS) (run : RunG S) {t4 t5 t6 : Nat} {k' : Int} {tk' : Nat} {it' : Bool} {ah' : Str} {ta' : Nat} (X : DAt D s.heap (fr6 w.params D S.sent t4 t5 t6 k' tk' it' ah' ta') (xs0 ++ [Value.str ⟨⟨cur⟩⟩ tcur]) cn k n) (hc : text[k]? = some S.c) (hit : finF false (text.take k) = S.it) (haw : AwsOk (aheadL text k) S.aws)
    (hgo : ∀ h i fr' xs' cn', Fr6 w.params D S.sent fr' → StrsAre xs' (S.ws d cur) → DAt D h fr' xs' cn' (k + 1) (n - 1) → (∀ b o, s.heap.get? b = some o → b ∉ [D.F, D.W, D.I] → h.get? b = some o) → codeAny (model theProg w) A (FL w.params D.F D.I) R ⟨h, s.gens, s.drawn, i, s.os⟩) :
    codeAny (model theProg w) A (FL w.params D.F D.I) R s :=
  stepD OD G hA hh0 hk hn hd hx hcur S (fun b c rho tau stk t1 t2 d1 d2 => runP1b_is w.params b c rho tau stk none D S.sent t4 t5 t6 k' tk' it' ah' ta' _ cn k n _ _ t1 t2 d1 d2) (run t4 t5 t6 k' tk' it' ah' ta') (fun _ _ E e => e ▸ ⟨_, _, _, _, _, _, _, _, rfl⟩) X hc hit haw hgo
end
end
section
set_option linter.unusedSimpArgs false
theorem fin_last {l : List Nat} (h : finF false l = true) : l.getLast? = some 92 := by
  rcases List.eq_nil_or_concat l with rfl | ⟨l', c, rfl⟩
  · cases h
  · rw [List.concat_eq_append, finF_append] at h
    rw [List.concat_eq_append]
    unfold flipF at h
    split at h
    · rename_i q
      rw [beq_iff_eq] at q
      simp [q]
    · cases h
theorem ahead_true {text : List Nat} {k : Nat} (hk : k ≤ text.length) (h : finF false (text.take k) = true) : aheadO text k = some 92 := by
  have := fin_last h
  unfold aheadO
  have h0 : k ≠ 0 := fun q => by subst q; simp at this
  rw [if_neg h0]
  rw [List.getLast?_eq_getElem?, List.length_take, Nat.min_eq_left hk, List.getElem?_take] at this
  rw [if_pos (by omega)] at this
  exact this
/-- the frame ahead of a turn -/
noncomputable def FrAt (P : Params) (D : DX) (sent : Bool) (k : Nat) (o : Obj) : Prop := (k = 0 ∧ o = fr3 P D sent) ∨ Fr6 P D sent o
section
variable {w : World} {A : Around} {R : Result → Shared → Prop} {D : DX} {text : List Nat}
theorem due_turn {s : Shared} (OD : D.Ok text) (G : Gr w s.heap) (hA : A.depth + 300 ≤ recursionLimit) (hh0 : A.handled = none) {sent : Bool} {k c : Nat} (hsc : isSign c) (hc : text[k]? = some c) {n : Int} (hn : 0 < n) {xs : List Value} {cur : List Nat} {cn : Nat} {d : List (List Nat)} (hd : StrsAre xs (d ++ [cur])) (hx : xs.length < 40000) (hcur : cur.length < 1900) {fr : Obj} (hfr : FrAt w.params D sent k fr)
    (X : DAt D s.heap fr xs cn k n)
    (hgo : ∀ h i fr' xs' cn', Fr6 w.params D sent fr' → StrsAre xs' ((dueTurn sent (finF false (text.take k)) (aheadO text k) c d cur).1 ++ [(dueTurn sent (finF false (text.take k)) (aheadO text k) c d cur).2]) → DAt D h fr' xs' cn' (k + 1) (n - 1) → (∀ b o, s.heap.get? b = some o → b ∉ [D.F, D.W, D.I] → h.get? b = some o) → codeAny (model theProg w) A (FL w.params D.F D.I) R ⟨h, s.gens, s.drawn, i, s.os⟩) :
    codeAny (model theProg w) A (FL w.params D.F D.I) R s := by
  have hk : k < text.length := (List.getElem?_eq_some_iff.mp hc).1
  obtain ⟨xs0, tcur, rfl, hd0⟩ : ∃ xs0 tcur, xs = xs0 ++ [Value.str ⟨⟨cur⟩⟩ tcur] ∧ StrsAre xs0 d := by
    have : ∀ (d : List (List Nat)) (xs : List Value), StrsAre xs (d ++ [cur]) → ∃ xs0 tcur, xs = xs0 ++ [Value.str ⟨⟨cur⟩⟩ tcur] ∧ StrsAre xs0 d := by
      intro d
      induction d with
      | nil =>
        intro xs h
        match xs, h with
        | [v], ⟨⟨t, e⟩, _⟩ => exact ⟨[], t, by rw [e]; rfl, trivial⟩
        | v :: v' :: r, ⟨_, h⟩ => exact h.elim
      | cons u d ih =>
        intro xs h
        match xs, h with
        | v :: r, ⟨⟨t, e⟩, h⟩ =>
          obtain ⟨xs0, tcur, e1, h1⟩ := ih r h
          exact ⟨v :: xs0, tcur, by rw [e1]; rfl, ⟨⟨t, e⟩, h1⟩⟩
    exact this d xs hd
  have hx0 : xs0.length < 50000 := by simp only [List.length_append] at hx; omega
  have hah := ahead_is (text := text) (k := k) (by omega)
  have e46 : ∀ (y : Nat), (aheadO text k = none ∨ aheadO text k = some 13 ∨ aheadO text k = some 10 → False) → (aheadO text k == none || aheadO text k == some 13 || aheadO text k == some 10) = false := by
    intro _ h
    rcases hq : aheadO text k with _ | y
    · exact (h (.inl hq)).elim
    · have h1 : y ≠ 13 := fun z => h (.inr (.inl (by rw [hq, z])))
      have h2 : y ≠ 10 := fun z => h (.inr (.inr (by rw [hq, z])))
      simp [h1, h2]
  rcases hfr with ⟨rfl, rfl⟩ | ⟨t4, t5, t6, k', tk', it', ah', ta', rfl⟩
  · have hit : finF false (text.take 0) = false := rfl
    have hao : aheadO text 0 = none := rfl
    rw [hao] at hah
    have hah' : aheadL text 0 = [] := hah
    rw [hit, hao] at hgo
    cases sent with
    | false =>
      rcases hsc with rfl | rfl | rfl | rfl | rfl | rfl
      · exact stepF OD G hA hh0 hk hn hd0 hx0 hcur stFFK runFFK X hc hit trivial hgo
      · exact stepF OD G hA hh0 hk hn hd0 hx0 hcur stFFR runFFR X hc hit trivial hgo
      · exact stepF OD G hA hh0 hk hn hd0 hx0 hcur stFFL runFFL X hc hit trivial hgo
      · exact stepF OD G hA hh0 hk hn hd0 hx0 hcur stFFD runFFD X hc hit trivial hgo
      · exact stepF OD G hA hh0 hk hn hd0 hx0 hcur stFFA runFFA X hc hit trivial hgo
      · exact stepF OD G hA hh0 hk hn hd0 hx0 hcur stFFW runFFW X hc hit trivial hgo
    | true =>
      rcases hsc with rfl | rfl | rfl | rfl | rfl | rfl
      · exact stepF OD G hA hh0 hk hn hd0 hx0 hcur stFTK runFTK X hc hit trivial hgo
      · exact stepF OD G hA hh0 hk hn hd0 hx0 hcur stFTR runFTR X hc hit trivial hgo
      · exact stepF OD G hA hh0 hk hn hd0 hx0 hcur stFTL runFTL X hc hit (And.intro (by rw [hah']; rfl) trivial) hgo
      · exact stepF OD G hA hh0 hk hn hd0 hx0 hcur stFTD runFTD X hc hit (And.intro (by rw [hah']; rfl) trivial) hgo
      · exact stepF OD G hA hh0 hk hn hd0 hx0 hcur stFTA runFTA X hc hit trivial hgo
      · exact stepF OD G hA hh0 hk hn hd0 hx0 hcur stFTW runFTW X hc hit trivial hgo
  · cases sent with
    | false =>
      cases hit : finF false (text.take k) with
      | true =>
        rw [hit] at hgo
        rcases hsc with rfl | rfl | rfl | rfl | rfl | rfl
        · exact stepG OD G hA hh0 hk hn hd0 hx0 hcur stGFKi runGFKi X hc hit trivial hgo
        · exact stepG OD G hA hh0 hk hn hd0 hx0 hcur stGFRi runGFRi X hc hit trivial hgo
        · exact stepG OD G hA hh0 hk hn hd0 hx0 hcur stGFLi runGFLi X hc hit trivial hgo
        · exact stepG OD G hA hh0 hk hn hd0 hx0 hcur stGFDi runGFDi X hc hit trivial hgo
        · exact stepG OD G hA hh0 hk hn hd0 hx0 hcur stGFAi runGFAi X hc hit trivial hgo
        · exact stepG OD G hA hh0 hk hn hd0 hx0 hcur stGFWi runGFWi X hc hit trivial hgo
      | false =>
        rw [hit] at hgo
        rcases hsc with rfl | rfl | rfl | rfl | rfl | rfl
        · exact stepG OD G hA hh0 hk hn hd0 hx0 hcur stGFKn runGFKn X hc hit trivial hgo
        · exact stepG OD G hA hh0 hk hn hd0 hx0 hcur stGFRn runGFRn X hc hit trivial hgo
        · exact stepG OD G hA hh0 hk hn hd0 hx0 hcur stGFLn runGFLn X hc hit trivial hgo
        · exact stepG OD G hA hh0 hk hn hd0 hx0 hcur stGFDn runGFDn X hc hit trivial hgo
        · exact stepG OD G hA hh0 hk hn hd0 hx0 hcur stGFAn runGFAn X hc hit trivial hgo
        · exact stepG OD G hA hh0 hk hn hd0 hx0 hcur stGFWn runGFWn X hc hit trivial hgo
    | true =>
      cases hit : finF false (text.take k) with
      | true =>
        have hao := ahead_true (by omega) hit
        rw [hao] at hah
        have hah' : aheadL text k = [92] := hah
        rw [hit, hao] at hgo
        rcases hsc with rfl | rfl | rfl | rfl | rfl | rfl
        · exact stepG OD G hA hh0 hk hn hd0 hx0 hcur stGTKi runGTKi X hc hit trivial hgo
        · exact stepG OD G hA hh0 hk hn hd0 hx0 hcur stGTRi runGTRi X hc hit trivial hgo
        · exact stepG OD G hA hh0 hk hn hd0 hx0 hcur stGTLi runGTLi X hc hit (And.intro (by rw [hah']; rfl) trivial) hgo
        · exact stepG OD G hA hh0 hk hn hd0 hx0 hcur stGTDi runGTDi X hc hit (And.intro (by rw [hah']; rfl) trivial) hgo
        · exact stepG OD G hA hh0 hk hn hd0 hx0 hcur stGTAi runGTAi X hc hit trivial hgo
        · exact stepG OD G hA hh0 hk hn hd0 hx0 hcur stGTWi runGTWi X hc hit trivial hgo
      | false =>
        rw [hit] at hgo
        rcases hsc with rfl | rfl | rfl | rfl | rfl | rfl
        · exact stepG OD G hA hh0 hk hn hd0 hx0 hcur stGTKn runGTKn X hc hit trivial hgo
        · exact stepG OD G hA hh0 hk hn hd0 hx0 hcur stGTRn runGTRn X hc hit trivial hgo
        · by_cases q : aheadO text k = some 13
          · rw [q] at hah hgo
            have hah' : aheadL text k = [13] := hah
            exact stepG OD G hA hh0 hk hn hd0 hx0 hcur stGTLnr runGTLnr X hc hit (And.intro (by rw [hah']; rfl) trivial) hgo
          · have hne : (!(aheadL text k == [13])) = true := by
              rw [hah]
              rcases hq : aheadO text k with _ | y
              · rfl
              · have : y ≠ 13 := fun z => q (by rw [hq, z])
                simp [this]
            have hq : (aheadO text k != some 13) = true := by simpa using q
            refine stepG OD G hA hh0 hk hn hd0 hx0 hcur stGTLn runGTLn X hc hit (And.intro hne trivial) ?_
            have e : dueTurn true false (aheadO text k) 10 d cur = (d ++ [cur ++ []], []) := by simp [dueTurn, q]
            rw [e] at hgo
            exact hgo
        · by_cases q : aheadO text k = none ∨ aheadO text k = some 13 ∨ aheadO text k = some 10
          · have hin : ([] == aheadL text k || ([13] == aheadL text k || [10] == aheadL text k)) = true := by
              rw [hah]
              rcases q with q | q | q <;> rw [q] <;> rfl
            refine stepG OD G hA hh0 hk hn hd0 hx0 hcur stGTDnb runGTDnb X hc hit (And.intro hin trivial) ?_
            have e : dueTurn true false (aheadO text k) 46 d cur = (d, cur ++ [46, 46]) := by
              rcases q with q | q | q <;> rw [q] <;> rfl
            rw [e] at hgo
            exact hgo
          · have hin : ([] == aheadL text k || ([13] == aheadL text k || [10] == aheadL text k)) = false := by
              rw [hah]
              rcases hq : aheadO text k with _ | y
              · exact (q (.inl hq)).elim
              · have h1 : (13 : Nat) ≠ y := fun z => q (.inr (.inl (by rw [hq, z])))
                have h2 : (10 : Nat) ≠ y := fun z => q (.inr (.inr (by rw [hq, z])))
                simp [h1, h2]
            refine stepG OD G hA hh0 hk hn hd0 hx0 hcur stGTDn runGTDn X hc hit (And.intro hin trivial) ?_
            have e : dueTurn true false (aheadO text k) 46 d cur = (d, cur ++ [46]) := by
              have := e46 0 q
              unfold dueTurn
              simp only [this]
              rfl
            rw [e] at hgo
            exact hgo
        · exact stepG OD G hA hh0 hk hn hd0 hx0 hcur stGTAn runGTAn X hc hit trivial hgo
        · exact stepG OD G hA hh0 hk hn hd0 hx0 hcur stGTWn runGTWn X hc hit trivial hgo
end
end
section
noncomputable def lcOf : List Stmt → Option (Expr × Scope)
  | [] => none
  | st :: l => match st with
    | .Return (some e) _ => match e with
      | .ListComp _ _ sc _ => some (e, sc)
      | _ => lcOf l
    | _ => lcOf l
/-- the environment of a comprehension in the frame F of the def f -/
noncomputable def cenvFn (P : Params) (f F : Addr) (sc : Scope) (cd : Addr) : Env := { scope := sc, locals := cd, globals := (envFn P f F).globals, cells := [], qual := (envFn P f F).qual, func := none, code := (envFn P f F).code, frame := some F, builtins := (envFn P f F).builtins }
/-- the loop of _law_due's comprehension -/
@[irreducible] noncomputable def CL (P : Params) (F it acc cd : Addr) : Code := match lcOf (bodyFn P 775) with
  | some x => .compLoop x.1 0 (.ref it) (.ref acc) (cenvFn P 775 F x.2 cd)
  | none => .body [] default
noncomputable abbrev liO (W : Addr) (j : Int) : Obj := { cls := .type "list_iterator", data := .fields #[.ref W, .int j 0] }
noncomputable abbrev cd0 : Obj := { cls := .type "dict", data := .dict #[] 0 }
noncomputable abbrev cdW (P : Params) (t : Nat) (v : Value) : Obj := { cls := .type "dict", data := .dict #[entQ P "word" t v] 1 }
noncomputable abbrev rgO (n : Int) (a b c : Nat) : Obj := { cls := .type "range", data := .fields #[.int 0 a, .int n b, .int 1 c] }
theorem runDE_is (P : Params) (b c : Bool) (rho tau : Nat → Nat) (stk : Stk) (F I : Addr) (k : Int) :
    let o := entered (cfg (fP P b c) rho tau none []) stk [2, 1, 0, 1, 0, 1, 1, 1, 5, 2] (FL (fP P b c) F I) [(I, riO k 0)]
    (chkL o, retV [] o) = (chkR o, some (.ok .next, [])) := by
  cases b <;> kernel_rfl
/-! from the call to the loop -/
noncomputable abbrev dueC (text : Str) (tb : Nat) (sent : Bool) : Code := .call (.ref 775) ⟨[.str text tb, .bool sent], []⟩
noncomputable abbrev spA (rho tau : Nat → Nat) (text : Str) (tb : Nat) (la : Str) (tl d1 : Nat) (n : Int) : List Sp := [
  ⟨bi "str.__getitem__" [.str text tb, .ref (rho 1)], [(1, rho 1, slLast (tau 3))], .str la tl, 4, d1⟩,
  ⟨bi "str.__eq__" [.str la tl, .str ⟨#[92]⟩ (tau (4 + d1))], [], .bool false, 4 + d1 + 1, 0⟩,
  ⟨bi "len" [.str text tb], [], .int n (tau (4 + d1 + 4)), 4 + d1 + 3, 2⟩]
noncomputable abbrev sqA (rho tau : Nat → Nat) (d1 : Nat) (n : Int) : List Sq := [
  ⟨.call (.type "range") ⟨[.int n (tau (4 + d1 + 4))], []⟩, [], none, [rgO n (tau (4 + d1 + 5)) (tau (4 + d1 + 4)) (tau (4 + d1 + 6))], .ref (rho 3), 4 + d1 + 5, 3, 2⟩,
  ⟨bi "range.__iter__" [.ref (rho 3)], [(3, rho 3, rgO n (tau (4 + d1 + 5)) (tau (4 + d1 + 4)) (tau (4 + d1 + 6)))], none, [riO 0 n], .ref (rho 4), 4 + d1 + 7, 4, 0⟩]
noncomputable def advA : List Nat := [1553, 1, 1, 1, 1, 2, 1, 0, 0, 4, 6, 1, 1, 6, 0, 6, 0, 1, 8, 10, 7, 7, 12, 9, 1]
noncomputable abbrev dxA (rho tau : Nat → Nat) (text : Str) (tb d1 : Nat) : DX := { F := rho 0, W := rho 2, I := rho 4, text := text, tb := tb, tk := fun j => match j with | 1 => tau 0 | 2 => tau 1 | 3 => tau (4 + d1 + 2) | _ => 0 }
noncomputable abbrev runA (P : Params) (b c : Bool) (rho tau : Nat → Nat) (stk : Stk) (text : Str) (tb : Nat) (sent : Bool) (la : Str) (tl d1 : Nat) (n : Int) : Out :=
  entered (cfgQ (fP P b c) rho tau none (spA rho tau text tb la tl d1 n) (sqA rho tau d1 n)) stk advA (dueC text tb sent) []
theorem runA_is (P : Params) (b c : Bool) (rho tau : Nat → Nat) (stk : Stk) (text : Str) (tb : Nat) (sent : Bool) (la : Str) (tl d1 : Nat) (n : Int) :
    let o := runA P b c rho tau stk text tb sent la tl d1 n
    (chkL o, cutR [0, 2, 4] o) = (chkR o, some (FL (fP P b c) (rho 0) (rho 4), [(rho 0, fr3 P (dxA rho tau text tb d1) sent), (rho 2, listO [.str ⟨#[]⟩ (tau (4 + d1 + 1))] 0), (rho 4, riO 0 n)])) := by
  cases b <;> kernel_rfl
noncomputable abbrev spB (rho tau : Nat → Nat) (text : Str) (tb : Nat) (la : Str) (tl d1 : Nat) (n m : Int) : List Sp := [
  ⟨bi "str.__getitem__" [.str text tb, .ref (rho 1)], [(1, rho 1, slLast (tau 3))], .str la tl, 4, d1⟩,
  ⟨bi "str.__eq__" [.str la tl, .str ⟨#[92]⟩ (tau (4 + d1))], [], .bool true, 4 + d1 + 1, 0⟩,
  ⟨bi "len" [.str text tb], [], .int n (tau (4 + d1 + 2)), 4 + d1 + 1, 2⟩,
  ⟨bi "int.__sub__" [.int n (tau (4 + d1 + 2)), .int 1 (tau (4 + d1 + 3))], [], .int m (tau (4 + d1 + 4)), 4 + d1 + 4, 1⟩]
noncomputable def advB : List Nat := [1553, 1, 1, 1, 1, 2, 1, 0, 0, 4, 6, 6, 1, 6, 0, 1, 8, 10, 1540, 1]
noncomputable abbrev fr2 (P : Params) (tau : Nat → Nat) (text : Str) (tb : Nat) (sent : Bool) : Obj := { cls := .type "frame", data := .dict #[entQ P "text" (tau 0) (.str text tb), entQ P "sent" (tau 1) (.bool sent)] 2 }
noncomputable abbrev runB (P : Params) (b c : Bool) (rho tau : Nat → Nat) (stk : Stk) (text : Str) (tb : Nat) (sent : Bool) (la : Str) (tl d1 : Nat) (n m : Int) : Out :=
  entered (cfgQ (fP P b c) rho tau none (spB rho tau text tb la tl d1 n m) []) stk advB (dueC text tb sent) []
theorem runB_is (P : Params) (b c : Bool) (rho tau : Nat → Nat) (stk : Stk) (text : Str) (tb : Nat) (sent : Bool) (la : Str) (tl d1 : Nat) (n m : Int) :
    let o := runB P b c rho tau stk text tb sent la tl d1 n m
    (chkL o, cutR [0] o) = (chkR o, some (itselfC text tb m (tau (4 + d1 + 4)), [(rho 0, fr2 P tau text tb sent)])) := by
  cases b <;> kernel_rfl
noncomputable abbrev dxB (rho tau rho2 tau2 : Nat → Nat) (text : Str) (tb : Nat) : DX := { F := rho 0, W := rho2 0, I := rho2 2, text := text, tb := tb, tk := fun j => match j with | 1 => tau 0 | 2 => tau 1 | 3 => tau2 1 | _ => 0 }
noncomputable abbrev spB2 (tau2 : Nat → Nat) (text : Str) (tb : Nat) (n : Int) : List Sp := [⟨bi "len" [.str text tb], [], .int n (tau2 3), 2, 2⟩]
noncomputable abbrev sqB2 (rho2 tau2 : Nat → Nat) (n : Int) : List Sq := [
  ⟨.call (.type "range") ⟨[.int n (tau2 3)], []⟩, [], none, [rgO n (tau2 4) (tau2 3) (tau2 5)], .ref (rho2 1), 4, 1, 2⟩,
  ⟨bi "range.__iter__" [.ref (rho2 1)], [(2, rho2 1, rgO n (tau2 4) (tau2 3) (tau2 5))], none, [riO 0 n], .ref (rho2 2), 6, 2, 0⟩]
noncomputable def advB2 : List Nat := [1, 1, 6, 0, 6, 0, 1, 4, 6, 5, 5, 8, 7, 1]
noncomputable abbrev runB2 (P : Params) (b c : Bool) (rho tau rho2 tau2 : Nat → Nat) (stk stk2 : Stk) (text : Str) (tb : Nat) (sent : Bool) (la : Str) (tl d1 : Nat) (n m : Int) : Out :=
  res (runB P b c rho tau stk text tb sent la tl d1 n m) (.ok (.ret (.bool true))) (cfgQ (fP P b c) rho2 tau2 none (spB2 tau2 text tb n) (sqB2 rho2 tau2 n)) stk2 advB2 [(rho 0, fr2 P tau text tb sent)]
theorem runB2_is (P : Params) (b c : Bool) (rho tau rho2 tau2 : Nat → Nat) (stk stk2 : Stk) (text : Str) (tb : Nat) (sent : Bool) (la : Str) (tl d1 : Nat) (n m : Int) :
    let o := runB2 P b c rho tau rho2 tau2 stk stk2 text tb sent la tl d1 n m
    (chkL o, cutR [0, 1, 3] o) = (chkR o, some (FL (fP P b c) (rho 0) (rho2 2), [(rho 0, fr3 P (dxB rho tau rho2 tau2 text tb) sent), (rho2 0, listO [.str ⟨#[]⟩ (tau2 0)] 0), (rho2 2, riO 0 n)])) := by
  cases b <;> kernel_rfl
/-! from the loop's end to the comprehension's loop -/
noncomputable def advC1 (c : Bool) : List Nat := cond c [1, 3, 3, 0, 3, 0, 5, 0, 1] [1, 3, 3, 0, 3, 0, 5, 0, 5, 5, 0, 5, 0, 5, 1]
theorem runAC_is (P : Params) (b c : Bool) (rho tau rho2 tau2 : Nat → Nat) (stk stk2 : Stk) (text : Str) (tb : Nat) (sent : Bool) (la : Str) (tl d1 : Nat) (n : Int) (xs : List Value) (cn : Nat) :
    let o := res (runA P b c rho tau stk text tb sent la tl d1 n) (.ok .next) (cfg (fP P b c) rho2 tau2 none []) stk2 (advC1 c) [(rho 0, fr3 P (dxA rho tau text tb d1) sent), (rho 2, listO xs cn)]
    (chkL o, cutR [0, 1, 2, 3, 4] o) = (chkR o, some (CL (fP P b c) (rho 0) (rho2 0) (rho2 1) (rho2 2), [(rho 0, fr3 P (dxA rho tau text tb d1) sent), (rho 2, listO xs cn), (rho2 0, liO (rho 2) 0), (rho2 1, listO [] 0), (rho2 2, cd0)])) := by
  cases b <;> cases c <;> kernel_rfl
end
section
noncomputable abbrev runAC (P : Params) (b c : Bool) (rho tau rho2 tau2 : Nat → Nat) (stk stk2 : Stk) (text : Str) (tb : Nat) (sent : Bool) (la : Str) (tl d1 : Nat) (n : Int) (fr : Obj) (xs : List Value) (cn : Nat) : Out :=
  res (runA P b c rho tau stk text tb sent la tl d1 n) (.ok .next) (cfg (fP P b c) rho2 tau2 none []) stk2 (advC1 c) [(rho 0, fr), (rho 2, listO xs cn)]
noncomputable abbrev runBC (P : Params) (b c : Bool) (rho tau rho2 tau2 rho3 tau3 : Nat → Nat) (stk stk2 stk3 : Stk) (text : Str) (tb : Nat) (sent : Bool) (la : Str) (tl d1 : Nat) (n m : Int) (fr : Obj) (xs : List Value) (cn : Nat) : Out :=
  res (runB2 P b c rho tau rho2 tau2 stk stk2 text tb sent la tl d1 n m) (.ok .next) (cfg (fP P b c) rho3 tau3 none []) stk3 (advC1 c) [(rho 0, fr), (rho2 0, listO xs cn)]
theorem runAC6_is (P : Params) (b c : Bool) (rho tau rho2 tau2 : Nat → Nat) (stk stk2 : Stk) (text : Str) (tb : Nat) (sent : Bool) (la : Str) (tl d1 : Nat) (n : Int) (xs : List Value) (cn : Nat) (t4 t5 t6 : Nat) (k' : Int) (tk' : Nat) (it' : Bool) (ah' : Str) (ta' : Nat) :
    let o := runAC P b c rho tau rho2 tau2 stk stk2 text tb sent la tl d1 n (fr6 P (dxA rho tau text tb d1) sent t4 t5 t6 k' tk' it' ah' ta') xs cn
    (chkL o, cutR [1, 2, 3, 4] o) = (chkR o, some (CL (fP P b c) (rho 0) (rho2 0) (rho2 1) (rho2 2), [(rho 2, listO xs cn), (rho2 0, liO (rho 2) 0), (rho2 1, listO [] 0), (rho2 2, cd0)])) := by
  cases b <;> cases c <;> kernel_rfl
theorem runAC3_is (P : Params) (b c : Bool) (rho tau rho2 tau2 : Nat → Nat) (stk stk2 : Stk) (text : Str) (tb : Nat) (sent : Bool) (la : Str) (tl d1 : Nat) (n : Int) (xs : List Value) (cn : Nat) :
    let o := runAC P b c rho tau rho2 tau2 stk stk2 text tb sent la tl d1 n (fr3 P (dxA rho tau text tb d1) sent) xs cn
    (chkL o, cutR [1, 2, 3, 4] o) = (chkR o, some (CL (fP P b c) (rho 0) (rho2 0) (rho2 1) (rho2 2), [(rho 2, listO xs cn), (rho2 0, liO (rho 2) 0), (rho2 1, listO [] 0), (rho2 2, cd0)])) := by
  cases b <;> cases c <;> kernel_rfl
theorem runBC6_is (P : Params) (b c : Bool) (rho tau rho2 tau2 rho3 tau3 : Nat → Nat) (stk stk2 stk3 : Stk) (text : Str) (tb : Nat) (sent : Bool) (la : Str) (tl d1 : Nat) (n m : Int) (xs : List Value) (cn : Nat) (t4 t5 t6 : Nat) (k' : Int) (tk' : Nat) (it' : Bool) (ah' : Str) (ta' : Nat) :
    let o := runBC P b c rho tau rho2 tau2 rho3 tau3 stk stk2 stk3 text tb sent la tl d1 n m (fr6 P (dxB rho tau rho2 tau2 text tb) sent t4 t5 t6 k' tk' it' ah' ta') xs cn
    (chkL o, cutR [1, 2, 3, 4] o) = (chkR o, some (CL (fP P b c) (rho 0) (rho3 0) (rho3 1) (rho3 2), [(rho2 0, listO xs cn), (rho3 0, liO (rho2 0) 0), (rho3 1, listO [] 0), (rho3 2, cd0)])) := by
  cases b <;> cases c <;> kernel_rfl
theorem runAR6_is (P : Params) (b c : Bool) (rho tau rho2 tau2 rho3 tau3 : Nat → Nat) (stk stk2 stk3 : Stk) (text : Str) (tb : Nat) (sent : Bool) (la : Str) (tl d1 : Nat) (n : Int) (xs : List Value) (cn : Nat) (t4 t5 t6 : Nat) (k' : Int) (tk' : Nat) (it' : Bool) (ah' : Str) (ta' : Nat) (t : Nat) (v : Value) :
    let o := res (runAC P b c rho tau rho2 tau2 stk stk2 text tb sent la tl d1 n (fr6 P (dxA rho tau text tb d1) sent t4 t5 t6 k' tk' it' ah' ta') xs cn) (.ok .next) (cfg (fP P b c) rho3 tau3 none []) stk3 [1, 1, 1] [(rho2 2, cdW P t v)]
    (chkL o, retV [] o) = (chkR o, some (.ok (.ret (.ref (rho2 1))), [])) := by
  cases b <;> cases c <;> kernel_rfl
theorem runAR3_is (P : Params) (b c : Bool) (rho tau rho2 tau2 rho3 tau3 : Nat → Nat) (stk stk2 stk3 : Stk) (text : Str) (tb : Nat) (sent : Bool) (la : Str) (tl d1 : Nat) (n : Int) (xs : List Value) (cn : Nat) (t : Nat) (v : Value) :
    let o := res (runAC P b c rho tau rho2 tau2 stk stk2 text tb sent la tl d1 n (fr3 P (dxA rho tau text tb d1) sent) xs cn) (.ok .next) (cfg (fP P b c) rho3 tau3 none []) stk3 [1, 1, 1] [(rho2 2, cdW P t v)]
    (chkL o, retV [] o) = (chkR o, some (.ok (.ret (.ref (rho2 1))), [])) := by
  cases b <;> cases c <;> kernel_rfl
theorem runBR6_is (P : Params) (b c : Bool) (rho tau rho2 tau2 rho3 tau3 rho4 tau4 : Nat → Nat) (stk stk2 stk3 stk4 : Stk) (text : Str) (tb : Nat) (sent : Bool) (la : Str) (tl d1 : Nat) (n m : Int) (xs : List Value) (cn : Nat) (t4 t5 t6 : Nat) (k' : Int) (tk' : Nat) (it' : Bool) (ah' : Str) (ta' : Nat) (t : Nat) (v : Value) :
    let o := res (runBC P b c rho tau rho2 tau2 rho3 tau3 stk stk2 stk3 text tb sent la tl d1 n m (fr6 P (dxB rho tau rho2 tau2 text tb) sent t4 t5 t6 k' tk' it' ah' ta') xs cn) (.ok .next) (cfg (fP P b c) rho4 tau4 none []) stk4 [1, 1, 1] [(rho3 2, cdW P t v)]
    (chkL o, retV [] o) = (chkR o, some (.ok (.ret (.ref (rho3 1))), [])) := by
  cases b <;> cases c <;> kernel_rfl
theorem runBN_is (P : Params) (b c : Bool) (rho tau rho2 tau2 : Nat → Nat) (stk stk2 : Stk) (text : Str) (tb : Nat) (sent : Bool) (la : Str) (tl d1 : Nat) (n m : Int) :
    let o := res (runB P b c rho tau stk text tb sent la tl d1 n m) (.ok (.ret (.bool false))) (cfg (fP P b c) rho2 tau2 none []) stk2 [] []
    (chkL o, retV [] o) = (chkR o, some (.ok (.ret (.str noEsc (tau2 0))), [])) := by
  cases b <;> kernel_rfl
/-! the comprehension's loop -/
noncomputable abbrev spC (tau : Nat → Nat) (x : Str) (tx : Nat) (r : Bool) : List Sp := [⟨bi "str.__ne__" [.str x tx, .str ⟨#[]⟩ (tau 1)], [], .bool r, 2, 0⟩]
noncomputable abbrev sqC (W it acc : Addr) (j : Int) (xs ys : List Value) (cn cy : Nat) (x : Str) (tx : Nat) : List Sq := [
  ⟨bi "list_iterator.__next__" [.ref it], [(0, it, liO W j), (3, W, listO xs cn)], some (0, it, liO W (j + 1)), [], .str x tx, 0, 0, 0⟩,
  ⟨bi "list.append" [.ref acc, .str x tx], [(1, acc, listO ys cy)], some (1, acc, listO (ys ++ [.str x tx]) (cy + 1)), [], .none, 2, 0, 0⟩]
theorem runCTy_is (P : Params) (b c : Bool) (rho tau : Nat → Nat) (stk : Stk) (F W it acc cd : Addr) (j : Int) (xs ys : List Value) (cn cy : Nat) (x : Str) (tx : Nat) (t : Nat) (v : Value) :
    let o := entered (cfgQ (fP P b c) rho tau none (spC tau x tx true) (sqC W it acc j xs ys cn cy x tx)) stk [0, 1, 6, 5, 5, 5, 4, 5, 8, 1] (CL (fP P b c) F it acc cd) [(it, liO W j), (acc, listO ys cy), (cd, cdW P t v), (W, listO xs cn)]
    (chkL o, cutV [0, 1, 2, 3] o) = (chkR o, some (CL (fP P b c) F it acc cd, [(it, liO W (j + 1)), (acc, listO (ys ++ [.str x tx]) (cy + 1)), (cd, cdW P t (.str x tx)), (W, listO xs cn)])) := by
  cases b <;> kernel_rfl
theorem runCTn_is (P : Params) (b c : Bool) (rho tau : Nat → Nat) (stk : Stk) (F W it acc cd : Addr) (j : Int) (xs ys : List Value) (cn cy : Nat) (x : Str) (tx : Nat) (t : Nat) (v : Value) :
    let o := entered (cfgQ (fP P b c) rho tau none (spC tau x tx false) (sqC W it acc j xs ys cn cy x tx)) stk [0, 1, 6, 5, 5, 5, 4, 1] (CL (fP P b c) F it acc cd) [(it, liO W j), (acc, listO ys cy), (cd, cdW P t v), (W, listO xs cn)]
    (chkL o, cutV [0, 1, 2, 3] o) = (chkR o, some (CL (fP P b c) F it acc cd, [(it, liO W (j + 1)), (acc, listO ys cy), (cd, cdW P t (.str x tx)), (W, listO xs cn)])) := by
  cases b <;> kernel_rfl
theorem runCFy_is (P : Params) (b c : Bool) (rho tau : Nat → Nat) (stk : Stk) (F W it acc cd : Addr) (j : Int) (xs ys : List Value) (cn cy : Nat) (x : Str) (tx : Nat) :
    let o := entered (cfgQ (fP P b c) rho tau none (spC tau x tx true) (sqC W it acc j xs ys cn cy x tx)) stk [0, 1, 6, 5, 5, 5, 4, 5, 8, 1] (CL (fP P b c) F it acc cd) [(it, liO W j), (acc, listO ys cy), (cd, cd0), (W, listO xs cn)]
    (chkL o, cutV [0, 1, 2, 3] o) = (chkR o, some (CL (fP P b c) F it acc cd, [(it, liO W (j + 1)), (acc, listO (ys ++ [.str x tx]) (cy + 1)), (cd, cdW P (tau 0) (.str x tx)), (W, listO xs cn)])) := by
  cases b <;> kernel_rfl
theorem runCFn_is (P : Params) (b c : Bool) (rho tau : Nat → Nat) (stk : Stk) (F W it acc cd : Addr) (j : Int) (xs ys : List Value) (cn cy : Nat) (x : Str) (tx : Nat) :
    let o := entered (cfgQ (fP P b c) rho tau none (spC tau x tx false) (sqC W it acc j xs ys cn cy x tx)) stk [0, 1, 6, 5, 5, 5, 4, 1] (CL (fP P b c) F it acc cd) [(it, liO W j), (acc, listO ys cy), (cd, cd0), (W, listO xs cn)]
    (chkL o, cutV [0, 1, 2, 3] o) = (chkR o, some (CL (fP P b c) F it acc cd, [(it, liO W (j + 1)), (acc, listO ys cy), (cd, cdW P (tau 0) (.str x tx)), (W, listO xs cn)])) := by
  cases b <;> kernel_rfl
noncomputable abbrev nextC (it : Addr) : Code := .call (.builtin "list_iterator.__next__") ⟨[.ref it], []⟩
noncomputable abbrev runCE (P : Params) (b c : Bool) (rho tau : Nat → Nat) (stk : Stk) (F W it acc cd : Addr) (j : Int) : Out :=
  entered (cfg (fP P b c) rho tau none []) stk [0, 1, 1] (CL (fP P b c) F it acc cd) [(it, liO W j)]
theorem runCE_is (P : Params) (b c : Bool) (rho tau : Nat → Nat) (stk : Stk) (F W it acc cd : Addr) (j : Int) :
    let o := runCE P b c rho tau stk F W it acc cd j
    (chkL o, cutR [0] o) = (chkR o, some (nextC it, [(it, liO W j)])) := by
  cases b <;> kernel_rfl
theorem runCE2_is (P : Params) (b c : Bool) (rho tau rho2 tau2 : Nat → Nat) (stk stk2 : Stk) (F W it acc cd : Addr) (j : Int) (e t : Addr) :
    let o := res (runCE P b c rho tau stk F W it acc cd j) (.error (.ref e)) (cfg (fP P b c) rho2 tau2 none []) stk2 [1] [(e, excO "StopIteration" t)]
    (chkL o, retV [] o) = (chkR o, some (.ok .next, [])) := by
  cases b <;> kernel_rfl
end
section
section
variable {prog : Program} {w : World} {A : Around} {R : Result → Shared → Prop} {s : Shared}
theorem ansq_lnext (I W : Addr) (j k : Nat) (xs : List Value) (cn : Nat) (v : Value) (hI : s.heap.get? I = some (liO W j)) (hW : s.heap.get? W = some (listO xs cn)) (hv : xs[j]? = some v) : AnsQ prog w A s (bi "list_iterator.__next__" [.ref I]) (some (k, I, liO W (j + 1))) [] v 0 := by
  have hIt : s.heap.IsListIter I W j := ⟨_, hI, rfl, rfl⟩
  refine wpAny_call_entry slot_listiter_next hIt.typeIs entry_listiter_next ?_ (args_listiter_next _)
  show wpAny _ _ (field (.ref I) 0 >>= _) _ _ s
  refine wpAny_bind (wpAny_field hI rfl (x := .ref W) rfl ?_)
  show wpAny _ _ (if (Value.ref W == Value.none) = true then _ else _) _ _ s
  rw [if_neg (show ¬ ((Value.ref W == Value.none) = true) from Bool.false_ne_true)]
  show wpAny _ _ (field (.ref I) 1 >>= _) _ _ s
  refine wpAny_bind (wpAny_field hI rfl (x := .int j 0) rfl ?_)
  show wpAny _ _ (seqItems? (.ref W) >>= _) _ _ s
  refine wpAny_bind (wpAny_seqItems hW rfl ?_)
  have hx : xs.toArray[j]? = some v := by simpa using hv
  simp only [Int.toNat_natCast, hx]
  refine wpAny_bind (wpAny_setField hI rfl (by first | trivial | simp) (wpAny_pure ⟨v, rfl, rfl, _, SqHeap.of_same ?_ (Heap.SameBut.update ..), rfl⟩))
  rw [Heap.get?_update_self _ hI rfl]
  congr 1
theorem list_end (hh : A.handled = none) {I W : Addr} {j : Nat} {xs : List Value} {cn : Nat} (hI : s.heap.get? I = some (liO W j)) (hW : s.heap.get? W = some (listO xs cn)) (hj : xs.length ≤ j)
    (hR : ∀ h e t, h.get? e = some (excO "StopIteration" t) → s.heap.objs.size ≤ e → (∀ b o, s.heap.get? b = some o → b ≠ I → h.get? b = some o) → R (.error (.ref e)) ⟨h, s.gens, s.drawn, s.toks, s.os⟩) : codeAny (model prog w) A (nextC I) R s := by
  have hIt : s.heap.IsListIter I W j := ⟨_, hI, rfl, rfl⟩
  refine codeAny_call_builtin slot_listiter_next.plain entry_listiter_next (slot_listiter_next.check _ _ _ _ _ _ _ _ hIt.typeIs (args_listiter_next _) ?_)
  show wpAny _ A.in1 (field (.ref I) 0 >>= _) _ _ s
  refine wpAny_bind (wpAny_field hI rfl (x := .ref W) rfl ?_)
  show wpAny _ _ (if (Value.ref W == Value.none) = true then _ else _) _ _ s
  rw [if_neg (show ¬ ((Value.ref W == Value.none) = true) from Bool.false_ne_true)]
  show wpAny _ _ (field (.ref I) 1 >>= _) _ _ s
  refine wpAny_bind (wpAny_field hI rfl (x := .int j 0) rfl ?_)
  show wpAny _ _ (seqItems? (.ref W) >>= _) _ _ s
  refine wpAny_bind (wpAny_seqItems hW rfl ?_)
  have hx : xs.toArray[j]? = none := by simp; omega
  simp only [Int.toNat_natCast, hx]
  refine wpAny_bind (wpAny_rule (wpAny_bind (wpAny_setField hI rfl (by first | trivial | simp) ?_)))
  show wpAny _ _ (newExc (.type "StopIteration") [] >>= _) _ _ _
  refine wpAny_bind ?_
  simp only [newExc, newTuple]
  refine wpAny_bind (wpAny_newObj_type ?_ (by size_fits))
  refine wpAny_bind (m := firstArgMember _ _) (wpAny_of_eq (a := Value.none) (by first | rfl | (simp only [firstArgMember]; rfl)) ?_)
  refine wpAny_newObj_type ?_ (by size_fits)
  simp only [raiseNew]
  refine wpAny_bind (wpAny_handled ?_)
  rw [show A.in1.handled = none from hh]
  refine wpAny_bind (wpAny_pure (wpAny_throw ?_))
  refine hR _ _ _ (Heap.get?_push_size _ rfl) ?_ fun b o q z => ?_
  · rw [Heap.size_push, Heap.size_after_update]
    exact Nat.le_succ _
  · exact Heap.get?_push_of_some _ (Heap.get?_push_of_some _ ((Heap.get?_update_other _ _ (Ne.symm z)).trans q))
end
/-- the objects of the comprehension's loop -/
structure CAt (P : Params) (F W it acc cd : Addr) (h : Heap) (first : Bool) (j : Nat) (xs ys : List Value) (cn cy : Nat) : Prop where
  it : h.get? it = some (liO W j)
  acc : h.get? acc = some (listO ys cy)
  cd : (first = true ∧ h.get? cd = some cd0) ∨ ∃ t v, h.get? cd = some (cdW P t v)
  W : h.get? W = some (listO xs cn)
section
variable {w : World} {A : Around} {R : Result → Shared → Prop} {F W it acc cd : Addr}
theorem compD (hA : A.depth + 200 ≤ recursionLimit) (hh0 : A.handled = none) (ap : [it, acc, cd, W].Nodup) (hi : ∀ a ∈ [it, acc, cd, W], 781 ≤ a) {xs : List Value} {ws : List (List Nat)} {cn : Nat} (hst : StrsAre xs ws) (hlen : xs.length < 50000) :
    ∀ (n : Nat) (s : Shared) (first : Bool) (j : Nat) (ys : List Value) (vs : List (List Nat)) (cy : Nat), xs.length = j + n → (first = true → 0 < n) → Gr w s.heap → CAt w.params F W it acc cd s.heap first j xs ys cn cy → StrsAre ys vs → ys.length ≤ j →
    (∀ h i ys' cy' t v, StrsAre ys' (vs ++ nonE (ws.drop j)) → h.get? acc = some (listO ys' cy') → h.get? cd = some (cdW w.params t v) → (∀ b o, s.heap.get? b = some o → b ∉ [it, acc, cd] → h.get? b = some o) → R (.ok .next) ⟨h, s.gens, s.drawn, i, s.os⟩) →
    codeAny (model theProg w) A (CL w.params F it acc cd) R s := by
  have ap' := ap
  simp only [List.nodup_cons, List.mem_cons, List.not_mem_nil, or_false, not_or] at ap'
  obtain ⟨⟨p1, p2, p3⟩, ⟨p4, p5⟩, p6, _⟩ := ap'
  have hb := fP_self w.params
  generalize w.params.followText "special-get-raises" = b at hb
  generalize w.params.followText "comprehension-iter-twice" = c at hb
  have eW : CL w.params F it acc cd = CL (fP w.params b c) F it acc cd := by rw [hb]
  intro n
  induction n with
  | zero =>
    intro s first j ys vs cy hj hf G X hys hyl hR
    obtain ⟨h₀, g, dr, t₀, os⟩ := s
    have hws : ws.drop j = [] := List.drop_eq_nil_of_le (by rw [← hst.length]; omega)
    obtain ⟨t, v, hcd⟩ : ∃ t v, h₀.get? cd = some (cdW w.params t v) := by
      rcases X.cd with ⟨q, _⟩ | q
      · have := hf q; omega
      · exact q
    rw [eW]
    have O := mkOk (A := A) (t₀ := t₀) (sps := []) (ini := [it]) G hb (by intro a ha; replace ha := memL ha; subst ha; exact hi a (by first | trivial | simp)) (by omega) (fun sp hm => nomatch hm)
    rw [hh0] at O
    refine run_fine O (mkHp (h := h₀) (own := [(it, liO W j)]) (by intro p hp; replace hp := memL hp; subst hp; exact X.it) (by first | trivial | simp)) (adv := [0, 1, 1]) fun stk => fine_call (runCE_is w.params b c _ _ stk F W it acc cd j) fun A1 R1 h1 i1 hdep hh hl hk hcont => ?_
    have k1 : ∀ b o, h₀.get? b = some o → h1.get? b = some o := fun x o q => by
      by_cases z : x = it
      · subst z; rw [Option.some.inj (q.symm.trans X.it)]; exact hl _ (List.mem_cons_self ..)
      · exact hk x o q (nmL z)
    refine list_end (s := ⟨h1, g, dr, i1, os⟩) (hh.trans hh0) (hl _ (List.mem_cons_self ..)) (k1 _ _ X.W) (by omega) fun h2 e t' he hsz hk2 => ?_
    have hne : ∀ a o, h₀.get? a = some o → a ≠ e := fun a o q z => absurd (Heap.lt_size (k1 a o q)) (Nat.not_lt.mpr (z ▸ hsz))
    have h7 := size781 (w := w) (G.keeps (h' := h1) fun b o _ q => k1 b o q)
    have G2 : Gr w h2 := G.keeps fun b o hlt q => hk2 b o (k1 b o q) (fun z => absurd hlt (Nat.not_lt.mpr (z ▸ hi it (by first | trivial | simp))))
    have O2 := mkOk (A := A) (t₀ := i1) (sps := []) (ini := [e]) G2 hb (by intro a ha; replace ha := memL ha; subst ha; exact Nat.le_trans h7 hsz) (by omega) (fun sp hm => nomatch hm)
    rw [hh0] at O2
    refine hcont (.error (.ref e)) h2 i1 (cfgH w b c h2 i1 none []) _ _ [1] rfl O2 (mkHp (h := h2) (own := [(e, excO "StopIteration" t')]) (by intro p hp; replace hp := memL hp; subst hp; exact he) (by first | trivial | simp)) fun stk2 => ?_
    refine fine_ret (runCE2_is w.params b c _ _ _ _ stk stk2 F W it acc cd j e t') fun h3 i3 hl3 hk3 => ?_
    have k3 : ∀ x o, h₀.get? x = some o → x ≠ it → h3.get? x = some o := fun x o q z => hk3 x o (hk2 x o (k1 x o q) z) (by simp only [List.mem_cons, List.not_mem_nil, or_false]; exact hne x o q)
    refine hR h3 i3 ys cy t v (by rw [hws]; simpa [nonE] using hys) (k3 _ _ X.acc (fun z => p1 z.symm)) (k3 _ _ hcd (fun z => p2 z.symm)) fun x o q z => k3 x o q ?_
    replace z := noL z
    exact z.1
  | succ n ih =>
    intro s first j ys vs cy hj hf G X hys hyl hR
    obtain ⟨h₀, g, dr, t₀, os⟩ := s
    obtain ⟨x, tx, hx, hwx⟩ : ∃ x tx, xs[j]? = some (.str ⟨⟨x⟩⟩ tx) ∧ ws[j]? = some x := by
      have : ∀ (xs : List Value) (ws : List (List Nat)) (j : Nat), StrsAre xs ws → j < xs.length → ∃ x tx, xs[j]? = some (.str ⟨⟨x⟩⟩ tx) ∧ ws[j]? = some x := by
        intro xs
        induction xs with
        | nil => intro ws j _ h; simp at h
        | cons v xs ih =>
          intro ws j h hlt
          cases ws with
          | nil => exact h.elim
          | cons u ws =>
            obtain ⟨⟨t, e⟩, h⟩ := h
            cases j with
            | zero => exact ⟨u, t, by rw [e]; rfl, rfl⟩
            | succ j => exact ih ws j h (by simp only [List.length_cons] at hlt; omega)
      exact this xs ws j hst (by omega)
    have hdrop : ws.drop j = x :: ws.drop (j + 1) := by
      have := (List.getElem?_eq_some_iff.mp hwx)
      obtain ⟨hlt, e⟩ := this
      rw [List.drop_eq_getElem_cons hlt, e]
    have hni : ∀ a ∈ [it, acc, cd, W], ∀ o, (ktb w.params).get a ≠ some o := fun a ha o ho => absurd (base_lt G.inn ho) (Nat.not_lt.mpr (hi a ha))
    have mkO : ∀ r, (!(x == [])) = r → (cfgHQ w b c h₀ t₀ none (spC (fun i => t₀ + i) ⟨⟨x⟩⟩ tx r) (sqC W it acc j xs ys cn cy ⟨⟨x⟩⟩ tx)).Ok w A t₀ [it, acc, cd, W] h₀ := fun r hr => by
      have O := mkOkQ (A := A) (t₀ := t₀) (ini := [it, acc, cd, W]) (sps := spC (fun i => t₀ + i) ⟨⟨x⟩⟩ tx r) (sqs := sqC W it acc j xs ys cn cy ⟨⟨x⟩⟩ tx) G hb hni (by omega) (by
        intro sp hm
        replace hm := memL hm
        subst hm
        intro A s hn ht
        exact ans_strne _ _ _ _ _ hr) (by
        intro sq hm
        replace hm := memL hm
        rcases hm with rfl | rfl <;> intro A s hn ht hm
        · exact ansq_lnext it W j 0 xs cn _ (hn _ (List.mem_cons_self ..)) (hn _ (List.mem_cons_of_mem _ (List.mem_cons_self ..))) hx
        · exact ansq_append acc ys _ cy 1 (hn _ (List.mem_singleton.mpr rfl)) (by omega))
      rw [hh0] at O
      exact O
    have own : ∀ cdo, h₀.get? cd = some cdo → Hp [it, acc, cd, W] h₀ h₀ [(it, liO W j), (acc, listO ys cy), (cd, cdo), (W, listO xs cn)] 0 := fun cdo hcd => mkHp (own := [(it, liO W j), (acc, listO ys cy), (cd, cdo), (W, listO xs cn)]) (by
      intro p hp
      replace hp := memL hp
      rcases hp with rfl | rfl | rfl | rfl
      · exact X.it
      · exact X.acc
      · exact hcd
      · exact X.W) ap
    have go : ∀ (ys' : List Value) (vs' : List (List Nat)) (cy' : Nat) (h : Heap) (i t : Nat), StrsAre ys' vs' → ys'.length ≤ j + 1 → vs' ++ nonE (ws.drop (j + 1)) = vs ++ nonE (ws.drop j) → (∀ p ∈ [(it, liO W (j + 1)), (acc, listO ys' cy'), (cd, cdW w.params t (.str ⟨⟨x⟩⟩ tx)), (W, listO xs cn)], h.get? p.1 = some p.2) → (∀ b o, h₀.get? b = some o → b ∉ [it, acc, cd, W] → h.get? b = some o) →
        codeAny (model theProg w) A (CL (fP w.params b c) F it acc cd) R ⟨h, g, dr, i, os⟩ := by
      intro ys' vs' cy' h i t h1 h2 h3 h4 h5
      rw [← eW]
      have kk : ∀ a o, h₀.get? a = some o → a ∉ [it, acc, cd] → h.get? a = some o := fun a o q z => by
        by_cases za : a = W
        · subst za; rw [Option.some.inj (q.symm.trans X.W)]; exact h4 (a, listO xs cn) (by first | trivial | simp)
        · refine h5 a o q ?_
          simp only [List.mem_cons, List.not_mem_nil, or_false, not_or] at z ⊢
          exact ⟨z.1, z.2.1, z.2.2, za⟩
      refine ih ⟨h, g, dr, i, os⟩ false (j + 1) ys' vs' cy' (by omega) (by intro q; cases q) (G.keeps fun b o hlt q => h5 b o q fun hm => absurd hlt (Nat.not_lt.mpr (hi b hm))) ⟨h4 _ (List.mem_cons_self ..), h4 _ (List.mem_cons_of_mem _ (List.mem_cons_self ..)), .inr ⟨t, _, h4 _ (List.mem_cons_of_mem _ (List.mem_cons_of_mem _ (List.mem_cons_self ..)))⟩, h4 _ (List.mem_cons_of_mem _ (List.mem_cons_of_mem _ (List.mem_cons_of_mem _ (List.mem_cons_self ..))))⟩ h1 h2 fun h' i' ys2 cy2 t2 v2 q1 q2 q3 q4 => ?_
      exact hR h' i' ys2 cy2 t2 v2 (by rw [← h3]; exact q1) q2 q3 fun a o q z => q4 a o (kk a o q z) z
    rw [eW]
    by_cases hxe : x = []
    · subst hxe
      have hno : vs ++ nonE (ws.drop (j + 1)) = vs ++ nonE (ws.drop j) := by rw [hdrop]; simp [nonE]
      rcases X.cd with ⟨_, hcd⟩ | ⟨t, v, hcd⟩
      · exact run_fine (mkO false rfl) (own _ hcd) (adv := [0, 1, 6, 5, 5, 5, 4, 1]) fun stk => fine_cut (runCFn_is w.params b c _ _ stk F W it acc cd j xs ys cn cy _ tx) fun h i q1 q2 => go ys vs cy h i _ hys (by omega) hno q1 q2
      · exact run_fine (mkO false rfl) (own _ hcd) (adv := [0, 1, 6, 5, 5, 5, 4, 1]) fun stk => fine_cut (runCTn_is w.params b c _ _ stk F W it acc cd j xs ys cn cy _ tx t v) fun h i q1 q2 => go ys vs cy h i _ hys (by omega) hno q1 q2
    · have hye : (!(x == [])) = true := by simpa using hxe
      have hyes : (vs ++ [x]) ++ nonE (ws.drop (j + 1)) = vs ++ nonE (ws.drop j) := by
        rw [hdrop]
        have : x.isEmpty = false := by simpa using hxe
        simp [nonE, this]
      have hs' := hys.append (strs_one tx x)
      have hl' : (ys ++ [Value.str ⟨⟨x⟩⟩ tx]).length ≤ j + 1 := by simp only [List.length_append, List.length_cons, List.length_nil]; omega
      rcases X.cd with ⟨_, hcd⟩ | ⟨t, v, hcd⟩
      · exact run_fine (mkO true hye) (own _ hcd) (adv := [0, 1, 6, 5, 5, 5, 4, 5, 8, 1]) fun stk => fine_cut (runCFy_is w.params b c _ _ stk F W it acc cd j xs ys cn cy _ tx) fun h i q1 q2 => go _ _ _ h i _ hs' hl' hyes q1 q2
      · exact run_fine (mkO true hye) (own _ hcd) (adv := [0, 1, 6, 5, 5, 5, 4, 5, 8, 1]) fun stk => fine_cut (runCTy_is w.params b c _ _ stk F W it acc cd j xs ys cn cy _ tx t v) fun h i q1 q2 => go _ _ _ h i _ hs' hl' hyes q1 q2
end
end
section
theorem dueTurn_len (sent i : Bool) (a : Option Nat) (c : Nat) (d : List (List Nat)) (cur : List Nat) : (dueTurn sent i a c d cur).1.length ≤ d.length + 1 ∧ (dueTurn sent i a c d cur).2.length ≤ cur.length + 2 := by
  unfold dueTurn
  repeat' split
  all_goals simp
section
variable {w : World} {A : Around} {R : Result → Shared → Prop} {D : DX} {text : List Nat}
theorem loopD (OD : D.Ok text) (hA : A.depth + 300 ≤ recursionLimit) (hh0 : A.handled = none) {sent : Bool} (hs : ∀ c ∈ text, isSign c) : ∀ (rem : List Nat) (k : Nat) (s : Shared) (fr : Obj) (xs : List Value) (cn : Nat) (d : List (List Nat)) (cur : List Nat), text.drop k = rem → k ≤ text.length → Gr w s.heap → FrAt w.params D sent k fr → StrsAre xs (d ++ [cur]) → d.length + rem.length < 30000 → cur.length + 2 * rem.length < 1850 → DAt D s.heap fr xs cn k rem.length →
    (∀ h i fr' xs' cn' ws, StrsAre xs' ws → ws ≠ [] → ws.length ≤ 30000 → nonE ws = dueGo sent (finF false (text.take k)) (aheadO text k) rem d cur → FrAt w.params D sent text.length fr' → h.get? D.F = some fr' → h.get? D.W = some (listO xs' cn') → (∀ b o, s.heap.get? b = some o → b ∉ [D.F, D.W, D.I] → h.get? b = some o) → R (.ok .next) ⟨h, s.gens, s.drawn, i, s.os⟩) →
    codeAny (model theProg w) A (FL w.params D.F D.I) R s := by
  intro rem
  induction rem with
  | nil =>
    intro k s fr xs cn d cur hd hk G hfr hst hl1 hl2 X hR
    obtain ⟨h₀, g, dr, t₀, os⟩ := s
    have hke : k = text.length := by
      have := congrArg List.length hd
      simp only [List.length_drop, List.length_nil] at this
      omega
    subst hke
    have hb := fP_self w.params
    generalize w.params.followText "special-get-raises" = b at hb
    generalize w.params.followText "comprehension-iter-twice" = c at hb
    have eW : FL w.params D.F D.I = FL (fP w.params b c) D.F D.I := by rw [hb]
    rw [eW]
    have O := mkOk (A := A) (t₀ := t₀) (sps := []) (ini := [D.I]) G hb (by intro a ha; replace ha := memL ha; subst ha; exact OD.high _ (by first | trivial | simp)) (by omega) (fun sp hm => nomatch hm)
    rw [hh0] at O
    have hI : h₀.get? D.I = some (riO text.length 0) := X.I
    have ap := OD.apart
    simp only [List.nodup_cons, List.mem_cons, List.not_mem_nil, or_false, not_or] at ap
    refine run_fine O (mkHp (h := h₀) (own := [(D.I, riO text.length 0)]) (by intro p hp; replace hp := memL hp; subst hp; exact hI) (by first | trivial | simp)) (adv := [2, 1, 0, 1, 0, 1, 1, 1, 5, 2]) fun stk => fine_ret (runDE_is w.params b c _ _ stk D.F D.I _) fun h i hl hk' => ?_
    have kk : ∀ x o, h₀.get? x = some o → x ≠ D.I → h.get? x = some o := fun x o q z => hk' x o q (nmL z)
    refine hR h i fr xs cn (d ++ [cur]) hst (by first | trivial | simp) (by simp only [List.length_append, List.length_cons, List.length_nil]; simp only [List.length_nil] at hl1; omega) rfl hfr (kk _ _ X.F ap.1.2) (kk _ _ X.W ap.2.1) fun x o q z => kk x o q (fun y => z (by simp [y]))
  | cons c r ih =>
    intro k s fr xs cn d cur hd hk G hfr hst hl1 hl2 X hR
    obtain ⟨hc, hd', hlt⟩ := at_of_drop hd
    have hlx := hst.length
    simp only [List.length_append, List.length_cons, List.length_nil] at hlx hl1 hl2
    obtain ⟨q1, q2⟩ := dueTurn_len sent (finF false (text.take k)) (aheadO text k) c d cur
    have hsc : isSign c := hs c (List.mem_of_getElem? hc)
    have hX : DAt D s.heap fr xs cn k ((r.length : Int) + 1) := ⟨X.F, X.W, by have := X.I; simp only [List.length_cons] at this; exact this⟩
    refine due_turn OD G hA hh0 hsc hc (n := (r.length : Int) + 1) (by omega) hst (by omega) (by omega) hfr hX fun h i fr' xs' cn' hfr' hst' Y K => ?_
    have hfin : finF false (text.take (k + 1)) = flipF (finF false (text.take k)) c := by
      rw [List.take_add_one, hc]
      exact finF_append _ _ _
    have hao : aheadO text (k + 1) = some c := by
      unfold aheadO
      rw [if_neg (by omega), Nat.add_sub_cancel]
      exact hc
    have G' : Gr w h := G.keeps fun b o hlt' q => K b o q fun hm => absurd hlt' (Nat.not_lt.mpr (OD.high b hm))
    refine ih (k + 1) ⟨h, s.gens, s.drawn, i, s.os⟩ fr' xs' cn' _ _ hd' (by omega) G' (.inr hfr') hst' (by omega) (by omega) ⟨Y.F, Y.W, by have := Y.I; rw [Int.add_sub_cancel] at this; exact this⟩ fun h2 i2 fr2 xs2 cn2 ws w1 w2 w3 w4 w5 w6 w7 w8 => ?_
    refine hR h2 i2 fr2 xs2 cn2 ws w1 w2 w3 ?_ w5 w6 w7 fun b o q z => w8 b o (K b o q z) z
    rw [w4, hfin, hao]
    rfl
end
end
section
section
variable {prog : Program} {w : World} {A : Around} {s : Shared}
theorem SqHeap.of_push {h : Heap} {o : Obj} (hf : o.isFreed = false) : SqHeap none [o] h (h.push o) :=
  ⟨Heap.size_push .., fun k o' e => by
    cases k with
    | zero => cases e; exact Heap.get?_push_size _ hf
    | succ k => simp at e, fun _ _ _ e => (by cases e), fun b o' e _ => Heap.get?_push_of_some _ e⟩
theorem ansq_range (n : Nat) (t a c m : Nat) (hn : n < 100000) (ha : s.toks = a) (hc : s.toks + 1 = c) (hm : s.heap.objs.size = m) : AnsQ prog w A s (.call (.type "range") ⟨[.int n t], []⟩) none [rgO n a t c] (.ref m) 2 := by
  subst ha hc hm
  exact call_range_1 ⟨rfl, _, SqHeap.of_push rfl, rfl⟩
theorem riter_gen (r : Addr) (x y z : Int) (a b c : Nat) (hsmall : Builtin.Range.small x y z = true) (hr : IsRange s.heap r x y z a b c) : AnsQ prog w A s (bi "range.__iter__" [.ref r]) none [{ cls := .type "range_iterator", data := .fields #[rawInt x, rawInt (Builtin.Range.rangeSize x y z), rawInt z] }] (.ref s.heap.objs.size) 0 := by
  refine call_meets F.slot_range_iter (T := "range") ⟨_, hr, rfl⟩ F.entry_range_iter (F.args_range_iter_1 _)
    (AutoRange.range___iter___range_1 r x y z a b c (by unfold Builtin.Range.small at hsmall; simp [hsmall])) ⟨hr, ?_⟩
  unfold Builtin.Range.small at hsmall
  simp only [hsmall, if_true]
  exact ⟨rfl, _, SqHeap.of_push rfl, rfl⟩
theorem ansq_riter (r : Addr) (n : Nat) (a b c m : Nat) (hn : n < 100000) (hr : s.heap.get? r = some (rgO n a b c)) (hm : s.heap.objs.size = m) : AnsQ prog w A s (bi "range.__iter__" [.ref r]) none [riO 0 n] (.ref m) 0 := by
  subst hm
  have hz : Builtin.Range.rangeSize 0 n 1 = n := by
    rw [rangeSize_one]
    split <;> omega
  have hsmall : Builtin.Range.small 0 n 1 = true := by
    unfold Builtin.Range.small
    rw [hz]
    have f : ∀ i : Int, -1000000 ≤ i → i ≤ 1000000 → Builtin.Range.rangeFitsLong i = true := fun i h1 h2 => by
      unfold Builtin.Range.rangeFitsLong
      simp only [Bool.and_eq_true, decide_eq_true_eq]
      omega
    rw [f 0 (by omega) (by omega), f n (by omega) (by omega), f 1 (by omega) (by omega), f (n + (1 - 1)) (by omega) (by omega)]
    simp
  have := riter_gen (prog := prog) (w := w) (A := A) r 0 n 1 a b c hsmall hr
  rw [hz] at this
  exact this
end
end
section
theorem last_is {text : List Nat} {n : Nat} (hn : n = text.length) : (text.drop (n - 1)).take (n - (n - 1)) = text.getLast?.toList := by
  subst hn
  rcases List.eq_nil_or_concat text with rfl | ⟨l', c, rfl⟩
  · rfl
  · rw [List.concat_eq_append]
    simp
theorem fin_flip {text : List Nat} (h : text.getLast? = some 92) : finF false text = !(finF false (text.take (text.length - 1))) := by
  rcases List.eq_nil_or_concat text with rfl | ⟨l', c, rfl⟩
  · cases h
  · rw [List.concat_eq_append] at h ⊢
    have hc : c = 92 := by simpa using h
    subst hc
    rw [finF_append]
    simp [flipF]
section
variable {w : World} {R : Result → Shared → Prop}
theorem due_is {A : Around} (hA : A.depth + 400 ≤ recursionLimit) (hh0 : A.handled = none) {s : Shared} (G : Gr w s.heap) (text : List Nat) (tb : Nat) (sent : Bool) (hs : ∀ c ∈ text, isSign c) (hl : text.length < 800)
    (hR : ∀ ws, dueF sent text = some ws → ∀ h i l vs c', s.heap.get? l = none → 781 ≤ l → StrsAre vs ws → h.get? l = some (listO vs c') → (∀ b o, s.heap.get? b = some o → h.get? b = some o) → R (.ok (.ret (.ref l))) ⟨h, s.gens, s.drawn, i, s.os⟩)
    (hE : dueF sent text = none → ∀ h i tk, (∀ b o, s.heap.get? b = some o → h.get? b = some o) → R (.ok (.ret (.str noEsc tk))) ⟨h, s.gens, s.drawn, i, s.os⟩) :
    codeAny (model theProg w) A (dueC ⟨⟨text⟩⟩ tb sent) R s := by
  obtain ⟨h₀, g, dr, t₀, os⟩ := s
  have hb := fP_self w.params
  generalize w.params.followText "special-get-raises" = b at hb
  generalize w.params.followText "comprehension-iter-twice" = c at hb
  have h7 : 781 ≤ h₀.objs.size := size781 G
  have hi7 : ∀ j, 781 ≤ h₀.objs.size + j := fun j => Nat.le_trans h7 (Nat.le_add_right ..)
  have hnew : ∀ (h : Heap) (j : Nat), (∀ b o, h₀.get? b = some o → h.get? b = some o) → h₀.get? (h.objs.size + j) = none := fun h j k => by
    cases q : h₀.get? (h.objs.size + j) with
    | none => rfl
    | some o => exact absurd (Heap.lt_size (k _ _ q)) (Nat.not_lt.mpr (Nat.le_add_right ..))
  have old : ∀ (h : Heap) (j : Nat) a o, (∀ b o, h₀.get? b = some o → h.get? b = some o) → h₀.get? a = some o → a ≠ h.objs.size + j := fun h j a o k q z => by
    rw [z, hnew h j k] at q; cases q
  have nil : ∀ h : Heap, Hp [] h h [] 0 := fun h => mkHp (h := h) (own := []) (fun _ h => nomatch h) List.nodup_nil
  have nilb : ∀ a ∈ ([] : List Addr), ∀ o, (ktb w.params).get a ≠ some o := fun _ h => nomatch h
  generalize hla : (text.drop (text.length - 1)).take (text.length - (text.length - 1)) = la
  have hla' : la = text.getLast?.toList := hla ▸ last_is rfl
  generalize htl : (if text.length - (text.length - 1) = text.length then tb else t₀ + 4) = tl
  generalize hd1 : (if text.length - (text.length - 1) = text.length then 0 else 1) = d1
  have hcut : ∀ (A : Around) (s : Shared) (a : Addr), s.heap.get? a = some (slLast (t₀ + 3)) → s.toks = t₀ + 4 → Ans theProg w A s (bi "str.__getitem__" [.str ⟨⟨text⟩⟩ tb, .ref a]) (.str ⟨⟨la⟩⟩ tl) d1 := fun A s a ha ht => by
    have := ans_cut (prog := theProg) (w := w) (A := A) (s := s) text tb (t₀ + 4) a (some (-1, t₀ + 3)) none (text.length - 1) text.length (by omega) (Nat.le_refl _) (range_last _) (by omega) ht ⟨_, ha, rfl, rfl⟩
    rw [hla, htl, hd1] at this
    exact this
  by_cases hbs : text.getLast? = some 92
  · -- the last sign is a backslash
    have hn0 : text ≠ [] := fun q => by rw [q] at hbs; cases hbs
    have hpos : 0 < text.length := List.length_pos_iff.mpr hn0
    have hlae : la = [92] := by rw [hla', hbs]; rfl
    have O1 := mkOkQ (A := A) (t₀ := t₀) (ini := []) (sps := spB (fun m => h₀.objs.size + m) (fun i => t₀ + i) ⟨⟨text⟩⟩ tb ⟨⟨la⟩⟩ tl d1 text.length ((text.length - 1 : Nat) : Int)) (sqs := []) G hb nilb (by omega) (by
      intro sp hm
      replace hm := memL hm
      rcases hm with rfl | rfl | rfl | rfl <;> intro A s hn ht
      · exact hcut A s _ (hn _ (List.mem_singleton.mpr rfl)) ht
      · exact ans_streq _ _ _ _ _ (by rw [hlae]; rfl)
      · exact ans_len _ _ _ (by show text.length < 1000; omega) (by rw [ht]; rfl)
      · have := ans_sub (prog := theProg) (w := w) (A := A) (s := s) (text.length : Int) 1 (t₀ + (4 + d1 + 2)) (t₀ + (4 + d1 + 3)) _ ht
        have e : ((text.length : Int) - 1) = ((text.length - 1 : Nat) : Int) := by omega
        rw [e] at this
        exact this) (fun _ h => nomatch h)
    rw [hh0] at O1
    refine run_fine O1 (nil h₀) (adv := advB) fun stk => fine_call (runB_is w.params b c _ _ stk ⟨⟨text⟩⟩ tb sent ⟨⟨la⟩⟩ tl d1 text.length _) fun A1 R1 h1 i1 hdep1 hh1 hl1 hk1 hcont1 => ?_
    have k1 : ∀ b o, h₀.get? b = some o → h1.get? b = some o := fun x o q => hk1 x o q (by first | trivial | simp)
    have G1 : Gr w h1 := G.keeps fun b o _ q => k1 b o q
    have f1 : h1.get? (h₀.objs.size + 0) = some (fr2 w.params (fun i => t₀ + i) ⟨⟨text⟩⟩ tb sent) := hl1 _ (List.mem_cons_self ..)
    refine itself_is (A := A1) (s := ⟨h1, g, dr, i1, os⟩) (by omega) G1 text tb (by omega) (text.length - 1) _ (by omega) fun h2 i2 k2 => ?_
    have k02 : ∀ b o, h₀.get? b = some o → h2.get? b = some o := fun x o q => k2 x o (k1 x o q)
    have G2 : Gr w h2 := G1.keeps fun b o _ q => k2 b o q
    have hff := fin_flip hbs
    cases hit : finF false (text.take (text.length - 1)) with
    | false =>
      rw [hit] at hff
      have O2 := mkOk (A := A) (t₀ := i2) (sps := []) (ini := []) G2 hb (fun _ h => nomatch h) (by omega) (fun sp hm => nomatch hm)
      rw [hh0] at O2
      refine hcont1 _ h2 i2 (cfgH w b c h2 i2 none []) [] [] [] rfl O2 (nil h2) fun stk2 => ?_
      refine fine_ret (runBN_is w.params b c _ _ _ _ stk stk2 ⟨⟨text⟩⟩ tb sent ⟨⟨la⟩⟩ tl d1 text.length _) fun h3 i3 hl3 hk3 => ?_
      exact hE (by unfold dueF; rw [hff]; rfl) h3 i3 _ fun x o q => hk3 x o (k02 x o q) (by first | trivial | simp)
    | true =>
      rw [hit] at hff
      have O2 := mkOkQ (A := A) (t₀ := i2) (ini := [h₀.objs.size + 0]) (sps := spB2 (fun i => i2 + i) ⟨⟨text⟩⟩ tb text.length) (sqs := sqB2 (fun m => h2.objs.size + m) (fun i => i2 + i) text.length) G2 hb (by
        intro a ha o ho
        replace ha := memL ha
        subst ha
        exact absurd (base_lt G.inn ho) (Nat.not_lt.mpr (hi7 0))) (by omega) (by
        intro sp hm
        replace hm := memL hm
        subst hm
        intro A s hn ht
        exact ans_len _ _ _ (by show text.length < 1000; omega) (by rw [ht]; rfl)) (by
        intro sq hm
        replace hm := memL hm
        rcases hm with rfl | rfl <;> intro A s hn ht hm
        · exact ansq_range text.length _ _ _ _ (by omega) ht (by rw [ht]; rfl) hm
        · exact ansq_riter _ text.length _ _ _ _ (by omega) (hn _ (List.mem_singleton.mpr rfl)) hm)
      rw [hh0] at O2
      refine hcont1 _ h2 i2 (cfgHQ w b c h2 i2 none (spB2 (fun i => i2 + i) ⟨⟨text⟩⟩ tb text.length) (sqB2 (fun m => h2.objs.size + m) (fun i => i2 + i) text.length)) [(h₀.objs.size + 0, fr2 w.params (fun i => t₀ + i) ⟨⟨text⟩⟩ tb sent)] _ advB2 rfl O2 (mkHp (h := h2) (own := [(h₀.objs.size + 0, fr2 w.params (fun i => t₀ + i) ⟨⟨text⟩⟩ tb sent)]) (by intro p hp; replace hp := memL hp; subst hp; exact k2 _ _ f1) (by first | trivial | simp)) fun stk2 => ?_
      refine fine_call (runB2_is w.params b c (fun m => h₀.objs.size + m) (fun i => t₀ + i) _ _ stk stk2 ⟨⟨text⟩⟩ tb sent ⟨⟨la⟩⟩ tl d1 text.length _) fun A3 R3 h3 i3 hdep3 hh3 hl3 hk3 hcont3 => ?_
      have kk3 : ∀ b o, h2.get? b = some o → b ≠ h₀.objs.size + 0 → h3.get? b = some o := fun x o q z => hk3 x o q (by simpa using z)
      have k03 : ∀ b o, h₀.get? b = some o → h3.get? b = some o := fun x o q => kk3 x o (k02 x o q) (old h₀ 0 x o (fun _ _ z => z) q)
      have G3 : Gr w h3 := G.keeps fun b o _ q => k03 b o q
      have f3 := hl3 _ (List.mem_cons_self ..)
      have w3 := hl3 _ (List.mem_cons_of_mem _ (List.mem_cons_self ..))
      have r3 := hl3 _ (List.mem_cons_of_mem _ (List.mem_cons_of_mem _ (List.mem_cons_self ..)))
      have hlt : h₀.objs.size + 0 < h2.objs.size := Heap.lt_size (k2 _ _ f1)
      have OD : (dxB (fun m => h₀.objs.size + m) (fun i => t₀ + i) (fun m => h2.objs.size + m) (fun i => i2 + i) ⟨⟨text⟩⟩ tb).Ok text := by
        refine ⟨?_, ?_, rfl, by omega⟩
        · show [h₀.objs.size + 0, h2.objs.size + 0, h2.objs.size + 2].Nodup
          refine ndL ?_
          exact ⟨⟨nlt 0 hlt, nlt 2 hlt⟩, npl _ 0 2 (by decide)⟩
        · intro a ha
          have ha' : a ∈ [h₀.objs.size + 0, h2.objs.size + 0, h2.objs.size + 2] := ha
          replace ha' := memL ha'
          have h2s := size781 G2
          rcases ha' with rfl | rfl | rfl
          · exact hi7 0
          · exact Nat.le_trans h2s (Nat.le_add_right ..)
          · exact Nat.le_trans h2s (Nat.le_add_right ..)
      have eW : FL (fP w.params b c) (h₀.objs.size + 0) (h2.objs.size + 2) = FL w.params (h₀.objs.size + 0) (h2.objs.size + 2) := by rw [hb]
      show codeAny (model theProg w) A3 (FL (fP w.params b c) (h₀.objs.size + 0) (h2.objs.size + 2)) R3 _
      rw [eW]
      refine loopD (D := dxB (fun m => h₀.objs.size + m) (fun i => t₀ + i) (fun m => h2.objs.size + m) (fun i => i2 + i) ⟨⟨text⟩⟩ tb) OD (by omega) (hh3.trans hh0) hs text 0 ⟨h3, g, dr, i3, os⟩ _ _ 0 [] [] rfl (Nat.zero_le _) G3 (.inl ⟨rfl, rfl⟩) (strs_one _ []) (by simp only [List.length_nil]; omega) (by simp only [List.length_nil]; omega) ⟨f3, w3, r3⟩ fun h4 i4 fr' xs' cn' ws q1 q2 q2' q3 q4 q5 q6 q7 => ?_
      have F5 : h4.get? (h₀.objs.size + 0) = some fr' := q5
      have W5 : h4.get? (h2.objs.size + 0) = some (listO xs' cn') := q6
      obtain ⟨t4, t5, t6, k', tk', it', ah', ta', rfl⟩ : Fr6 w.params (dxB (fun m => h₀.objs.size + m) (fun i => t₀ + i) (fun m => h2.objs.size + m) (fun i => i2 + i) ⟨⟨text⟩⟩ tb) sent fr' := by
        rcases q4 with ⟨z, _⟩ | z
        · omega
        · exact z
      have k04 : ∀ b o, h₀.get? b = some o → h4.get? b = some o := fun x o q => q7 x o (k03 x o q) (by
        show x ∉ [h₀.objs.size + 0, h2.objs.size + 0, h2.objs.size + 2]
        refine nmL ?_
        exact ⟨old h₀ 0 x o (fun _ _ z => z) q, old h2 0 x o k02 q, old h2 2 x o k02 q⟩)
      have G4 : Gr w h4 := G.keeps fun b o _ q => k04 b o q
      have hneFW : h₀.objs.size + 0 ≠ h2.objs.size + 0 := nlt 0 hlt
      have O4 := mkOk (A := A) (t₀ := i4) (sps := []) (ini := [h₀.objs.size + 0, h2.objs.size + 0]) G4 hb (by
        intro a ha
        replace ha := memL ha
        rcases ha with rfl | rfl
        · exact hi7 0
        · exact Nat.le_trans (size781 G2) (Nat.le_add_right ..)) (by omega) (fun sp hm => nomatch hm)
      rw [hh0] at O4
      refine hcont3 (.ok .next) h4 i4 (cfgH w b c h4 i4 none []) _ _ (advC1 c) rfl O4 (mkHp (h := h4) (own := [(h₀.objs.size + 0, fr6 w.params (dxB (fun m => h₀.objs.size + m) (fun i => t₀ + i) (fun m => h2.objs.size + m) (fun i => i2 + i) ⟨⟨text⟩⟩ tb) sent t4 t5 t6 k' tk' it' ah' ta'), (h2.objs.size + 0, listO xs' cn')]) (by
        intro p hp
        replace hp := memL hp
        rcases hp with rfl | rfl
        · exact F5
        · exact W5) (by
        simp only [List.map_cons, List.map_nil, List.nodup_cons, List.mem_cons, List.not_mem_nil, or_false, List.nodup_nil, and_true, not_false_iff]
        exact hneFW)) fun stk4 => ?_
      refine fine_call (runBC6_is w.params b c (fun m => h₀.objs.size + m) (fun i => t₀ + i) (fun m => h2.objs.size + m) (fun i => i2 + i) _ _ stk stk2 stk4 ⟨⟨text⟩⟩ tb sent ⟨⟨la⟩⟩ tl d1 text.length _ xs' cn' t4 t5 t6 k' tk' it' ah' ta') fun A5 R5 h5 i5 hdep5 hh5 hl5 hk5 hcont5 => ?_
      have g0 := hl5 _ (List.mem_cons_self ..)
      have g1 := hl5 _ (List.mem_cons_of_mem _ (List.mem_cons_self ..))
      have g2 := hl5 _ (List.mem_cons_of_mem _ (List.mem_cons_of_mem _ (List.mem_cons_self ..)))
      have g3 := hl5 _ (List.mem_cons_of_mem _ (List.mem_cons_of_mem _ (List.mem_cons_of_mem _ (List.mem_cons_self ..))))
      have k05 : ∀ b o, h₀.get? b = some o → h5.get? b = some o := fun x o q => hk5 x o (k04 x o q) (by
        simp only [List.map_cons, List.map_nil, List.mem_cons, List.not_mem_nil, or_false, not_or]
        exact ⟨old h₀ 0 x o (fun _ _ z => z) q, old h2 0 x o k02 q⟩)
      have G5 : Gr w h5 := G.keeps fun b o _ q => k05 b o q
      have hlt4 : h2.objs.size + 0 < h4.objs.size := Heap.lt_size W5
      have h4s := size781 G4
      have eC : CL (fP w.params b c) (h₀.objs.size + 0) (h4.objs.size + 0) (h4.objs.size + 1) (h4.objs.size + 2) = CL w.params (h₀.objs.size + 0) (h4.objs.size + 0) (h4.objs.size + 1) (h4.objs.size + 2) := by rw [hb]
      show codeAny (model theProg w) A5 (CL (fP w.params b c) (h₀.objs.size + 0) (h4.objs.size + 0) (h4.objs.size + 1) (h4.objs.size + 2)) R5 _
      rw [eC]
      refine compD (F := h₀.objs.size + 0) (W := h2.objs.size + 0) (it := h4.objs.size + 0) (acc := h4.objs.size + 1) (cd := h4.objs.size + 2) (by omega) (hh5.trans hh0) ?_ ?_ q1 (by rw [q1.length]; omega) xs'.length ⟨h5, g, dr, i5, os⟩ true 0 [] [] 0 (by omega) (fun _ => by rw [q1.length]; exact List.length_pos_iff.mpr q2) G5 ⟨g1, g2, .inl ⟨rfl, g3⟩, g0⟩ trivial (Nat.le_refl _) fun h6 i6 ys' cy' t v z1 z2 z3 z4 => ?_
      · refine ndL ?_
        exact ⟨⟨npl _ 0 1 (by decide), npl _ 0 2 (by decide), fun z => nlt 0 hlt4 z.symm⟩, ⟨npl _ 1 2 (by decide), fun z => nlt 1 hlt4 z.symm⟩, fun z => nlt 2 hlt4 z.symm⟩
      · intro a ha
        replace ha := memL ha
        rcases ha with rfl | rfl | rfl | rfl
        · exact Nat.le_trans h4s (Nat.le_add_right ..)
        · exact Nat.le_trans h4s (Nat.le_add_right ..)
        · exact Nat.le_trans h4s (Nat.le_add_right ..)
        · exact Nat.le_trans (size781 G2) (Nat.le_add_right ..)
      · have k06 : ∀ b o, h₀.get? b = some o → h6.get? b = some o := fun x o q => z4 x o (k05 x o q) (by
          refine nmL ?_
          exact ⟨old h4 0 x o k04 q, old h4 1 x o k04 q, old h4 2 x o k04 q⟩)
        have G6 : Gr w h6 := G.keeps fun b o _ q => k06 b o q
        have O6 := mkOk (A := A) (t₀ := i6) (sps := []) (ini := [h4.objs.size + 2]) G6 hb (by
          intro a ha
          replace ha := memL ha
          subst ha
          exact Nat.le_trans h4s (Nat.le_add_right ..)) (by omega) (fun sp hm => nomatch hm)
        rw [hh0] at O6
        refine hcont5 (.ok .next) h6 i6 (cfgH w b c h6 i6 none []) _ _ [1, 1, 1] rfl O6 (mkHp (h := h6) (own := [(h4.objs.size + 2, cdW w.params t v)]) (by intro p hp; replace hp := memL hp; subst hp; exact z3) (by first | trivial | simp)) fun stk6 => ?_
        refine fine_ret (runBR6_is w.params b c (fun m => h₀.objs.size + m) (fun i => t₀ + i) (fun m => h2.objs.size + m) (fun i => i2 + i) (fun m => h4.objs.size + m) (fun i => i4 + i) _ _ stk stk2 stk4 stk6 ⟨⟨text⟩⟩ tb sent ⟨⟨la⟩⟩ tl d1 text.length _ xs' cn' t4 t5 t6 k' tk' it' ah' ta' t v) fun h7' i7 hl7 hk7 => ?_
        have hdf : dueF sent text = some (nonE ws) := by
          unfold dueF
          rw [hff, q3]
          rfl
        refine hR (nonE ws) hdf h7' i7 (h4.objs.size + 1) ys' cy' (hnew h4 1 k04) (Nat.le_trans h4s (Nat.le_add_right ..)) (by simpa using z1) (hk7 _ _ z2 (by first | trivial | simp)) fun x o q => hk7 x o (k06 x o q) (by
          simp only [List.mem_cons, List.not_mem_nil, or_false]
          exact old h4 2 x o k04 q)
  · -- the last sign is none
    have hff : finF false text = false := by
      cases q : finF false text with
      | false => rfl
      | true => exact absurd (fin_last q) hbs
    have hlae : (la == [92]) = false := by
      rw [hla']
      cases q : text.getLast? with
      | none => rfl
      | some x =>
        have : x ≠ 92 := fun z => hbs (by rw [q, z])
        simpa using this
    have O1 := mkOkQ (A := A) (t₀ := t₀) (ini := []) (sps := spA (fun m => h₀.objs.size + m) (fun i => t₀ + i) ⟨⟨text⟩⟩ tb ⟨⟨la⟩⟩ tl d1 text.length) (sqs := sqA (fun m => h₀.objs.size + m) (fun i => t₀ + i) d1 text.length) G hb nilb (by omega) (by
      intro sp hm
      replace hm := memL hm
      rcases hm with rfl | rfl | rfl <;> intro A s hn ht
      · exact hcut A s _ (hn _ (List.mem_singleton.mpr rfl)) ht
      · exact ans_streq _ _ _ _ _ (by rw [← hlae])
      · exact ans_len _ _ _ (by show text.length < 1000; omega) (by rw [ht]; rfl)) (by
        intro sq hm
        replace hm := memL hm
        rcases hm with rfl | rfl <;> intro A s hn ht hm
        · exact ansq_range text.length _ _ _ _ (by omega) ht (by rw [ht]; rfl) hm
        · exact ansq_riter _ text.length _ _ _ _ (by omega) (hn _ (List.mem_singleton.mpr rfl)) hm)
    rw [hh0] at O1
    refine run_fine O1 (nil h₀) (adv := advA) fun stk => fine_call (runA_is w.params b c _ _ stk ⟨⟨text⟩⟩ tb sent ⟨⟨la⟩⟩ tl d1 text.length) fun A3 R3 h3 i3 hdep3 hh3 hl3 hk3 hcont3 => ?_
    have k03 : ∀ b o, h₀.get? b = some o → h3.get? b = some o := fun x o q => hk3 x o q (by first | trivial | simp)
    have G3 : Gr w h3 := G.keeps fun b o _ q => k03 b o q
    have f3 := hl3 _ (List.mem_cons_self ..)
    have w3 := hl3 _ (List.mem_cons_of_mem _ (List.mem_cons_self ..))
    have r3 := hl3 _ (List.mem_cons_of_mem _ (List.mem_cons_of_mem _ (List.mem_cons_self ..)))
    have OD : (dxA (fun m => h₀.objs.size + m) (fun i => t₀ + i) ⟨⟨text⟩⟩ tb d1).Ok text := by
      refine ⟨?_, ?_, rfl, by omega⟩
      · show [h₀.objs.size + 0, h₀.objs.size + 2, h₀.objs.size + 4].Nodup
        refine ndL ?_
        exact ⟨⟨npl _ 0 2 (by decide), npl _ 0 4 (by decide)⟩, npl _ 2 4 (by decide)⟩
      · intro a ha
        have ha' : a ∈ [h₀.objs.size + 0, h₀.objs.size + 2, h₀.objs.size + 4] := ha
        replace ha' := memL ha'
        rcases ha' with rfl | rfl | rfl <;> exact hi7 _
    have eW : FL (fP w.params b c) (h₀.objs.size + 0) (h₀.objs.size + 4) = FL w.params (h₀.objs.size + 0) (h₀.objs.size + 4) := by rw [hb]
    show codeAny (model theProg w) A3 (FL (fP w.params b c) (h₀.objs.size + 0) (h₀.objs.size + 4)) R3 _
    rw [eW]
    refine loopD (D := dxA (fun m => h₀.objs.size + m) (fun i => t₀ + i) ⟨⟨text⟩⟩ tb d1) OD (by omega) (hh3.trans hh0) hs text 0 ⟨h3, g, dr, i3, os⟩ _ _ 0 [] [] rfl (Nat.zero_le _) G3 (.inl ⟨rfl, rfl⟩) (strs_one _ []) (by simp only [List.length_nil]; omega) (by simp only [List.length_nil]; omega) ⟨f3, w3, r3⟩ fun h4 i4 fr' xs' cn' ws q1 q2 q2' q3 q4 q5 q6 q7 => ?_
    have F5 : h4.get? (h₀.objs.size + 0) = some fr' := q5
    have W5 : h4.get? (h₀.objs.size + 2) = some (listO xs' cn') := q6
    have k04 : ∀ b o, h₀.get? b = some o → h4.get? b = some o := fun x o q => q7 x o (k03 x o q) (by
      show x ∉ [h₀.objs.size + 0, h₀.objs.size + 2, h₀.objs.size + 4]
      refine nmL ?_
      exact ⟨old h₀ 0 x o (fun _ _ z => z) q, old h₀ 2 x o (fun _ _ z => z) q, old h₀ 4 x o (fun _ _ z => z) q⟩)
    have G4 : Gr w h4 := G.keeps fun b o _ q => k04 b o q
    have O4 := mkOk (A := A) (t₀ := i4) (sps := []) (ini := [h₀.objs.size + 0, h₀.objs.size + 2]) G4 hb (by
      intro a ha
      replace ha := memL ha
      rcases ha with rfl | rfl <;> exact hi7 _) (by omega) (fun sp hm => nomatch hm)
    rw [hh0] at O4
    have hdf : dueF sent text = some (nonE ws) := by
      unfold dueF
      rw [hff, q3]
      rfl
    have hlt4 : h₀.objs.size + 2 < h4.objs.size := Heap.lt_size W5
    have h4s := size781 G4
    rcases q4 with ⟨_, rfl⟩ | ⟨t4, t5, t6, k', tk', it', ah', ta', rfl⟩
    · refine hcont3 (.ok .next) h4 i4 (cfgH w b c h4 i4 none []) _ _ (advC1 c) rfl O4 (mkHp (h := h4) (own := [(h₀.objs.size + 0, fr3 w.params (dxA (fun m => h₀.objs.size + m) (fun i => t₀ + i) ⟨⟨text⟩⟩ tb d1) sent), (h₀.objs.size + 2, listO xs' cn')]) (by
        intro p hp
        replace hp := memL hp
        rcases hp with rfl | rfl
        · exact F5
        · exact W5) (by
        simp only [List.map_cons, List.map_nil, List.nodup_cons, List.mem_cons, List.not_mem_nil, or_false, List.nodup_nil, and_true, not_false_iff]
        exact npl _ 0 2 (by decide))) fun stk4 => ?_
      refine fine_call (runAC3_is w.params b c (fun m => h₀.objs.size + m) (fun i => t₀ + i) _ _ stk stk4 ⟨⟨text⟩⟩ tb sent ⟨⟨la⟩⟩ tl d1 text.length xs' cn') fun A5 R5 h5 i5 hdep5 hh5 hl5 hk5 hcont5 => ?_
      have g0 := hl5 _ (List.mem_cons_self ..)
      have g1 := hl5 _ (List.mem_cons_of_mem _ (List.mem_cons_self ..))
      have g2 := hl5 _ (List.mem_cons_of_mem _ (List.mem_cons_of_mem _ (List.mem_cons_self ..)))
      have g3 := hl5 _ (List.mem_cons_of_mem _ (List.mem_cons_of_mem _ (List.mem_cons_of_mem _ (List.mem_cons_self ..))))
      have k05 : ∀ b o, h₀.get? b = some o → h5.get? b = some o := fun x o q => hk5 x o (k04 x o q) (by
        simp only [List.map_cons, List.map_nil, List.mem_cons, List.not_mem_nil, or_false, not_or]
        exact ⟨old h₀ 0 x o (fun _ _ z => z) q, old h₀ 2 x o (fun _ _ z => z) q⟩)
      have G5 : Gr w h5 := G.keeps fun b o _ q => k05 b o q
      have eC : CL (fP w.params b c) (h₀.objs.size + 0) (h4.objs.size + 0) (h4.objs.size + 1) (h4.objs.size + 2) = CL w.params (h₀.objs.size + 0) (h4.objs.size + 0) (h4.objs.size + 1) (h4.objs.size + 2) := by rw [hb]
      show codeAny (model theProg w) A5 (CL (fP w.params b c) (h₀.objs.size + 0) (h4.objs.size + 0) (h4.objs.size + 1) (h4.objs.size + 2)) R5 _
      rw [eC]
      refine compD (F := h₀.objs.size + 0) (W := h₀.objs.size + 2) (it := h4.objs.size + 0) (acc := h4.objs.size + 1) (cd := h4.objs.size + 2) (by omega) (hh5.trans hh0) ?_ ?_ q1 (by rw [q1.length]; omega) xs'.length ⟨h5, g, dr, i5, os⟩ true 0 [] [] 0 (by omega) (fun _ => by rw [q1.length]; exact List.length_pos_iff.mpr q2) G5 ⟨g1, g2, .inl ⟨rfl, g3⟩, g0⟩ trivial (Nat.le_refl _) fun h6 i6 ys' cy' t v z1 z2 z3 z4 => ?_
      · refine ndL ?_
        exact ⟨⟨npl _ 0 1 (by decide), npl _ 0 2 (by decide), fun z => nlt 0 hlt4 z.symm⟩, ⟨npl _ 1 2 (by decide), fun z => nlt 1 hlt4 z.symm⟩, fun z => nlt 2 hlt4 z.symm⟩
      · intro a ha
        replace ha := memL ha
        rcases ha with rfl | rfl | rfl | rfl
        · exact Nat.le_trans h4s (Nat.le_add_right ..)
        · exact Nat.le_trans h4s (Nat.le_add_right ..)
        · exact Nat.le_trans h4s (Nat.le_add_right ..)
        · exact hi7 2
      · have k06 : ∀ b o, h₀.get? b = some o → h6.get? b = some o := fun x o q => z4 x o (k05 x o q) (by
          refine nmL ?_
          exact ⟨old h4 0 x o k04 q, old h4 1 x o k04 q, old h4 2 x o k04 q⟩)
        have G6 : Gr w h6 := G.keeps fun b o _ q => k06 b o q
        have O6 := mkOk (A := A) (t₀ := i6) (sps := []) (ini := [h4.objs.size + 2]) G6 hb (by
          intro a ha
          replace ha := memL ha
          subst ha
          exact Nat.le_trans h4s (Nat.le_add_right ..)) (by omega) (fun sp hm => nomatch hm)
        rw [hh0] at O6
        refine hcont5 (.ok .next) h6 i6 (cfgH w b c h6 i6 none []) _ _ [1, 1, 1] rfl O6 (mkHp (h := h6) (own := [(h4.objs.size + 2, cdW w.params t v)]) (by intro p hp; replace hp := memL hp; subst hp; exact z3) (by first | trivial | simp)) fun stk6 => ?_
        refine fine_ret (runAR3_is w.params b c (fun m => h₀.objs.size + m) (fun i => t₀ + i) (fun m => h4.objs.size + m) (fun i => i4 + i) _ _ stk stk4 stk6 ⟨⟨text⟩⟩ tb sent ⟨⟨la⟩⟩ tl d1 text.length xs' cn' t v) fun h7' i7 hl7 hk7 => ?_
        refine hR (nonE ws) hdf h7' i7 (h4.objs.size + 1) ys' cy' (hnew h4 1 k04) (Nat.le_trans h4s (Nat.le_add_right ..)) (by simpa using z1) (hk7 _ _ z2 (by first | trivial | simp)) fun x o q => hk7 x o (k06 x o q) (by
          simp only [List.mem_cons, List.not_mem_nil, or_false]
          exact old h4 2 x o k04 q)
    · refine hcont3 (.ok .next) h4 i4 (cfgH w b c h4 i4 none []) _ _ (advC1 c) rfl O4 (mkHp (h := h4) (own := [(h₀.objs.size + 0, fr6 w.params (dxA (fun m => h₀.objs.size + m) (fun i => t₀ + i) ⟨⟨text⟩⟩ tb d1) sent t4 t5 t6 k' tk' it' ah' ta'), (h₀.objs.size + 2, listO xs' cn')]) (by
        intro p hp
        replace hp := memL hp
        rcases hp with rfl | rfl
        · exact F5
        · exact W5) (by
        simp only [List.map_cons, List.map_nil, List.nodup_cons, List.mem_cons, List.not_mem_nil, or_false, List.nodup_nil, and_true, not_false_iff]
        exact npl _ 0 2 (by decide))) fun stk4 => ?_
      refine fine_call (runAC6_is w.params b c (fun m => h₀.objs.size + m) (fun i => t₀ + i) _ _ stk stk4 ⟨⟨text⟩⟩ tb sent ⟨⟨la⟩⟩ tl d1 text.length xs' cn' t4 t5 t6 k' tk' it' ah' ta') fun A5 R5 h5 i5 hdep5 hh5 hl5 hk5 hcont5 => ?_
      have g0 := hl5 _ (List.mem_cons_self ..)
      have g1 := hl5 _ (List.mem_cons_of_mem _ (List.mem_cons_self ..))
      have g2 := hl5 _ (List.mem_cons_of_mem _ (List.mem_cons_of_mem _ (List.mem_cons_self ..)))
      have g3 := hl5 _ (List.mem_cons_of_mem _ (List.mem_cons_of_mem _ (List.mem_cons_of_mem _ (List.mem_cons_self ..))))
      have k05 : ∀ b o, h₀.get? b = some o → h5.get? b = some o := fun x o q => hk5 x o (k04 x o q) (by
        simp only [List.map_cons, List.map_nil, List.mem_cons, List.not_mem_nil, or_false, not_or]
        exact ⟨old h₀ 0 x o (fun _ _ z => z) q, old h₀ 2 x o (fun _ _ z => z) q⟩)
      have G5 : Gr w h5 := G.keeps fun b o _ q => k05 b o q
      have eC : CL (fP w.params b c) (h₀.objs.size + 0) (h4.objs.size + 0) (h4.objs.size + 1) (h4.objs.size + 2) = CL w.params (h₀.objs.size + 0) (h4.objs.size + 0) (h4.objs.size + 1) (h4.objs.size + 2) := by rw [hb]
      show codeAny (model theProg w) A5 (CL (fP w.params b c) (h₀.objs.size + 0) (h4.objs.size + 0) (h4.objs.size + 1) (h4.objs.size + 2)) R5 _
      rw [eC]
      refine compD (F := h₀.objs.size + 0) (W := h₀.objs.size + 2) (it := h4.objs.size + 0) (acc := h4.objs.size + 1) (cd := h4.objs.size + 2) (by omega) (hh5.trans hh0) ?_ ?_ q1 (by rw [q1.length]; omega) xs'.length ⟨h5, g, dr, i5, os⟩ true 0 [] [] 0 (by omega) (fun _ => by rw [q1.length]; exact List.length_pos_iff.mpr q2) G5 ⟨g1, g2, .inl ⟨rfl, g3⟩, g0⟩ trivial (Nat.le_refl _) fun h6 i6 ys' cy' t v z1 z2 z3 z4 => ?_
      · refine ndL ?_
        exact ⟨⟨npl _ 0 1 (by decide), npl _ 0 2 (by decide), fun z => nlt 0 hlt4 z.symm⟩, ⟨npl _ 1 2 (by decide), fun z => nlt 1 hlt4 z.symm⟩, fun z => nlt 2 hlt4 z.symm⟩
      · intro a ha
        replace ha := memL ha
        rcases ha with rfl | rfl | rfl | rfl
        · exact Nat.le_trans h4s (Nat.le_add_right ..)
        · exact Nat.le_trans h4s (Nat.le_add_right ..)
        · exact Nat.le_trans h4s (Nat.le_add_right ..)
        · exact hi7 2
      · have k06 : ∀ b o, h₀.get? b = some o → h6.get? b = some o := fun x o q => z4 x o (k05 x o q) (by
          refine nmL ?_
          exact ⟨old h4 0 x o k04 q, old h4 1 x o k04 q, old h4 2 x o k04 q⟩)
        have G6 : Gr w h6 := G.keeps fun b o _ q => k06 b o q
        have O6 := mkOk (A := A) (t₀ := i6) (sps := []) (ini := [h4.objs.size + 2]) G6 hb (by
          intro a ha
          replace ha := memL ha
          subst ha
          exact Nat.le_trans h4s (Nat.le_add_right ..)) (by omega) (fun sp hm => nomatch hm)
        rw [hh0] at O6
        refine hcont5 (.ok .next) h6 i6 (cfgH w b c h6 i6 none []) _ _ [1, 1, 1] rfl O6 (mkHp (h := h6) (own := [(h4.objs.size + 2, cdW w.params t v)]) (by intro p hp; replace hp := memL hp; subst hp; exact z3) (by first | trivial | simp)) fun stk6 => ?_
        refine fine_ret (runAR6_is w.params b c (fun m => h₀.objs.size + m) (fun i => t₀ + i) (fun m => h4.objs.size + m) (fun i => i4 + i) _ _ stk stk4 stk6 ⟨⟨text⟩⟩ tb sent ⟨⟨la⟩⟩ tl d1 text.length xs' cn' t4 t5 t6 k' tk' it' ah' ta' t v) fun h7' i7 hl7 hk7 => ?_
        refine hR (nonE ws) hdf h7' i7 (h4.objs.size + 1) ys' cy' (hnew h4 1 k04) (Nat.le_trans h4s (Nat.le_add_right ..)) (by simpa using z1) (hk7 _ _ z2 (by first | trivial | simp)) fun x o q => hk7 x o (k06 x o q) (by
          simp only [List.mem_cons, List.not_mem_nil, or_false]
          exact old h4 2 x o k04 q)
end
end
section
noncomputable def lcE : Expr → Option (Expr × Scope)
  | .ListComp a b sc d => some (.ListComp a b sc d, sc)
  | _ => none
noncomputable def lcX : Expr → Option (Expr × Scope)
  | .ListComp a b sc d => some (.ListComp a b sc d, sc)
  | .Call _ l _ _ => match l with
    | x :: _ => lcE x
    | [] => none
  | .Compare _ _ l _ => match l with
    | x :: _ => lcE x
    | [] => none
  | _ => none
/-- the comprehensions of a body, in order -/
noncomputable def lcsOf : List Stmt → List (Expr × Scope)
  | [] => []
  | st :: l => match st with
    | .Assign _ e _ => match lcX e with
      | some x => x :: lcsOf l
      | none => lcsOf l
    | .Return (some e) _ => match lcX e with
      | some x => x :: lcsOf l
      | none => lcsOf l
    | _ => lcsOf l
noncomputable def nthL : List (Expr × Scope) → Nat → Option (Expr × Scope)
  | [], _ => none
  | x :: _, 0 => some x
  | _ :: l, n + 1 => nthL l n
noncomputable def kindOf' : NameKind → NameKind
  | .free => .cell
  | k => k
noncomputable def namesIn : List (Str × NameKind) → List (Str × NameKind)
  | [] => []
  | (n, k) :: l => (n, kindOf' k) :: namesIn l
noncomputable def scopeIn (sc : Scope) : Scope := { sc with names := namesIn sc.names }
/-- the loop of law's comprehension n -/
@[irreducible] noncomputable def LCm (P : Params) (n : Nat) (F it acc cd : Addr) (cells : List (Str × Addr)) : Code := match nthL (lcsOf (bodyFn P 780)) n with
  | some x => .compLoop x.1 0 (.ref it) (.ref acc) { cenvFn P 780 F (scopeIn x.2) cd with cells := cells }
  | none => .body [] default
noncomputable abbrev lawC (S : Addr) : Code := .call (.ref 780) ⟨[.ref S], []⟩
noncomputable abbrev sl6 (t : Nat) : Obj := { cls := .type "slice", data := .fields #[.none, .int 6 t, .none] }
noncomputable abbrev cell0 : Obj := { cls := .type "cell", data := .cell none }
noncomputable abbrev cellV (v : Value) : Obj := { cls := .type "cell", data := .cell (some v) }
noncomputable abbrev tenV (tau : Nat → Nat) : List Value := [.int 4 (tau 2), .int 0 (tau 3), .int 2 (tau 4), .int 3 (tau 5), .int 0 (tau 6), .int 0 (tau 7), .int 1 (tau 8), .int 0 (tau 9), .int 5 (tau 10), .int 3 (tau 11)]
noncomputable abbrev sqL1 (rho tau : Nat → Nat) (S : Addr) (xs ys zs : List Value) (cn : Nat) : List Sq := [
  ⟨bi "list.__getitem__" [.ref S, .ref (rho 2)], [(0, S, listO xs cn), (3, rho 2, sl6 (tau 1))], none, [listO ys 0], .ref (rho 3), 2, 3, 0⟩,
  ⟨bi "list.__add__" [.ref (rho 3), .ref (rho 4)], [(4, rho 3, listO ys 0), (5, rho 4, listO (tenV tau) 0)], none, [listO zs 0], .ref (rho 5), 12, 5, 0⟩]
noncomputable def advL1 (c : Bool) : List Nat := cond c [1563, 3, 3, 2, 3, 1, 1, 1, 4, 9, 11, 9, 6, 3, 3, 3, 13, 13, 0, 13, 0, 15, 0, 1] [1563, 3, 3, 2, 3, 1, 1, 1, 4, 9, 11, 9, 6, 3, 3, 3, 13, 13, 0, 13, 0, 15, 0, 15, 15, 0, 15, 0, 15, 1]
noncomputable abbrev frL1 (P : Params) (S N : Addr) (t1 t2 : Nat) : Obj := { cls := .type "frame", data := .dict #[entQ P "script" t1 (.ref S), entQ P "numbers" t2 (.ref N)] 2 }
noncomputable abbrev runL1 (P : Params) (b c : Bool) (rho tau : Nat → Nat) (stk : Stk) (S : Addr) (xs ys zs : List Value) (cn : Nat) : Out :=
  entered (cfgQ (fP P b c) rho tau none [] (sqL1 rho tau S xs ys zs cn)) stk (advL1 c) (lawC S) [(S, listO xs cn)]
theorem runL1_is (P : Params) (b c : Bool) (rho tau : Nat → Nat) (stk : Stk) (S : Addr) (xs ys zs : List Value) (cn : Nat) :
    let o := runL1 P b c rho tau stk S xs ys zs cn
    (chkL o, cutR [0, 1, 2, 6, 7, 8, 9] o) = (chkR o, some (LCm (fP P b c) 0 (rho 0) (rho 6) (rho 7) (rho 8) [], [(S, listO xs cn), (rho 0, frL1 P S (rho 5) (tau 0) (tau 12)), (rho 1, cell0), (rho 5, listO zs 0), (rho 6, liO (rho 5) 0), (rho 7, listO [] 0), (rho 8, cd0)])) := by
  cases b <;> cases c <;> kernel_rfl
end
section
noncomputable abbrev cdV (P : Params) (nm : String) (t : Nat) (v : Value) : Obj := { cls := .type "dict", data := .dict #[entQ P nm t v] 1 }
/-! comprehension 0: the signs -/
noncomputable abbrev alph : Str := ⟨#[92, 13, 10, 46, 97, 32]⟩
noncomputable abbrev spT1 (tau : Nat → Nat) (z q : Int) (tz : Nat) (x : Str) (tx d : Nat) : List Sp := [
  ⟨bi "int.__mod__" [.int z tz, .int 6 (tau 2)], [], .int q (tau 3), 3, 1⟩,
  ⟨bi "str.__getitem__" [.str alph (tau 1), .int q (tau 3)], [], .str x tx, 4, d⟩]
noncomputable abbrev sqT1 (N it acc : Addr) (j : Int) (zs ys : List Value) (cn cy : Nat) (z : Int) (tz : Nat) (x : Str) (tx d : Nat) : List Sq := [
  ⟨bi "list_iterator.__next__" [.ref it], [(0, it, liO N j), (3, N, listO zs cn)], some (0, it, liO N (j + 1)), [], .int z tz, 0, 0, 0⟩,
  ⟨bi "list.append" [.ref acc, .str x tx], [(1, acc, listO ys cy)], some (1, acc, listO (ys ++ [.str x tx]) (cy + 1)), [], .none, 4 + d, 0, 0⟩]
theorem runT1F_is (P : Params) (b c : Bool) (rho tau : Nat → Nat) (stk : Stk) (F N it acc cd : Addr) (j : Int) (zs ys : List Value) (cn cy : Nat) (z q : Int) (tz : Nat) (x : Str) (tx d : Nat) :
    let o := entered (cfgQ (fP P b c) rho tau none (spT1 tau z q tz x tx d) (sqT1 N it acc j zs ys cn cy z tz x tx d)) stk [0, 1, 8, 5, 5, 5, 4, 6, 10, 1] (LCm (fP P b c) 0 F it acc cd []) [(it, liO N j), (acc, listO ys cy), (cd, cd0), (N, listO zs cn)]
    (chkL o, cutV [0, 1, 2, 3] o) = (chkR o, some (LCm (fP P b c) 0 F it acc cd [], [(it, liO N (j + 1)), (acc, listO (ys ++ [.str x tx]) (cy + 1)), (cd, cdV P "x" (tau 0) (.int z tz)), (N, listO zs cn)])) := by
  cases b <;> kernel_rfl
theorem runT1T_is (P : Params) (b c : Bool) (rho tau : Nat → Nat) (stk : Stk) (F N it acc cd : Addr) (j : Int) (zs ys : List Value) (cn cy : Nat) (z q : Int) (tz : Nat) (x : Str) (tx d : Nat) (t : Nat) (v : Value) :
    let o := entered (cfgQ (fP P b c) rho tau none (spT1 tau z q tz x tx d) (sqT1 N it acc j zs ys cn cy z tz x tx d)) stk [0, 1, 8, 5, 5, 5, 4, 6, 10, 1] (LCm (fP P b c) 0 F it acc cd []) [(it, liO N j), (acc, listO ys cy), (cd, cdV P "x" t v), (N, listO zs cn)]
    (chkL o, cutV [0, 1, 2, 3] o) = (chkR o, some (LCm (fP P b c) 0 F it acc cd [], [(it, liO N (j + 1)), (acc, listO (ys ++ [.str x tx]) (cy + 1)), (cd, cdV P "x" t (.int z tz)), (N, listO zs cn)])) := by
  cases b <;> kernel_rfl
/-! the end of a comprehension over a list -/
noncomputable abbrev runLE (P : Params) (b c : Bool) (n : Nat) (rho tau : Nat → Nat) (stk : Stk) (F W it acc cd : Addr) (j : Int) : Out :=
  entered (cfg (fP P b c) rho tau none []) stk [0, 1, 1] (LCm (fP P b c) n F it acc cd []) [(it, liO W j)]
theorem runLE_is (P : Params) (b c : Bool) (n : Nat) (hn : n = 0 ∨ n = 2 ∨ n = 3) (rho tau : Nat → Nat) (stk : Stk) (F W it acc cd : Addr) (j : Int) :
    let o := runLE P b c n rho tau stk F W it acc cd j
    (chkL o, cutR [0] o) = (chkR o, some (nextC it, [(it, liO W j)])) := by
  rcases hn with rfl | rfl | rfl
  · cases b <;> kernel_rfl
  · cases b <;> kernel_rfl
  · cases b <;> kernel_rfl
theorem runLE2_is (P : Params) (b c : Bool) (n : Nat) (hn : n = 0 ∨ n = 2 ∨ n = 3) (rho tau rho2 tau2 : Nat → Nat) (stk stk2 : Stk) (F W it acc cd : Addr) (j : Int) (e t : Addr) :
    let o := res (runLE P b c n rho tau stk F W it acc cd j) (.error (.ref e)) (cfg (fP P b c) rho2 tau2 none []) stk2 [1] [(e, excO "StopIteration" t)]
    (chkL o, retV [] o) = (chkR o, some (.ok .next, [])) := by
  rcases hn with rfl | rfl | rfl
  · cases b <;> kernel_rfl
  · cases b <;> kernel_rfl
  · cases b <;> kernel_rfl
/-! comprehension 1: the fronts -/
noncomputable abbrev txC : List (Str × Addr) → Addr → List (Str × Addr) := fun l a => (⟨#[116, 101, 120, 116]⟩, a) :: l
noncomputable abbrev spT2 (rho tau : Nat → Nat) (text : Str) (tb : Nat) (k : Int) (x : Str) (tx d : Nat) : List Sp := [
  ⟨bi "str.__getitem__" [.str text tb, .ref (rho 0)], [(4, rho 0, slTo k (tau 0))], .str x tx, 2, d⟩]
noncomputable abbrev sqT2 (tau : Nat → Nat) (I acc : Addr) (k n : Int) (ys : List Value) (cy : Nat) (x : Str) (tx d : Nat) : List Sq := [
  ⟨bi "range_iterator.__next__" [.ref I], [(0, I, riO k n)], some (0, I, riO (k + 1) (n - 1)), [], .int k (tau 0), 0, 0, 1⟩,
  ⟨bi "list.append" [.ref acc, .str x tx], [(1, acc, listO ys cy)], some (1, acc, listO (ys ++ [.str x tx]) (cy + 1)), [], .none, 2 + d, 1, 0⟩]
theorem runT2F_is (P : Params) (b c : Bool) (rho tau : Nat → Nat) (stk : Stk) (F I acc cd C : Addr) (k n : Int) (ys : List Value) (cy : Nat) (text : Str) (tb : Nat) (x : Str) (tx d : Nat) :
    let o := entered (cfgQ (fP P b c) rho tau none (spT2 rho tau text tb k x tx d) (sqT2 tau I acc k n ys cy x tx d)) stk [0, 1, 6, 5, 5, 7, 5, 4, 8, 1] (LCm (fP P b c) 1 F I acc cd (txC [] C)) [(I, riO k n), (acc, listO ys cy), (cd, cd0), (C, cellV (.str text tb))]
    (chkL o, cutV [0, 1, 2, 3] o) = (chkR o, some (LCm (fP P b c) 1 F I acc cd (txC [] C), [(I, riO (k + 1) (n - 1)), (acc, listO (ys ++ [.str x tx]) (cy + 1)), (cd, cdV P "k" (tau 1) (.int k (tau 0))), (C, cellV (.str text tb))])) := by
  cases b <;> kernel_rfl
theorem runT2T_is (P : Params) (b c : Bool) (rho tau : Nat → Nat) (stk : Stk) (F I acc cd C : Addr) (k n : Int) (ys : List Value) (cy : Nat) (text : Str) (tb : Nat) (x : Str) (tx d : Nat) (t : Nat) (v : Value) :
    let o := entered (cfgQ (fP P b c) rho tau none (spT2 rho tau text tb k x tx d) (sqT2 tau I acc k n ys cy x tx d)) stk [0, 1, 6, 5, 5, 7, 5, 4, 8, 1] (LCm (fP P b c) 1 F I acc cd (txC [] C)) [(I, riO k n), (acc, listO ys cy), (cd, cdV P "k" t v), (C, cellV (.str text tb))]
    (chkL o, cutV [0, 1, 2, 3] o) = (chkR o, some (LCm (fP P b c) 1 F I acc cd (txC [] C), [(I, riO (k + 1) (n - 1)), (acc, listO (ys ++ [.str x tx]) (cy + 1)), (cd, cdV P "k" t (.int k (tau 0))), (C, cellV (.str text tb))])) := by
  cases b <;> kernel_rfl
theorem runT2E_is (P : Params) (b c : Bool) (rho tau : Nat → Nat) (stk : Stk) (F I acc cd C : Addr) (k : Int) :
    let o := entered (cfg (fP P b c) rho tau none []) stk [0, 1, 0, 1, 0, 1, 1, 1, 5] (LCm (fP P b c) 1 F I acc cd (txC [] C)) [(I, riO k 0)]
    (chkL o, retV [] o) = (chkR o, some (.ok .next, [])) := by
  cases b <;> kernel_rfl
end
section
theorem mem3 {α : Type} {x a b c d : α} (h : x ∈ [a, b, c]) : x ∈ [a, b, c, d] := List.mem_append_left [d] h
noncomputable def RS (v : Value) : Prop := (∃ a, v = .ref a) ∨ (∃ x t, v = .str x t)
noncomputable abbrev sqT3 (W it : Addr) (j : Int) (fs : List Value) (cn : Nat) (x : Str) (tx : Nat) : List Sq := [
  ⟨bi "list_iterator.__next__" [.ref it], [(0, it, liO W j), (3, W, listO fs cn)], some (0, it, liO W (j + 1)), [], .str x tx, 0, 0, 0⟩]
noncomputable abbrev sqT3d (rho : Nat → Nat) (acc : Addr) (ys : List Value) (cy : Nat) : List Sq := [
  ⟨bi "list.append" [.ref acc, .ref (rho 0)], [(0, acc, listO ys cy)], some (0, acc, listO (ys ++ [.ref (rho 0)]) (cy + 1)), [], .none, 0, 1, 0⟩]
/-- the dict of a comprehension, ahead of its first turn and later -/
noncomputable def cdx (P : Params) : Option (Nat × Value) → Obj
  | none => cd0
  | some (t, v) => cdV P "front" t v
noncomputable def ctk : Option (Nat × Value) → Nat → Nat
  | none, t => t
  | some (t, _), _ => t
noncomputable abbrev runT3a (P : Params) (b c : Bool) (rho tau : Nat → Nat) (stk : Stk) (F W it acc cd : Addr) (j : Int) (fs ys : List Value) (cn cy : Nat) (x : Str) (tx : Nat) (ov : Option (Nat × Value)) : Out :=
  entered (cfgQ (fP P b c) rho tau none [] (sqT3 W it j fs cn x tx)) stk [0, 1, 4, 5, 5, 6, 5, 1526, 1] (LCm (fP P b c) 2 F it acc cd []) [(it, liO W j), (acc, listO ys cy), (cd, cdx P ov), (W, listO fs cn)]
theorem runT3a_is (P : Params) (b c : Bool) (rho tau : Nat → Nat) (stk : Stk) (F W it acc cd : Addr) (j : Int) (fs ys : List Value) (cn cy : Nat) (x : Str) (tx : Nat) (ov : Option (Nat × Value)) :
    let o := runT3a P b c rho tau stk F W it acc cd j fs ys cn cy x tx ov
    (chkL o, cutR [0, 1, 2, 3] o) = (chkR o, some (heardC x tx, [(it, liO W (j + 1)), (acc, listO ys cy), (cd, cdV P "front" (ctk ov (tau 0)) (.str x tx)), (W, listO fs cn)])) := by
  rcases ov with _ | ⟨t, v⟩ <;> cases b <;> kernel_rfl
noncomputable abbrev runT3b (P : Params) (b c : Bool) (rho tau : Nat → Nat) (stk : Stk) (F W it acc cd : Addr) (j : Int) (fs ys : List Value) (cn cy : Nat) (x : Str) (tx : Nat) (ov : Option (Nat × Value)) (rho2 tau2 : Nat → Nat) (stk2 : Stk) (v1 : Value) : Out :=
  res (runT3a P b c rho tau stk F W it acc cd j fs ys cn cy x tx ov) (.ok (.ret v1)) (cfg (fP P b c) rho2 tau2 none []) stk2 [6, 6, 1, 1512, 1] [(cd, cdV P "front" (ctk ov (tau 0)) (.str x tx))]
theorem runT3b_is (P : Params) (b c : Bool) (rho tau : Nat → Nat) (stk : Stk) (F W it acc cd : Addr) (j : Int) (fs ys : List Value) (cn cy : Nat) (x : Str) (tx : Nat) (ov : Option (Nat × Value)) (rho2 tau2 : Nat → Nat) (stk2 : Stk) (v1 : Value) (h1 : RS v1) :
    let o := runT3b P b c rho tau stk F W it acc cd j fs ys cn cy x tx ov rho2 tau2 stk2 v1
    (chkL o, cutR [0] o) = (chkR o, some (quoteC x tx, [(cd, cdV P "front" (ctk ov (tau 0)) (.str x tx))])) := by
  rcases ov with _ | ⟨t, v⟩ <;> rcases h1 with ⟨a1, rfl⟩ | ⟨x1, t1, rfl⟩ <;> cases b <;> kernel_rfl
noncomputable abbrev runT3c (P : Params) (b c : Bool) (rho tau : Nat → Nat) (stk : Stk) (F W it acc cd : Addr) (j : Int) (fs ys : List Value) (cn cy : Nat) (x : Str) (tx : Nat) (ov : Option (Nat × Value)) (rho2 tau2 : Nat → Nat) (stk2 : Stk) (v1 : Value) (rho3 tau3 : Nat → Nat) (stk3 : Stk) (q : Str) (tq : Nat) : Out :=
  res (runT3b P b c rho tau stk F W it acc cd j fs ys cn cy x tx ov rho2 tau2 stk2 v1) (.ok (.ret (.str q tq))) (cfg (fP P b c) rho3 tau3 none []) stk3 [1526, 1] []
theorem runT3c_is (P : Params) (b c : Bool) (rho tau : Nat → Nat) (stk : Stk) (F W it acc cd : Addr) (j : Int) (fs ys : List Value) (cn cy : Nat) (x : Str) (tx : Nat) (ov : Option (Nat × Value)) (rho2 tau2 : Nat → Nat) (stk2 : Stk) (v1 : Value) (rho3 tau3 : Nat → Nat) (stk3 : Stk) (q : Str) (tq : Nat) (h1 : RS v1) :
    let o := runT3c P b c rho tau stk F W it acc cd j fs ys cn cy x tx ov rho2 tau2 stk2 v1 rho3 tau3 stk3 q tq
    (chkL o, cutR [] o) = (chkR o, some (heardC q tq, [])) := by
  rcases ov with _ | ⟨t, v⟩ <;> rcases h1 with ⟨a1, rfl⟩ | ⟨x1, t1, rfl⟩ <;> cases b <;> kernel_rfl
theorem runT3d_is (P : Params) (b c : Bool) (rho tau : Nat → Nat) (stk : Stk) (F W it acc cd : Addr) (j : Int) (fs ys : List Value) (cn cy : Nat) (x : Str) (tx : Nat) (ov : Option (Nat × Value)) (rho2 tau2 : Nat → Nat) (stk2 : Stk) (v1 : Value) (rho3 tau3 : Nat → Nat) (stk3 : Stk) (q : Str) (tq : Nat) (rho4 tau4 : Nat → Nat) (stk4 : Stk) (v2 : Value) (h1 : RS v1) (h2 : RS v2) :
    let o := res (runT3c P b c rho tau stk F W it acc cd j fs ys cn cy x tx ov rho2 tau2 stk2 v1 rho3 tau3 stk3 q tq) (.ok (.ret v2)) (cfgQ (fP P b c) rho4 tau4 none [] (sqT3d rho4 acc ys cy)) stk4 [4, 1] [(acc, listO ys cy)]
    (chkL o, cutV [0, 1] o) = (chkR o, some (LCm (fP P b c) 2 F it acc cd [], [(acc, listO (ys ++ [.ref (rho4 0)]) (cy + 1)), (rho4 0, listO [v1, v2] 0)])) := by
  rcases ov with _ | ⟨t, v⟩ <;> rcases h1 with ⟨a1, rfl⟩ | ⟨x1, t1, rfl⟩ <;> rcases h2 with ⟨a2, rfl⟩ | ⟨x2, t2, rfl⟩ <;> cases b <;> kernel_rfl
noncomputable abbrev runT4a (P : Params) (b c : Bool) (rho tau : Nat → Nat) (stk : Stk) (F W it acc cd : Addr) (j : Int) (fs ys : List Value) (cn cy : Nat) (x : Str) (tx : Nat) (ov : Option (Nat × Value)) : Out :=
  entered (cfgQ (fP P b c) rho tau none [] (sqT3 W it j fs cn x tx)) stk [0, 1, 4, 5, 5, 6, 5, 1550, 1] (LCm (fP P b c) 3 F it acc cd []) [(it, liO W j), (acc, listO ys cy), (cd, cdx P ov), (W, listO fs cn)]
theorem runT4a_is (P : Params) (b c : Bool) (rho tau : Nat → Nat) (stk : Stk) (F W it acc cd : Addr) (j : Int) (fs ys : List Value) (cn cy : Nat) (x : Str) (tx : Nat) (ov : Option (Nat × Value)) :
    let o := runT4a P b c rho tau stk F W it acc cd j fs ys cn cy x tx ov
    (chkL o, cutR [0, 1, 2, 3] o) = (chkR o, some (dueC x tx false, [(it, liO W (j + 1)), (acc, listO ys cy), (cd, cdV P "front" (ctk ov (tau 0)) (.str x tx)), (W, listO fs cn)])) := by
  rcases ov with _ | ⟨t, v⟩ <;> cases b <;> kernel_rfl
noncomputable abbrev runT4b (P : Params) (b c : Bool) (rho tau : Nat → Nat) (stk : Stk) (F W it acc cd : Addr) (j : Int) (fs ys : List Value) (cn cy : Nat) (x : Str) (tx : Nat) (ov : Option (Nat × Value)) (rho2 tau2 : Nat → Nat) (stk2 : Stk) (v1 : Value) : Out :=
  res (runT4a P b c rho tau stk F W it acc cd j fs ys cn cy x tx ov) (.ok (.ret v1)) (cfg (fP P b c) rho2 tau2 none []) stk2 [6, 1, 1550, 1] [(cd, cdV P "front" (ctk ov (tau 0)) (.str x tx))]
theorem runT4b_is (P : Params) (b c : Bool) (rho tau : Nat → Nat) (stk : Stk) (F W it acc cd : Addr) (j : Int) (fs ys : List Value) (cn cy : Nat) (x : Str) (tx : Nat) (ov : Option (Nat × Value)) (rho2 tau2 : Nat → Nat) (stk2 : Stk) (v1 : Value) (h1 : RS v1) :
    let o := runT4b P b c rho tau stk F W it acc cd j fs ys cn cy x tx ov rho2 tau2 stk2 v1
    (chkL o, cutR [0] o) = (chkR o, some (dueC x tx true, [(cd, cdV P "front" (ctk ov (tau 0)) (.str x tx))])) := by
  rcases ov with _ | ⟨t, v⟩ <;> rcases h1 with ⟨a1, rfl⟩ | ⟨x1, t1, rfl⟩ <;> cases b <;> kernel_rfl
theorem runT4d_is (P : Params) (b c : Bool) (rho tau : Nat → Nat) (stk : Stk) (F W it acc cd : Addr) (j : Int) (fs ys : List Value) (cn cy : Nat) (x : Str) (tx : Nat) (ov : Option (Nat × Value)) (rho2 tau2 : Nat → Nat) (stk2 : Stk) (v1 : Value) (rho4 tau4 : Nat → Nat) (stk4 : Stk) (v2 : Value) (h1 : RS v1) (h2 : RS v2) :
    let o := res (runT4b P b c rho tau stk F W it acc cd j fs ys cn cy x tx ov rho2 tau2 stk2 v1) (.ok (.ret v2)) (cfgQ (fP P b c) rho4 tau4 none [] (sqT3d rho4 acc ys cy)) stk4 [4, 1] [(acc, listO ys cy)]
    (chkL o, cutV [0, 1] o) = (chkR o, some (LCm (fP P b c) 3 F it acc cd [], [(acc, listO (ys ++ [.ref (rho4 0)]) (cy + 1)), (rho4 0, listO [v1, v2] 0)])) := by
  rcases ov with _ | ⟨t, v⟩ <;> rcases h1 with ⟨a1, rfl⟩ | ⟨x1, t1, rfl⟩ <;> rcases h2 with ⟨a2, rfl⟩ | ⟨x2, t2, rfl⟩ <;> cases b <;> kernel_rfl
end
section
/-! law's own runs: its call to its frame, the first four statements, the parts of the last one -/
noncomputable def envL (P : Params) (F C : Addr) : Env := { envFn P 780 F with cells := txC [] C }
noncomputable abbrev funcL (P : Params) (F C : Addr) : Code := .func (bodyFn P 780) (envL P F C)
noncomputable def retOf : List Stmt → Option (Expr × Expr × Pos × Pos)
  | [] => none
  | st :: l => match st with
    | .Return (some e) p => match e with
      | .Compare a _ cs q => match cs with
        | x :: _ => some (a, x, q, p)
        | [] => retOf l
      | _ => retOf l
    | _ => retOf l
noncomputable def preL (P : Params) : List Stmt := (bodyFn P 780).take 4
noncomputable def nameL (P : Params) : Expr := match retOf (bodyFn P 780) with | some x => x.1 | none => default
noncomputable def lcL (P : Params) : Expr := match retOf (bodyFn P 780) with | some x => x.2.1 | none => default
noncomputable def qpL (P : Params) : Pos := match retOf (bodyFn P 780) with | some x => x.2.2.1 | none => default
noncomputable def rpL (P : Params) : Pos := match retOf (bodyFn P 780) with | some x => x.2.2.2 | none => default
theorem bodyL_is (P : Params) : bodyFn P 780 = preL P ++ [.Return (some (.Compare (nameL P) [.Eq] [lcL P] (qpL P))) (rpL P)] := by kernel_rfl
noncomputable def treeL (P : Params) (F C : Addr) : Sem PySem.Fin := R.bindR (execsQ (preL P) (envL P F C)) fun f => .pure (.done f)
noncomputable abbrev frL0 (P : Params) (S : Addr) (t1 : Nat) : Obj := { cls := .type "frame", data := .dict #[entQ P "script" t1 (.ref S)] 1 }
theorem runL0_is (P : Params) (b c : Bool) (rho tau : Nat → Nat) (stk : Stk) (S : Addr) :
    let o := entered (cfg (fP P b c) rho tau none []) stk [1563, 1, 1, 1] (lawC S) []
    (chkL o, cutV [0, 1] o) = (chkR o, some (funcL (fP P b c) (rho 0) (rho 1), [(rho 0, frL0 P S (tau 0)), (rho 1, cell0)])) := by
  cases b <;> kernel_rfl
noncomputable abbrev CnT := Nat × Option Addr × Array (Option Value)
/-- the script's list -/
noncomputable abbrev listD (xs : List Value) (c : CnT) : Obj := { cls := .type "list", dict := c.2.1, data := .seq xs.toArray c.1, slots := c.2.2 }
noncomputable abbrev tenW (tau : Nat → Nat) : List Value := [.int 4 (tau 1), .int 0 (tau 2), .int 2 (tau 3), .int 3 (tau 4), .int 0 (tau 5), .int 0 (tau 6), .int 1 (tau 7), .int 0 (tau 8), .int 5 (tau 9), .int 3 (tau 10)]
noncomputable abbrev sqM1 (rho tau : Nat → Nat) (S : Addr) (xs ys zs : List Value) (cn : CnT) : List Sq := [
  ⟨bi "list.__getitem__" [.ref S, .ref (rho 0)], [(0, S, listD xs cn), (3, rho 0, sl6 (tau 0))], none, [listO ys 0], .ref (rho 1), 1, 1, 0⟩,
  ⟨bi "list.__add__" [.ref (rho 1), .ref (rho 2)], [(4, rho 1, listO ys 0), (5, rho 2, listO (tenW tau) 0)], none, [listO zs 0], .ref (rho 3), 11, 3, 0⟩]
noncomputable def advM1 (c : Bool) : List Nat := cond c [3, 1, 1, 1, 4, 9, 11, 9, 6, 3, 3, 3, 13, 13, 0, 13, 0, 15, 0, 1] [3, 1, 1, 1, 4, 9, 11, 9, 6, 3, 3, 3, 13, 13, 0, 13, 0, 15, 0, 15, 15, 0, 15, 0, 15, 1]
noncomputable abbrev runM1 (P : Params) (b c : Bool) (rho tau : Nat → Nat) (stk : Stk) (S F C : Addr) (t1 : Nat) (xs ys zs : List Value) (cn : CnT) : Out :=
  ran (cfgQ (fP P b c) rho tau none [] (sqM1 rho tau S xs ys zs cn)) stk (advM1 c) (funcL (fP P b c) F C) (treeL (fP P b c) F C) [(S, listD xs cn), (F, frL0 P S t1), (C, cell0)]
theorem runM1_is (P : Params) (b c : Bool) (rho tau : Nat → Nat) (stk : Stk) (S F C : Addr) (t1 : Nat) (xs ys zs : List Value) (cn : CnT) :
    let o := runM1 P b c rho tau stk S F C t1 xs ys zs cn
    (chkL o, cutR [0, 1, 2, 6, 7, 8, 9] o) = (chkR o, some (LCm (fP P b c) 0 F (rho 4) (rho 5) (rho 6) [], [(S, listD xs cn), (F, frL1 P S (rho 3) t1 (tau 11)), (C, cell0), (rho 3, listO zs 0), (rho 4, liO (rho 3) 0), (rho 5, listO [] 0), (rho 6, cd0)])) := by
  cases b <;> cases c <;> kernel_rfl
noncomputable abbrev spM2 (rho tau tau2 : Nat → Nat) (ws : List Value) (cw : Nat) (text : Str) (n n1 : Int) : List Sp := [
  ⟨bi "len" [.str text (tau2 0)], [], .int n (tau2 2), 1, 2⟩,
  ⟨bi "int.__add__" [.int n (tau2 2), .int 1 (tau2 3)], [], .int n1 (tau2 4), 4, 1⟩,
  ⟨bi "str.join" [.str ⟨#[]⟩ (tau 12), .ref (rho 5)], [(2, rho 5, listO ws cw)], .str text (tau2 0), 0, 1⟩]
noncomputable abbrev sqM2 (rho2 tau2 : Nat → Nat) (n1 : Int) : List Sq := [
  ⟨.call (.type "range") ⟨[.int n1 (tau2 4)], []⟩, [], none, [rgO n1 (tau2 5) (tau2 4) (tau2 6)], .ref (rho2 0), 5, 0, 2⟩,
  ⟨bi "range.__iter__" [.ref (rho2 0)], [(4, rho2 0, rgO n1 (tau2 5) (tau2 4) (tau2 6))], none, [riO 0 n1], .ref (rho2 1), 7, 1, 0⟩]
noncomputable def advM2 (c : Bool) : List Nat := cond c [7, 7, 7, 8, 3, 3, 6, 0, 6, 0, 3, 4, 6, 10, 9, 9, 12, 11, 0, 1] [7, 7, 7, 8, 3, 3, 6, 0, 6, 0, 3, 4, 6, 10, 9, 9, 12, 11, 0, 11, 11, 0, 11, 0, 11, 1]
noncomputable abbrev runM2 (P : Params) (b c : Bool) (rho tau : Nat → Nat) (stk : Stk) (S F C : Addr) (t1 : Nat) (xs ys zs : List Value) (cn : CnT) (rho2 tau2 : Nat → Nat) (stk2 : Stk) (ws : List Value) (cw : Nat) (text : Str) (n n1 : Int) (tx : Nat) (vx : Value) : Out :=
  res (runM1 P b c rho tau stk S F C t1 xs ys zs cn) (.ok .next) (cfgQ (fP P b c) rho2 tau2 none (spM2 rho tau tau2 ws cw text n n1) (sqM2 rho2 tau2 n1)) stk2 (advM2 c) [(F, frL1 P S (rho 3) t1 (tau 11)), (C, cell0), (rho 5, listO ws cw), (rho 6, cdV P "x" tx vx)]
theorem runM2_is (P : Params) (b c : Bool) (rho tau : Nat → Nat) (stk : Stk) (S F C : Addr) (t1 : Nat) (xs ys zs : List Value) (cn : CnT) (rho2 tau2 : Nat → Nat) (stk2 : Stk) (ws : List Value) (cw : Nat) (text : Str) (n n1 : Int) (tx : Nat) (vx : Value) :
    let o := runM2 P b c rho tau stk S F C t1 xs ys zs cn rho2 tau2 stk2 ws cw text n n1 tx vx
    (chkL o, cutR [0, 1, 5, 6, 7] o) = (chkR o, some (LCm (fP P b c) 1 F (rho2 1) (rho2 2) (rho2 3) (txC [] C), [(F, frL1 P S (rho 3) t1 (tau 11)), (C, cellV (.str text (tau2 0))), (rho2 1, riO 0 n1), (rho2 2, listO [] 0), (rho2 3, cd0)])) := by
  cases b <;> cases c <;> kernel_rfl
noncomputable abbrev frL3 (P : Params) (S N Fr : Addr) (t1 t2 t3 : Nat) : Obj := { cls := .type "frame", data := .dict #[entQ P "script" t1 (.ref S), entQ P "numbers" t2 (.ref N), entQ P "fronts" t3 (.ref Fr)] 3 }
noncomputable def advM3 (c : Bool) : List Nat := cond c [1, 1, 7, 7, 7, 1, 5, 5, 0, 5, 0, 9, 0, 1] [1, 1, 7, 7, 7, 1, 5, 5, 0, 5, 0, 9, 0, 9, 9, 0, 9, 0, 9, 1]
noncomputable abbrev runM3 (P : Params) (b c : Bool) (rho tau : Nat → Nat) (stk : Stk) (S F C : Addr) (t1 : Nat) (xs ys zs : List Value) (cn : CnT) (rho2 tau2 : Nat → Nat) (stk2 : Stk) (ws : List Value) (cw : Nat) (text : Str) (n n1 : Int) (tx : Nat) (vx : Value) (rho3 tau3 : Nat → Nat) (stk3 : Stk) (fs : List Value) (cf : Nat) (tk : Nat) (vk : Value) : Out :=
  res (runM2 P b c rho tau stk S F C t1 xs ys zs cn rho2 tau2 stk2 ws cw text n n1 tx vx) (.ok .next) (cfg (fP P b c) rho3 tau3 none []) stk3 (advM3 c) [(F, frL1 P S (rho 3) t1 (tau 11)), (C, cellV (.str text (tau2 0))), (rho2 2, listO fs cf), (rho2 3, cdV P "k" tk vk)]
theorem runM3_is (P : Params) (b c : Bool) (rho tau : Nat → Nat) (stk : Stk) (S F C : Addr) (t1 : Nat) (xs ys zs : List Value) (cn : CnT) (rho2 tau2 : Nat → Nat) (stk2 : Stk) (ws : List Value) (cw : Nat) (text : Str) (n n1 : Int) (tx : Nat) (vx : Value) (rho3 tau3 : Nat → Nat) (stk3 : Stk) (fs : List Value) (cf : Nat) (tk : Nat) (vk : Value) :
    let o := runM3 P b c rho tau stk S F C t1 xs ys zs cn rho2 tau2 stk2 ws cw text n n1 tx vx rho3 tau3 stk3 fs cf tk vk
    (chkL o, cutR [0, 2, 4, 5, 6] o) = (chkR o, some (LCm (fP P b c) 2 F (rho3 0) (rho3 1) (rho3 2) [], [(F, frL3 P S (rho 3) (rho2 2) t1 (tau 11) (tau3 0)), (rho2 2, listO fs cf), (rho3 0, liO (rho2 2) 0), (rho3 1, listO [] 0), (rho3 2, cd0)])) := by
  cases b <;> cases c <;> kernel_rfl
theorem runM3_envs (P : Params) (b c : Bool) (rho tau : Nat → Nat) (stk : Stk) (S F C : Addr) (t1 : Nat) (xs ys zs : List Value) (cn : CnT) (rho2 tau2 : Nat → Nat) (stk2 : Stk) (ws : List Value) (cw : Nat) (text : Str) (n n1 : Int) (tx : Nat) (vx : Value) (rho3 tau3 : Nat → Nat) (stk3 : Stk) (fs : List Value) (cf : Nat) (tk : Nat) (vk : Value) : kenvV (runM3 P b c rho tau stk S F C t1 xs ys zs cn rho2 tau2 stk2 ws cw text n n1 tx vx rho3 tau3 stk3 fs cf tk vk) = some [envL (fP P b c) F C] := by
  cases b <;> cases c <;> kernel_rfl
noncomputable abbrev frL4 (P : Params) (S N Fr T : Addr) (t1 t2 t3 t4 : Nat) : Obj := { cls := .type "frame", data := .dict #[entQ P "script" t1 (.ref S), entQ P "numbers" t2 (.ref N), entQ P "fronts" t3 (.ref Fr), entQ P "told" t4 (.ref T)] 4 }
theorem runM4_is (P : Params) (b c : Bool) (rho tau : Nat → Nat) (stk : Stk) (S F C : Addr) (t1 : Nat) (xs ys zs : List Value) (cn : CnT) (rho2 tau2 : Nat → Nat) (stk2 : Stk) (ws : List Value) (cw : Nat) (text : Str) (n n1 : Int) (tx : Nat) (vx : Value) (rho3 tau3 : Nat → Nat) (stk3 : Stk) (fs : List Value) (cf : Nat) (tk : Nat) (vk : Value) (rho4 tau4 : Nat → Nat) (stk4 : Stk) (sl : Array (Option Value)) (ts : List Value) (ct : Nat) (tf : Nat) (vf : Value) :
    let o := res (runM3 P b c rho tau stk S F C t1 xs ys zs cn rho2 tau2 stk2 ws cw text n n1 tx vx rho3 tau3 stk3 fs cf tk vk) (.ok .next) (cfg (fP P b c) rho4 tau4 none []) stk4 [1, 1, 7, 7, 7, 1] [(F, { frL3 P S (rho 3) (rho2 2) t1 (tau 11) (tau3 0) with slots := sl }), (rho2 2, listO fs cf), (rho3 1, listO ts ct), (rho3 2, cdV P "front" tf vf)]
    (chkL o, retV [0, 1, 2] o) = (chkR o, some (.ok .next, [(F, { frL4 P S (rho 3) (rho2 2) (rho3 1) t1 (tau 11) (tau3 0) (tau4 0) with slots := sl }), (rho2 2, listO fs cf), (rho3 1, listO ts ct)])) := by
  cases b <;> cases c <;> kernel_rfl
end
section
noncomputable def evalQ : Expr → Env → Sem Value := ZFast.zw14044960220447912780
theorem evalQ_eq : evalQ = eval := by unfold evalQ; rw [← ZFast.ze14044960220447912780]
/-- a value's tree, closed -/
noncomputable def treeV (m : Sem Value) : Sem PySem.Fin := R.bindR m fun v => .pure (.done (.ret v))
noncomputable def treeN (P : Params) (F C : Addr) : Sem PySem.Fin := treeV (evalQ (nameL P) (envL P F C))
noncomputable def treeC (P : Params) (F C : Addr) : Sem PySem.Fin := treeV (evalQ (lcL P) (envL P F C))
theorem runN5_is (P : Params) (b c : Bool) (rho tau : Nat → Nat) (stk : Stk) (F C : Addr) (S N Fr T : Addr) (t1 t2 t3 t4 : Nat) (sl : Array (Option Value)) :
    let o := ran (cfg (fP P b c) rho tau none []) stk [1] (funcL (fP P b c) F C) (treeN (fP P b c) F C) [(F, { frL4 P S N Fr T t1 t2 t3 t4 with slots := sl })]
    (chkL o, retV [0] o) = (chkR o, some (.ok (.ret (.ref T)), [(F, { frL4 P S N Fr T t1 t2 t3 t4 with slots := sl })])) := by
  cases b <;> kernel_rfl
noncomputable def advC5 (c : Bool) : List Nat := cond c [1, 3, 3, 0, 3, 0, 5, 0, 1] [1, 3, 3, 0, 3, 0, 5, 0, 5, 5, 0, 5, 0, 5, 1]
noncomputable abbrev runC5 (P : Params) (b c : Bool) (rho tau : Nat → Nat) (stk : Stk) (F C : Addr) (S N Fr T : Addr) (t1 t2 t3 t4 : Nat) (sl : Array (Option Value)) (fs : List Value) (cf : Nat) : Out :=
  ran (cfg (fP P b c) rho tau none []) stk (advC5 c) (funcL (fP P b c) F C) (treeC (fP P b c) F C) [(F, { frL4 P S N Fr T t1 t2 t3 t4 with slots := sl }), (Fr, listO fs cf)]
theorem runC5_is (P : Params) (b c : Bool) (rho tau : Nat → Nat) (stk : Stk) (F C : Addr) (S N Fr T : Addr) (t1 t2 t3 t4 : Nat) (sl : Array (Option Value)) (fs : List Value) (cf : Nat) :
    let o := runC5 P b c rho tau stk F C S N Fr T t1 t2 t3 t4 sl fs cf
    (chkL o, cutR [1, 2, 3, 4] o) = (chkR o, some (LCm (fP P b c) 3 F (rho 0) (rho 1) (rho 2) [], [(Fr, listO fs cf), (rho 0, liO Fr 0), (rho 1, listO [] 0), (rho 2, cd0)])) := by
  cases b <;> cases c <;> kernel_rfl
theorem runC6_is (P : Params) (b c : Bool) (rho tau : Nat → Nat) (stk : Stk) (F C : Addr) (S N Fr T : Addr) (t1 t2 t3 t4 : Nat) (sl : Array (Option Value)) (fs : List Value) (cf : Nat) (rho2 tau2 : Nat → Nat) (stk2 : Stk) (tf : Nat) (vf : Value) :
    let o := res (runC5 P b c rho tau stk F C S N Fr T t1 t2 t3 t4 sl fs cf) (.ok .next) (cfg (fP P b c) rho2 tau2 none []) stk2 [1, 1, 1] [(rho 2, cdV P "front" tf vf)]
    (chkL o, retV [] o) = (chkR o, some (.ok (.ret (.ref (rho 1))), [])) := by
  cases b <;> cases c <;> kernel_rfl
end
section
noncomputable def signF (z : Int) : Nat := match (z.fmod 6).toNat with | 0 => 92 | 1 => 13 | 2 => 10 | 3 => 46 | 4 => 97 | _ => 32
theorem signF_sign (z : Int) : isSign (signF z) := by
  unfold signF isSign
  split <;> simp
theorem signF_at (z : Int) : [92, 13, 10, 46, 97, 32][(z.fmod 6).toNat]? = some (signF z) := by
  have h1 : 0 ≤ z.fmod 6 := Int.fmod_nonneg_of_pos z (by decide)
  have h2 : z.fmod 6 < 6 := Int.fmod_lt_of_pos z (by decide)
  have h3 : (z.fmod 6).toNat < 6 := by omega
  unfold signF
  generalize (z.fmod 6).toNat = i at h3 ⊢
  match i, h3 with
  | 0, _ => rfl
  | 1, _ => rfl
  | 2, _ => rfl
  | 3, _ => rfl
  | 4, _ => rfl
  | 5, _ => rfl
noncomputable def IntsAre : List Value → List Int → Prop
  | [], [] => True
  | v :: vs, z :: zs => (∃ t, v = .int z t) ∧ IntsAre vs zs
  | _, _ => False
theorem IntsAre.length : ∀ {vs : List Value} {zs : List Int}, IntsAre vs zs → vs.length = zs.length
  | [], [], _ => rfl
  | _ :: vs, _ :: zs, h => by simp only [List.length_cons]; rw [IntsAre.length h.2]
  | [], _ :: _, h => h.elim
  | _ :: _, [], h => h.elim
theorem IntsAre.get : ∀ {vs : List Value} {zs : List Int} {j : Nat}, IntsAre vs zs → j < vs.length → ∃ z t, vs[j]? = some (.int z t) ∧ zs[j]? = some z
  | [], _, _, _, h => by simp at h
  | _ :: _, [], _, h, _ => h.elim
  | v :: vs, z :: zs, 0, h, _ => by obtain ⟨⟨t, e⟩, _⟩ := h; exact ⟨z, t, by rw [e]; rfl, rfl⟩
  | v :: vs, z :: zs, j + 1, h, hl => IntsAre.get (vs := vs) (zs := zs) (j := j) h.2 (by simp only [List.length_cons] at hl; omega)
theorem StrsAre.get : ∀ {vs : List Value} {ws : List (List Nat)} {j : Nat}, StrsAre vs ws → j < vs.length → ∃ x t, vs[j]? = some (.str ⟨⟨x⟩⟩ t) ∧ ws[j]? = some x
  | [], _, _, _, h => by simp at h
  | _ :: _, [], _, h, _ => h.elim
  | v :: vs, z :: zs, 0, h, _ => by obtain ⟨⟨t, e⟩, _⟩ := h; exact ⟨z, t, by rw [e]; rfl, rfl⟩
  | v :: vs, z :: zs, j + 1, h, hl => StrsAre.get (vs := vs) (ws := zs) (j := j) h.2 (by simp only [List.length_cons] at hl; omega)
theorem drop_at {α : Type} {l : List α} {j : Nat} {x : α} (h : l[j]? = some x) : l.drop j = x :: l.drop (j + 1) := by
  obtain ⟨hlt, e⟩ := List.getElem?_eq_some_iff.mp h
  rw [List.drop_eq_getElem_cons hlt, e]
/-- the objects of a comprehension's loop over a list -/
structure KAt (P : Params) (nm : String) (W it acc cd : Addr) (h : Heap) (first : Bool) (j : Nat) (xs ys : List Value) (cn cy : Nat) : Prop where
  it : h.get? it = some (liO W j)
  acc : h.get? acc = some (listO ys cy)
  cd : (first = true ∧ h.get? cd = some cd0) ∨ ∃ t v, h.get? cd = some (cdV P nm t v)
  W : h.get? W = some (listO xs cn)
section
variable {w : World} {A : Around} {R : Result → Shared → Prop} {F W it acc cd : Addr}
/-- the end of a loop over a list -/
theorem loopE {n : Nat} (hn : n = 0 ∨ n = 2 ∨ n = 3) (hA : A.depth + 200 ≤ recursionLimit) (hh0 : A.handled = none) (hit : 781 ≤ it) {xs : List Value} {cn j : Nat} {s : Shared} (G : Gr w s.heap) (hI : s.heap.get? it = some (liO W j)) (hW : s.heap.get? W = some (listO xs cn)) (hj : xs.length ≤ j)
    (hR : ∀ h i, (∀ x o, s.heap.get? x = some o → x ≠ it → h.get? x = some o) → R (.ok .next) ⟨h, s.gens, s.drawn, i, s.os⟩) : codeAny (model theProg w) A (LCm w.params n F it acc cd []) R s := by
  obtain ⟨h₀, g, dr, t₀, os⟩ := s
  have hb := fP_self w.params
  generalize w.params.followText "special-get-raises" = b at hb
  generalize w.params.followText "comprehension-iter-twice" = c at hb
  have eW : LCm w.params n F it acc cd [] = LCm (fP w.params b c) n F it acc cd [] := by rw [hb]
  rw [eW]
  have O := mkOk (A := A) (t₀ := t₀) (sps := []) (ini := [it]) G hb (by intro a ha; replace ha := memL ha; subst ha; exact hit) (by omega) (fun sp hm => nomatch hm)
  rw [hh0] at O
  refine run_fine O (mkHp (h := h₀) (own := [(it, liO W j)]) (by intro p hp; replace hp := memL hp; subst hp; exact hI) (by first | trivial | simp)) (adv := [0, 1, 1]) fun stk => fine_call (runLE_is w.params b c n hn _ _ stk F W it acc cd j) fun A1 R1 h1 i1 hdep hh hl hk hcont => ?_
  have k1 : ∀ b o, h₀.get? b = some o → h1.get? b = some o := fun x o q => by
    by_cases z : x = it
    · subst z; rw [Option.some.inj (q.symm.trans hI)]; exact hl _ (List.mem_cons_self ..)
    · exact hk x o q (nmL z)
  refine list_end (s := ⟨h1, g, dr, i1, os⟩) (hh.trans hh0) (hl _ (List.mem_cons_self ..)) (k1 _ _ hW) hj fun h2 e t' he hsz hk2 => ?_
  have hne : ∀ a o, h₀.get? a = some o → a ≠ e := fun a o q z => absurd (Heap.lt_size (k1 a o q)) (Nat.not_lt.mpr (z ▸ hsz))
  have h7 := size781 (w := w) (G.keeps (h' := h1) fun b o _ q => k1 b o q)
  have G2 : Gr w h2 := G.keeps fun b o hlt q => hk2 b o (k1 b o q) (fun z => absurd hlt (Nat.not_lt.mpr (z ▸ hit)))
  have O2 := mkOk (A := A) (t₀ := i1) (sps := []) (ini := [e]) G2 hb (by intro a ha; replace ha := memL ha; subst ha; exact Nat.le_trans h7 hsz) (by omega) (fun sp hm => nomatch hm)
  rw [hh0] at O2
  refine hcont (.error (.ref e)) h2 i1 (cfgH w b c h2 i1 none []) _ _ [1] rfl O2 (mkHp (h := h2) (own := [(e, excO "StopIteration" t')]) (by intro p hp; replace hp := memL hp; subst hp; exact he) (by first | trivial | simp)) fun stk2 => ?_
  refine fine_ret (runLE2_is w.params b c n hn _ _ _ _ stk stk2 F W it acc cd j e t') fun h3 i3 hl3 hk3 => ?_
  exact hR h3 i3 fun x o q z => hk3 x o (hk2 x o (k1 x o q) z) (by simp only [List.mem_cons, List.not_mem_nil, or_false]; exact hne x o q)
/-- comprehension 0: the signs of the numbers -/
theorem loop0 (hA : A.depth + 200 ≤ recursionLimit) (hh0 : A.handled = none) (ap : [it, acc, cd, W].Nodup) (hi : ∀ a ∈ [it, acc, cd, W], 781 ≤ a) {xs : List Value} {zs : List Int} {cn : Nat} (hst : IntsAre xs zs) (hlen : xs.length < 50000) :
    ∀ (n : Nat) (s : Shared) (first : Bool) (j : Nat) (ys : List Value) (vs : List (List Nat)) (cy : Nat), xs.length = j + n → (first = true → 0 < n) → Gr w s.heap → KAt w.params "x" W it acc cd s.heap first j xs ys cn cy → StrsAre ys vs → ys.length = j →
    (∀ h i ys' cy' t v, StrsAre ys' (vs ++ (zs.drop j).map fun z => [signF z]) → h.get? acc = some (listO ys' cy') → h.get? cd = some (cdV w.params "x" t v) → (∀ b o, s.heap.get? b = some o → b ∉ [it, acc, cd] → h.get? b = some o) → R (.ok .next) ⟨h, s.gens, s.drawn, i, s.os⟩) →
    codeAny (model theProg w) A (LCm w.params 0 F it acc cd []) R s := by
  have ap' := ap
  simp only [List.nodup_cons, List.mem_cons, List.not_mem_nil, or_false, not_or] at ap'
  obtain ⟨⟨p1, p2, p3⟩, ⟨p4, p5⟩, p6, _⟩ := ap'
  have hb := fP_self w.params
  generalize w.params.followText "special-get-raises" = b at hb
  generalize w.params.followText "comprehension-iter-twice" = c at hb
  have eW : LCm w.params 0 F it acc cd [] = LCm (fP w.params b c) 0 F it acc cd [] := by rw [hb]
  intro n
  induction n with
  | zero =>
    intro s first j ys vs cy hj hf G X hys hyl hR
    have hws : zs.drop j = [] := List.drop_eq_nil_of_le (by rw [← hst.length]; omega)
    obtain ⟨t, v, hcd⟩ : ∃ t v, s.heap.get? cd = some (cdV w.params "x" t v) := by
      rcases X.cd with ⟨q, _⟩ | q
      · have := hf q; omega
      · exact q
    refine loopE (.inl rfl) hA hh0 (hi it (by first | trivial | simp)) G X.it X.W (by omega) fun h i k => ?_
    refine hR h i ys cy t v (by rw [hws]; simpa using hys) (k _ _ X.acc (fun z => p1 z.symm)) (k _ _ hcd (fun z => p2 z.symm)) fun x o q z => k x o q ?_
    replace z := noL z
    exact z.1
  | succ n ih =>
    intro s first j ys vs cy hj hf G X hys hyl hR
    obtain ⟨h₀, g, dr, t₀, os⟩ := s
    obtain ⟨z, tz, hx, hzx⟩ := hst.get (j := j) (by omega)
    have hdrop := drop_at hzx
    have hni : ∀ a ∈ [it, acc, cd, W], ∀ o, (ktb w.params).get a ≠ some o := fun a ha o ho => absurd (base_lt G.inn ho) (Nat.not_lt.mpr (hi a ha))
    have hq : z.fmod 6 = ((z.fmod 6).toNat : Int) := (Int.toNat_of_nonneg (Int.fmod_nonneg_of_pos z (by decide))).symm
    have O := mkOkQ (A := A) (t₀ := t₀) (ini := [it, acc, cd, W]) (sps := spT1 (fun i => t₀ + i) z (z.fmod 6) tz ⟨⟨[signF z]⟩⟩ (t₀ + 4) 1) (sqs := sqT1 W it acc j xs ys cn cy z tz ⟨⟨[signF z]⟩⟩ (t₀ + 4) 1) G hb hni (by omega) (by
        intro sp hm
        replace hm := memL hm
        rcases hm with rfl | rfl <;> intro A s hn ht
        · exact ans_mod _ _ _ _ _ (by decide) ht
        · have := ans_at (prog := theProg) (w := w) (A := A) (s := s) [92, 13, 10, 46, 97, 32] (t₀ + 1) (t₀ + 3) (t₀ + 4) (z.fmod 6).toNat (signF z) ht (by decide) (signF_at z)
          rw [← hq] at this
          exact this) (by
        intro sq hm
        replace hm := memL hm
        rcases hm with rfl | rfl <;> intro A s hn ht hm
        · exact ansq_lnext it W j 0 xs cn _ (hn _ (List.mem_cons_self ..)) (hn _ (List.mem_cons_of_mem _ (List.mem_cons_self ..))) hx
        · exact ansq_append acc ys _ cy 1 (hn _ (List.mem_cons_self ..)) (by omega))
    rw [hh0] at O
    have own : ∀ cdo, h₀.get? cd = some cdo → Hp [it, acc, cd, W] h₀ h₀ [(it, liO W j), (acc, listO ys cy), (cd, cdo), (W, listO xs cn)] 0 := fun cdo hcd => mkHp (own := [(it, liO W j), (acc, listO ys cy), (cd, cdo), (W, listO xs cn)]) (by
      intro p hp
      replace hp := memL hp
      rcases hp with rfl | rfl | rfl | rfl
      · exact X.it
      · exact X.acc
      · exact hcd
      · exact X.W) ap
    have go : ∀ (h : Heap) (i t : Nat), (∀ p ∈ [(it, liO W (j + 1)), (acc, listO (ys ++ [.str ⟨⟨[signF z]⟩⟩ (t₀ + 4)]) (cy + 1)), (cd, cdV w.params "x" t (.int z tz)), (W, listO xs cn)], h.get? p.1 = some p.2) → (∀ b o, h₀.get? b = some o → b ∉ [it, acc, cd, W] → h.get? b = some o) →
        codeAny (model theProg w) A (LCm (fP w.params b c) 0 F it acc cd []) R ⟨h, g, dr, i, os⟩ := by
      intro h i t h4 h5
      rw [← eW]
      have kk : ∀ a o, h₀.get? a = some o → a ∉ [it, acc, cd] → h.get? a = some o := fun a o q z' => by
        by_cases za : a = W
        · subst za; rw [Option.some.inj (q.symm.trans X.W)]; exact h4 (a, listO xs cn) (by first | trivial | simp)
        · refine h5 a o q ?_
          simp only [List.mem_cons, List.not_mem_nil, or_false, not_or] at z' ⊢
          exact ⟨z'.1, z'.2.1, z'.2.2, za⟩
      refine ih ⟨h, g, dr, i, os⟩ false (j + 1) _ (vs ++ [[signF z]]) (cy + 1) (by omega) (by intro q; cases q) (G.keeps fun b o hlt q => h5 b o q fun hm => absurd hlt (Nat.not_lt.mpr (hi b hm))) ⟨h4 _ (List.mem_cons_self ..), h4 _ (List.mem_cons_of_mem _ (List.mem_cons_self ..)), .inr ⟨t, _, h4 _ (List.mem_cons_of_mem _ (List.mem_cons_of_mem _ (List.mem_cons_self ..)))⟩, h4 _ (List.mem_cons_of_mem _ (List.mem_cons_of_mem _ (List.mem_cons_of_mem _ (List.mem_cons_self ..))))⟩ (hys.append (strs_one _ _)) (by simp only [List.length_append, List.length_cons, List.length_nil]; omega) fun h' i' ys2 cy2 t2 v2 q1 q2 q3 q4 => ?_
      exact hR h' i' ys2 cy2 t2 v2 (by rw [hdrop]; simpa using q1) q2 q3 fun a o q z' => q4 a o (kk a o q z') z'
    rw [eW]
    rcases X.cd with ⟨_, hcd⟩ | ⟨t, v, hcd⟩
    · exact run_fine O (own _ hcd) (adv := [0, 1, 8, 5, 5, 5, 4, 6, 10, 1]) fun stk => fine_cut (runT1F_is w.params b c _ _ stk F W it acc cd j xs ys cn cy z _ tz _ _ 1) fun h i q1 q2 => go h i _ q1 q2
    · exact run_fine O (own _ hcd) (adv := [0, 1, 8, 5, 5, 5, 4, 6, 10, 1]) fun stk => fine_cut (runT1T_is w.params b c _ _ stk F W it acc cd j xs ys cn cy z _ tz _ _ 1 t v) fun h i q1 q2 => go h i _ q1 q2
end
end
section
/-- the fronts of a text, from k on -/
noncomputable def frontsF (text : List Nat) : Nat → Nat → List (List Nat)
  | _, 0 => []
  | k, n + 1 => text.take k :: frontsF text (k + 1) n
section
variable {w : World} {A : Around} {R : Result → Shared → Prop} {F I acc cd C : Addr}
/-- comprehension 1: the fronts -/
theorem loop1 (hA : A.depth + 200 ≤ recursionLimit) (hh0 : A.handled = none) (ap : [I, acc, cd, C].Nodup) (hi : ∀ a ∈ [I, acc, cd, C], 781 ≤ a) {text : List Nat} {tb : Nat} (hl : text.length < 900) :
    ∀ (n : Nat) (s : Shared) (first : Bool) (k : Nat) (ys : List Value) (vs : List (List Nat)) (cy : Nat), text.length + 1 = k + n → (first = true → 0 < n) → Gr w s.heap → s.heap.get? I = some (riO k n) → s.heap.get? acc = some (listO ys cy) → ((first = true ∧ s.heap.get? cd = some cd0) ∨ ∃ t v, s.heap.get? cd = some (cdV w.params "k" t v)) → s.heap.get? C = some (cellV (.str ⟨⟨text⟩⟩ tb)) → StrsAre ys vs → ys.length = k →
    (∀ h i ys' cy' t v, StrsAre ys' (vs ++ frontsF text k n) → h.get? acc = some (listO ys' cy') → h.get? cd = some (cdV w.params "k" t v) → (∀ b o, s.heap.get? b = some o → b ∉ [I, acc, cd] → h.get? b = some o) → R (.ok .next) ⟨h, s.gens, s.drawn, i, s.os⟩) →
    codeAny (model theProg w) A (LCm w.params 1 F I acc cd (txC [] C)) R s := by
  have ap' := ap
  simp only [List.nodup_cons, List.mem_cons, List.not_mem_nil, or_false, not_or] at ap'
  obtain ⟨⟨p1, p2, p3⟩, ⟨p4, p5⟩, p6, _⟩ := ap'
  have hb := fP_self w.params
  generalize w.params.followText "special-get-raises" = b at hb
  generalize w.params.followText "comprehension-iter-twice" = c at hb
  have eW : LCm w.params 1 F I acc cd (txC [] C) = LCm (fP w.params b c) 1 F I acc cd (txC [] C) := by rw [hb]
  intro n
  induction n with
  | zero =>
    intro s first k ys vs cy hj hf G hI hacc hcd0 hC hys hyl hR
    obtain ⟨h₀, g, dr, t₀, os⟩ := s
    obtain ⟨t, v, hcd⟩ : ∃ t v, h₀.get? cd = some (cdV w.params "k" t v) := by
      rcases hcd0 with ⟨q, _⟩ | q
      · have := hf q; omega
      · exact q
    rw [eW]
    have O := mkOk (A := A) (t₀ := t₀) (sps := []) (ini := [I]) G hb (by intro a ha; replace ha := memL ha; subst ha; exact hi a (by first | trivial | simp)) (by omega) (fun sp hm => nomatch hm)
    rw [hh0] at O
    refine run_fine O (mkHp (h := h₀) (own := [(I, riO k 0)]) (by intro p hp; replace hp := memL hp; subst hp; exact hI) (by first | trivial | simp)) (adv := [0, 1, 0, 1, 0, 1, 1, 1, 5]) fun stk => fine_ret (runT2E_is w.params b c _ _ stk F I acc cd C _) fun h i hl hk' => ?_
    have kk : ∀ x o, h₀.get? x = some o → x ≠ I → h.get? x = some o := fun x o q z => hk' x o q (nmL z)
    refine hR h i ys cy t v (by simpa [frontsF] using hys) (kk _ _ hacc (fun z => p1 z.symm)) (kk _ _ hcd (fun z => p2 z.symm)) fun x o q z => kk x o q ?_
    replace z := noL z
    exact z.1
  | succ n ih =>
    intro s first k ys vs cy hj hf G hI hacc hcd0 hC hys hyl hR
    obtain ⟨h₀, g, dr, t₀, os⟩ := s
    have hni : ∀ a ∈ [I, acc, cd, C], ∀ o, (ktb w.params).get a ≠ some o := fun a ha o ho => absurd (base_lt G.inn ho) (Nat.not_lt.mpr (hi a ha))
    generalize htl : (if k - 0 = text.length then tb else t₀ + 2) = tl
    generalize hd1 : (if k - 0 = text.length then 0 else 1) = d1
    have hcut : ∀ (A : Around) (s : Shared) (a : Addr), s.heap.get? a = some (slTo k (t₀ + 0)) → s.toks = t₀ + 2 → Ans theProg w A s (bi "str.__getitem__" [.str ⟨⟨text⟩⟩ tb, .ref a]) (.str ⟨⟨text.take k⟩⟩ tl) d1 := fun A s a ha ht => by
      have := ans_cut (prog := theProg) (w := w) (A := A) (s := s) text tb (t₀ + 2) a none (some (k, t₀ + 0)) 0 k (Nat.zero_le _) (by omega) (range_none _ _) (by omega) ht ⟨_, ha, rfl, rfl⟩
      rw [htl, hd1] at this
      simpa using this
    have O := mkOkQ (A := A) (t₀ := t₀) (ini := [I, acc, cd, C]) (sps := spT2 (fun m => h₀.objs.size + m) (fun i => t₀ + i) ⟨⟨text⟩⟩ tb k ⟨⟨text.take k⟩⟩ tl d1) (sqs := sqT2 (fun i => t₀ + i) I acc k ((n : Int) + 1) ys cy ⟨⟨text.take k⟩⟩ tl d1) G hb hni (by omega) (by
        intro sp hm
        replace hm := memL hm
        subst hm
        intro A s hn ht
        exact hcut A s _ (hn _ (List.mem_singleton.mpr rfl)) ht) (by
        intro sq hm
        replace hm := memL hm
        rcases hm with rfl | rfl <;> intro A s hn ht hm
        · exact ansq_next I k ((n : Int) + 1) _ 0 (hn _ (List.mem_cons_self ..)) (by omega) ht
        · exact ansq_append acc ys _ cy 1 (hn _ (List.mem_cons_self ..)) (by omega))
    rw [hh0] at O
    have hI' : h₀.get? I = some (riO k ((n : Int) + 1)) := by have := hI; simpa using this
    have own : ∀ cdo, h₀.get? cd = some cdo → Hp [I, acc, cd, C] h₀ h₀ [(I, riO k ((n : Int) + 1)), (acc, listO ys cy), (cd, cdo), (C, cellV (.str ⟨⟨text⟩⟩ tb))] 0 := fun cdo hcd => mkHp (own := [(I, riO k ((n : Int) + 1)), (acc, listO ys cy), (cd, cdo), (C, cellV (.str ⟨⟨text⟩⟩ tb))]) (by
      intro p hp
      replace hp := memL hp
      rcases hp with rfl | rfl | rfl | rfl
      · exact hI'
      · exact hacc
      · exact hcd
      · exact hC) ap
    have go : ∀ (h : Heap) (i t : Nat) (v : Value), (∀ p ∈ [(I, riO ((k : Int) + 1) ((n : Int) + 1 - 1)), (acc, listO (ys ++ [.str ⟨⟨text.take k⟩⟩ tl]) (cy + 1)), (cd, cdV w.params "k" t v), (C, cellV (.str ⟨⟨text⟩⟩ tb))], h.get? p.1 = some p.2) → (∀ b o, h₀.get? b = some o → b ∉ [I, acc, cd, C] → h.get? b = some o) →
        codeAny (model theProg w) A (LCm (fP w.params b c) 1 F I acc cd (txC [] C)) R ⟨h, g, dr, i, os⟩ := by
      intro h i t v h4 h5
      rw [← eW]
      have kk : ∀ a o, h₀.get? a = some o → a ∉ [I, acc, cd] → h.get? a = some o := fun a o q z' => by
        by_cases za : a = C
        · subst za; rw [Option.some.inj (q.symm.trans hC)]; exact h4 (a, cellV (.str ⟨⟨text⟩⟩ tb)) (by first | trivial | simp)
        · refine h5 a o q ?_
          simp only [List.mem_cons, List.not_mem_nil, or_false, not_or] at z' ⊢
          exact ⟨z'.1, z'.2.1, z'.2.2, za⟩
      have hIn : h.get? I = some (riO ((k + 1 : Nat) : Int) n) := by
        have := h4 _ (List.mem_cons_self ..)
        rw [Int.add_sub_cancel] at this
        exact this
      refine ih ⟨h, g, dr, i, os⟩ false (k + 1) _ (vs ++ [text.take k]) (cy + 1) (by omega) (by intro q; cases q) (G.keeps fun b o hlt q => h5 b o q fun hm => absurd hlt (Nat.not_lt.mpr (hi b hm))) hIn (h4 _ (List.mem_cons_of_mem _ (List.mem_cons_self ..))) (.inr ⟨t, _, h4 _ (List.mem_cons_of_mem _ (List.mem_cons_of_mem _ (List.mem_cons_self ..)))⟩) (h4 _ (List.mem_cons_of_mem _ (List.mem_cons_of_mem _ (List.mem_cons_of_mem _ (List.mem_cons_self ..))))) (hys.append (strs_one _ _)) (by simp only [List.length_append, List.length_cons, List.length_nil]; omega) fun h' i' ys2 cy2 t2 v2 q1 q2 q3 q4 => ?_
      exact hR h' i' ys2 cy2 t2 v2 (by simpa [frontsF] using q1) q2 q3 fun a o q z' => q4 a o (kk a o q z') z'
    rw [eW]
    rcases hcd0 with ⟨_, hcd⟩ | ⟨t, v, hcd⟩
    · exact run_fine O (own _ hcd) (adv := [0, 1, 6, 5, 5, 7, 5, 4, 8, 1]) fun stk => fine_cut (runT2F_is w.params b c _ _ stk F I acc cd C k _ ys cy _ tb _ tl d1) fun h i q1 q2 => go h i _ _ q1 q2
    · exact run_fine O (own _ hcd) (adv := [0, 1, 6, 5, 5, 7, 5, 4, 8, 1]) fun stk => fine_cut (runT2T_is w.params b c _ _ stk F I acc cd C k _ ys cy _ tb _ tl d1 t v) fun h i q1 q2 => go h i _ _ q1 q2
end
end
section
/-- a value that tells a result: a list of words, or the text of the error -/
noncomputable def ResAt (X : List Addr) (h : Heap) (v : Value) (r : Option (List (List Nat))) : Prop := match r with
  | some ws => ∃ l vs c, v = .ref l ∧ l ∉ X ∧ h.get? l = some (listO vs c) ∧ StrsAre vs ws
  | none => ∃ t, v = .str noEsc t
theorem ResAt.rs {X : List Addr} {h : Heap} {v : Value} {r : Option (List (List Nat))} (x : ResAt X h v r) : RS v := by
  cases r with
  | none => obtain ⟨t, e⟩ := x; exact .inr ⟨_, _, e⟩
  | some ws => obtain ⟨l, _, _, e, _⟩ := x; exact .inl ⟨l, e⟩
theorem ResAt.keeps {X Y : List Addr} {h h' : Heap} {v : Value} {r : Option (List (List Nat))} (x : ResAt X h v r) (hk : ∀ b o, h.get? b = some o → b ∉ X → h'.get? b = some o ∧ b ∉ Y) : ResAt Y h' v r := by
  cases r with
  | none => exact x
  | some ws =>
    obtain ⟨l, vs, c, e, n, q, st⟩ := x
    exact ⟨l, vs, c, e, (hk l _ q n).2, (hk l _ q n).1, st⟩
/-- a pair of such values -/
noncomputable def PairAt (X : List Addr) (h : Heap) (v : Value) (r : Option (List (List Nat)) × Option (List (List Nat))) : Prop :=
  ∃ p v1 v2 c, v = .ref p ∧ p ∉ X ∧ h.get? p = some (listO [v1, v2] c) ∧ ResAt X h v1 r.1 ∧ ResAt X h v2 r.2
theorem PairAt.keeps {X Y : List Addr} {h h' : Heap} {v : Value} {r} (x : PairAt X h v r) (hk : ∀ b o, h.get? b = some o → b ∉ X → h'.get? b = some o ∧ b ∉ Y) : PairAt Y h' v r := by
  obtain ⟨p, v1, v2, c, e, n, q, a, b⟩ := x
  exact ⟨p, v1, v2, c, e, (hk p _ q n).2, (hk p _ q n).1, a.keeps hk, b.keeps hk⟩
noncomputable def PairsAt (X : List Addr) (h : Heap) : List Value → List (Option (List (List Nat)) × Option (List (List Nat))) → Prop
  | [], [] => True
  | v :: vs, r :: rs => PairAt X h v r ∧ PairsAt X h vs rs
  | _, _ => False
theorem PairsAt.keeps {X Y : List Addr} {h h' : Heap} (hk : ∀ b o, h.get? b = some o → b ∉ X → h'.get? b = some o ∧ b ∉ Y) : ∀ {vs : List Value} {rs}, PairsAt X h vs rs → PairsAt Y h' vs rs
  | [], [], _ => trivial
  | _ :: _, _ :: _, x => ⟨x.1.keeps hk, x.2.keeps hk⟩
  | [], _ :: _, x => x.elim
  | _ :: _, [], x => x.elim
theorem PairsAt.append {X : List Addr} {h : Heap} : ∀ {vs vs' : List Value} {rs rs'}, PairsAt X h vs rs → PairsAt X h vs' rs' → PairsAt X h (vs ++ vs') (rs ++ rs')
  | [], _, [], _, _, y => y
  | _ :: _, _, _ :: _, _, x, y => ⟨x.1, x.2.append y⟩
  | [], _, _ :: _, _, x, _ => x.elim
  | _ :: _, _, [], _, x, _ => x.elim
section
variable {w : World} {R : Result → Shared → Prop}
theorem heard_v {A : Around} (hA : A.depth + 300 ≤ recursionLimit) (hU : A.units + 1000 < cLine) (hh0 : A.handled = none) {outer : List Env} (hfr : A.frames = some outer) (hhi : ∀ a ∈ framesOf outer, 781 ≤ a) {s : Shared} (G : Gr w s.heap) (F : FunOk s.heap outer) (text : List Nat) (tb : Nat) (hs : ∀ x ∈ text, isSign x) (hl : text.length < 900) (X : List Addr) (hX : ∀ a ∈ X, ∃ o, s.heap.get? a = some o)
    (hR : ∀ h i v, ResAt X h v (allF false text) → UpTo outer [] s.heap h → R (.ok (.ret v)) ⟨h, s.gens, s.drawn, i, s.os⟩) : codeAny (model theProg w) A (heardC ⟨⟨text⟩⟩ tb) R s :=
  heard_is hA hU hh0 hfr hhi G F text tb hs hl (fun ws hws h i l vs c' hn h7 hst hl U => hR h i (.ref l) (by
    rw [hws]
    exact ⟨l, vs, c', rfl, (fun hm => by obtain ⟨o, q⟩ := hX l hm; rw [hn] at q; cases q), hl, hst⟩) U) fun hno h i tk U => hR h i (.str noEsc tk) (by rw [hno]; exact ⟨tk, rfl⟩) U
theorem due_v {A : Around} (hA : A.depth + 400 ≤ recursionLimit) (hh0 : A.handled = none) {s : Shared} (G : Gr w s.heap) (text : List Nat) (tb : Nat) (sent : Bool) (hs : ∀ c ∈ text, isSign c) (hl : text.length < 800) (X : List Addr) (hX : ∀ a ∈ X, ∃ o, s.heap.get? a = some o)
    (hR : ∀ h i v, ResAt X h v (dueF sent text) → (∀ b o, s.heap.get? b = some o → h.get? b = some o) → R (.ok (.ret v)) ⟨h, s.gens, s.drawn, i, s.os⟩) : codeAny (model theProg w) A (dueC ⟨⟨text⟩⟩ tb sent) R s :=
  due_is hA hh0 G text tb sent hs hl (fun ws hws h i l vs c' hn h7 hst hl k => hR h i (.ref l) (by
    rw [hws]
    exact ⟨l, vs, c', rfl, (fun hm => by obtain ⟨o, q⟩ := hX l hm; rw [hn] at q; cases q), hl, hst⟩) k) fun hno h i tk k => hR h i (.str noEsc tk) (by rw [hno]; exact ⟨tk, rfl⟩) k
end
theorem runT3a_envs (P : Params) (b c : Bool) (rho tau : Nat → Nat) (stk : Stk) (F W it acc cd : Addr) (j : Int) (fs ys : List Value) (cn cy : Nat) (x : Str) (tx : Nat) (ov : Option (Nat × Value)) : kenvV (runT3a P b c rho tau stk F W it acc cd j fs ys cn cy x tx ov) = some [] := by
  rcases ov with _ | ⟨t, v⟩ <;> cases b <;> kernel_rfl
theorem runT3c_envs (P : Params) (b c : Bool) (rho tau : Nat → Nat) (stk : Stk) (F W it acc cd : Addr) (j : Int) (fs ys : List Value) (cn cy : Nat) (x : Str) (tx : Nat) (ov : Option (Nat × Value)) (rho2 tau2 : Nat → Nat) (stk2 : Stk) (v1 : Value) (rho3 tau3 : Nat → Nat) (stk3 : Stk) (q : Str) (tq : Nat) (h1 : RS v1) : kenvV (runT3c P b c rho tau stk F W it acc cd j fs ys cn cy x tx ov rho2 tau2 stk2 v1 rho3 tau3 stk3 q tq) = some [] := by
  rcases ov with _ | ⟨t, v⟩ <;> rcases h1 with ⟨a1, rfl⟩ | ⟨x1, t1, rfl⟩ <;> cases b <;> kernel_rfl
end
section
section
variable {w : World} {A : Around} {R : Result → Shared → Prop} {F W it acc cd : Addr}
theorem turn2 {outer : List Env} (hA : A.depth + 400 ≤ recursionLimit) (hU : A.units + 2000 < cLine) (hh0 : A.handled = none) (hfr : A.frames = some outer) (hhi : ∀ a ∈ framesOf outer, 781 ≤ a) (ap : [it, acc, cd, W].Nodup) (hi : ∀ a ∈ [it, acc, cd, W], 781 ≤ a) (hout : ∀ a ∈ framesOf outer, a ∉ [it, acc, cd, W])
    {b c : Bool} (hb : fP w.params b c = w.params) {fs ys : List Value} {cn cy j : Nat} {x : List Nat} {tx : Nat} (hx : fs[j]? = some (.str ⟨⟨x⟩⟩ tx)) (hs : ∀ c ∈ x, isSign c) (hl : x.length < 300) (hsq : ∀ c ∈ quoteF x, isSign c) (hlq : (quoteF x).length < 900) (hyl : ys.length < 50000) {s : Shared} {ov : Option (Nat × Value)} (G : Gr w s.heap) (Fn : FunOk s.heap outer)
    (hit : s.heap.get? it = some (liO W j)) (hacc : s.heap.get? acc = some (listO ys cy)) (hcd : s.heap.get? cd = some (cdx w.params ov)) (hW : s.heap.get? W = some (listO fs cn))
    (hR : ∀ h i v t, PairAt (framesOf outer ++ [it, acc, cd]) h v (allF false x, allF false (quoteF x)) → h.get? it = some (liO W (j + 1)) → h.get? acc = some (listO (ys ++ [v]) (cy + 1)) → h.get? cd = some (cdV w.params "front" t (.str ⟨⟨x⟩⟩ tx)) → UpTo outer [it, acc, cd] s.heap h → codeAny (model theProg w) A (LCm (fP w.params b c) 2 F it acc cd []) R ⟨h, s.gens, s.drawn, i, s.os⟩) :
    codeAny (model theProg w) A (LCm (fP w.params b c) 2 F it acc cd []) R s := by
  obtain ⟨h₀, g, dr, t₀, os⟩ := s
  have ap' := ap
  replace ap' := ndL' ap'
  obtain ⟨⟨p1, p2, p3⟩, ⟨p4, p5⟩, p6⟩ := ap'
  have hni : ∀ a ∈ [it, acc, cd, W], ∀ o, (ktb w.params).get a ≠ some o := fun a ha o ho => absurd (base_lt G.inn ho) (Nat.not_lt.mpr (hi a ha))
  have nf : ∀ a ∈ [it, acc, cd, W], a ∉ framesOf outer := fun a ha hm => hout a hm ha
  have O1 := mkOkQ (A := A) (t₀ := t₀) (ini := [it, acc, cd, W]) (sps := []) (sqs := sqT3 W it j fs cn ⟨⟨x⟩⟩ tx) G hb hni (by omega) (fun sp hm => nomatch hm) (by
    intro sq hm
    replace hm := memL hm
    subst hm
    intro A s hn ht hm
    exact ansq_lnext it W j 0 fs cn _ (hn _ (List.mem_cons_self ..)) (hn _ (List.mem_cons_of_mem _ (List.mem_cons_self ..))) hx)
  rw [hh0] at O1
  refine run_fine O1 (mkHp (own := [(it, liO W j), (acc, listO ys cy), (cd, cdx w.params ov), (W, listO fs cn)]) (by
      intro p hp
      replace hp := memL hp
      rcases hp with rfl | rfl | rfl | rfl
      · exact hit
      · exact hacc
      · exact hcd
      · exact hW) ap) (adv := [0, 1, 4, 5, 5, 6, 5, 1526, 1]) fun stk => fine_callA hfr (runT3a_envs w.params b c _ _ stk F W it acc cd j fs ys cn cy ⟨⟨x⟩⟩ tx ov) (runT3a_is w.params b c _ _ stk F W it acc cd j fs ys cn cy ⟨⟨x⟩⟩ tx ov) fun A1 R1 h1 i1 hd1 hu1 hh1 hfr1 hl1 hk1 hc1 => ?_
  have it1 := hl1 _ (List.mem_cons_self ..)
  have acc1 := hl1 _ (List.mem_cons_of_mem _ (List.mem_cons_self ..))
  have cd1 := hl1 _ (List.mem_cons_of_mem _ (List.mem_cons_of_mem _ (List.mem_cons_self ..)))
  have W1 := hl1 _ (List.mem_cons_of_mem _ (List.mem_cons_of_mem _ (List.mem_cons_of_mem _ (List.mem_cons_self ..))))
  have k01 : ∀ b o, h₀.get? b = some o → b ∉ [it, acc, cd] → h1.get? b = some o := fun a o q z => by
    by_cases za : a = W
    · subst za; rw [Option.some.inj (q.symm.trans hW)]; exact W1
    · refine hk1 a o q ?_
      replace z := noL z
      refine nmL ?_
      exact ⟨z.1, z.2.1, z.2.2, za⟩
  have U01 : UpTo outer [it, acc, cd] h₀ h1 := UpTo.of_keep k01
  have hfb : ∀ a ∈ framesOf outer, a ∉ [it, acc, cd] := fun a ha hm => hout a ha (mem3 hm)
  have hi3 : ∀ a ∈ [it, acc, cd], 781 ≤ a := fun a ha => hi a (mem3 ha)
  have F1 : FunOk h1 outer := U01.fun Fn hfb
  have G1 : Gr w h1 := U01.gr G hi3 hhi
  have thereX : ∀ h : Heap, FunOk h outer → (∃ o, h.get? it = some o) → (∃ o, h.get? acc = some o) → (∃ o, h.get? cd = some o) → ∀ a ∈ framesOf outer ++ [it, acc, cd], ∃ o, h.get? a = some o := fun h f x1 x2 x3 a ha => by
    rcases List.mem_append.mp ha with hm | hm
    · obtain ⟨o, q, _⟩ := f.mem hm; exact ⟨o, q⟩
    · replace hm := memL hm
      rcases hm with rfl | rfl | rfl
      · exact x1
      · exact x2
      · exact x3
  refine heard_v (A := A1) (s := ⟨h1, g, dr, i1, os⟩) (by omega) (by omega) (hh1.trans hh0) hfr1 hhi G1 F1 x tx hs (by omega) (framesOf outer ++ [it, acc, cd]) (thereX h1 F1 ⟨_, it1⟩ ⟨_, acc1⟩ ⟨_, cd1⟩) fun h2 i2 v1 hv1 U12 => ?_
  have k12 : ∀ b o, h1.get? b = some o → b ∉ framesOf outer → h2.get? b = some o := fun b o q z => U12.keep b o q (by first | trivial | simp) z
  have G2 : Gr w h2 := U12.gr G1 (fun _ h => nomatch h) hhi
  have F2 : FunOk h2 outer := U12.fun F1 (by first | trivial | simp)
  have it2 := k12 _ _ it1 (nf it (by first | trivial | simp))
  have acc2 := k12 _ _ acc1 (nf acc (by first | trivial | simp))
  have cd2 := k12 _ _ cd1 (nf cd (by first | trivial | simp))
  have O2 := mkOk (A := A) (t₀ := i2) (sps := []) (ini := [cd]) G2 hb (by intro a ha; replace ha := memL ha; subst ha; exact hi a (by first | trivial | simp)) (by omega) (fun sp hm => nomatch hm)
  rw [hh0] at O2
  refine hc1 (.ok (.ret v1)) h2 i2 (cfgH w b c h2 i2 none []) [(cd, cdV w.params "front" (ctk ov (t₀ + 0)) (.str ⟨⟨x⟩⟩ tx))] _ [6, 6, 1, 1512, 1] rfl O2 (mkHp (h := h2) (own := [(cd, cdV w.params "front" (ctk ov (t₀ + 0)) (.str ⟨⟨x⟩⟩ tx))]) (by intro p hp; replace hp := memL hp; subst hp; exact cd2) (by first | trivial | simp)) fun stk2 => ?_
  refine fine_call (runT3b_is w.params b c _ _ stk F W it acc cd j fs ys cn cy ⟨⟨x⟩⟩ tx ov _ _ stk2 v1 hv1.rs) fun A2 R2 h3 i3 hd3 hh3 hl3 hk3 hc2 => ?_
  have k23 : ∀ b o, h2.get? b = some o → h3.get? b = some o := fun a o q => by
    by_cases z : a = cd
    · subst z; rw [Option.some.inj (q.symm.trans cd2)]; exact hl3 _ (List.mem_cons_self ..)
    · exact hk3 a o q (nmL z)
  have G3 : Gr w h3 := G2.keeps fun b o _ q => k23 b o q
  refine quote_is (A := A2) (s := ⟨h3, g, dr, i3, os⟩) (by omega) G3 x tx (by omega) fun h4 i4 tq k34 => ?_
  have G4 : Gr w h4 := G3.keeps fun b o _ q => k34 b o q
  have O4 := mkOk (A := A) (t₀ := i4) (sps := []) (ini := []) G4 hb (fun _ h => nomatch h) (by omega) (fun sp hm => nomatch hm)
  rw [hh0] at O4
  refine hc2 (.ok (.ret (.str ⟨⟨quoteF x⟩⟩ tq))) h4 i4 (cfgH w b c h4 i4 none []) [] [] [1526, 1] rfl O4 (mkHp (h := h4) (own := []) (fun _ h => nomatch h) List.nodup_nil) fun stk3 => ?_
  refine fine_callA hfr (runT3c_envs w.params b c _ _ stk F W it acc cd j fs ys cn cy ⟨⟨x⟩⟩ tx ov _ _ stk2 v1 _ _ stk3 ⟨⟨quoteF x⟩⟩ tq hv1.rs) (runT3c_is w.params b c _ _ stk F W it acc cd j fs ys cn cy ⟨⟨x⟩⟩ tx ov _ _ stk2 v1 _ _ stk3 ⟨⟨quoteF x⟩⟩ tq hv1.rs) fun A3 R3 h5 i5 hd5 hu5 hh5 hfr5 hl5 hk5 hc3 => ?_
  have k25 : ∀ b o, h2.get? b = some o → h5.get? b = some o := fun a o q => hk5 a o (k34 a o (k23 a o q)) (by first | trivial | simp)
  have U25 : UpTo outer [] h2 h5 := UpTo.of_keep fun b o q _ => k25 b o q
  have F5 : FunOk h5 outer := U25.fun F2 (by first | trivial | simp)
  have G5 : Gr w h5 := G2.keeps fun b o _ q => k25 b o q
  refine heard_v (A := A3) (s := ⟨h5, g, dr, i5, os⟩) (by omega) (by omega) (hh5.trans hh0) hfr5 hhi G5 F5 (quoteF x) tq hsq hlq (framesOf outer ++ [it, acc, cd]) (thereX h5 F5 ⟨_, k25 _ _ it2⟩ ⟨_, k25 _ _ acc2⟩ ⟨_, k25 _ _ cd2⟩) fun h6 i6 v2 hv2 U56 => ?_
  have k56 : ∀ b o, h5.get? b = some o → b ∉ framesOf outer → h6.get? b = some o := fun b o q z => U56.keep b o q (by first | trivial | simp) z
  have G6 : Gr w h6 := U56.gr G5 (fun _ h => nomatch h) hhi
  have acc6 := k56 _ _ (k25 _ _ acc2) (nf acc (by first | trivial | simp))
  have O6 := mkOkQ (A := A) (t₀ := i6) (ini := [acc]) (sps := []) (sqs := sqT3d (fun m => h6.objs.size + m) acc ys cy) G6 hb (by intro a ha o ho; replace ha := memL ha; subst ha; exact absurd (base_lt G6.inn ho) (Nat.not_lt.mpr (hi a (by first | trivial | simp)))) (by omega) (fun sp hm => nomatch hm) (by
    intro sq hm
    replace hm := memL hm
    subst hm
    intro A s hn ht hm
    exact ansq_append acc ys _ cy 0 (hn _ (List.mem_cons_self ..)) (by omega))
  rw [hh0] at O6
  refine hc3 (.ok (.ret v2)) h6 i6 (cfgHQ w b c h6 i6 none [] (sqT3d (fun m => h6.objs.size + m) acc ys cy)) [(acc, listO ys cy)] _ [4, 1] rfl O6 (mkHp (h := h6) (own := [(acc, listO ys cy)]) (by intro p hp; replace hp := memL hp; subst hp; exact acc6) (by first | trivial | simp)) fun stk4 => ?_
  refine fine_cut (runT3d_is w.params b c _ _ stk F W it acc cd j fs ys cn cy ⟨⟨x⟩⟩ tx ov _ _ stk2 v1 _ _ stk3 ⟨⟨quoteF x⟩⟩ tq _ _ stk4 v2 hv1.rs hv2.rs) fun h7 i7 hl7 hk7 => ?_
  have k67 : ∀ b o, h6.get? b = some o → b ≠ acc → h7.get? b = some o := fun a o q z => hk7 a o q (nmL z)
  have there6 : ∀ a ∈ framesOf outer ++ [it, acc, cd], ∃ o, h6.get? a = some o := thereX h6 (U56.fun F5 (by first | trivial | simp)) ⟨_, k56 _ _ (k25 _ _ it2) (nf it (by first | trivial | simp))⟩ ⟨_, acc6⟩ ⟨_, k56 _ _ (k25 _ _ cd2) (nf cd (by first | trivial | simp))⟩
  have inX : ∀ a, a ∉ framesOf outer ++ [it, acc, cd] → a ∉ framesOf outer ∧ a ≠ acc := fun a z => by
    rw [List.mem_append, not_or] at z
    exact ⟨z.1, fun e => z.2 (by simp [e])⟩
  refine hR h7 i7 (.ref (h6.objs.size + 0)) _ ⟨h6.objs.size + 0, v1, v2, 0, rfl, ?_, hl7 _ (List.mem_cons_of_mem _ (List.mem_cons_self ..)), ?_, ?_⟩ (k67 _ _ (k56 _ _ (k25 _ _ it2) (nf it (by first | trivial | simp))) p1) (hl7 _ (List.mem_cons_self ..)) (k67 _ _ (k56 _ _ (k25 _ _ cd2) (nf cd (by first | trivial | simp))) (fun e => p4 e.symm)) ?_
  · intro hm
    obtain ⟨o, q⟩ := there6 _ hm
    exact absurd (Heap.lt_size q) (Nat.not_lt.mpr (Nat.le_add_right ..))
  · exact hv1.keeps fun b o q z => ⟨k67 b o (k56 b o (k25 b o q) (inX b z).1) (inX b z).2, z⟩
  · exact hv2.keeps fun b o q z => ⟨k67 b o q (inX b z).2, z⟩
  · have U67 : UpTo outer [it, acc, cd] h6 h7 := UpTo.of_keep fun b o q z => k67 b o q fun e => z (by simp [e])
    exact (((U01.trans (U12.mono fun _ h => nomatch h)).trans (U25.mono fun _ h => nomatch h)).trans (U56.mono fun _ h => nomatch h)).trans U67
end
end
section
section
variable {w : World} {A : Around} {R : Result → Shared → Prop} {F W it acc cd : Addr}
theorem turn3 (hA : A.depth + 500 ≤ recursionLimit) (hh0 : A.handled = none) (ap : [it, acc, cd, W].Nodup) (hi : ∀ a ∈ [it, acc, cd, W], 781 ≤ a)
    {b c : Bool} (hb : fP w.params b c = w.params) {fs ys : List Value} {cn cy j : Nat} {x : List Nat} {tx : Nat} (hx : fs[j]? = some (.str ⟨⟨x⟩⟩ tx)) (hs : ∀ c ∈ x, isSign c) (hl : x.length < 300) (hyl : ys.length < 50000) {s : Shared} {ov : Option (Nat × Value)} (G : Gr w s.heap)
    (hit : s.heap.get? it = some (liO W j)) (hacc : s.heap.get? acc = some (listO ys cy)) (hcd : s.heap.get? cd = some (cdx w.params ov)) (hW : s.heap.get? W = some (listO fs cn))
    (hR : ∀ h i v t, PairAt [it, acc, cd] h v (dueF false x, dueF true x) → h.get? it = some (liO W (j + 1)) → h.get? acc = some (listO (ys ++ [v]) (cy + 1)) → h.get? cd = some (cdV w.params "front" t (.str ⟨⟨x⟩⟩ tx)) → (∀ b o, s.heap.get? b = some o → b ∉ [it, acc, cd] → h.get? b = some o) → codeAny (model theProg w) A (LCm (fP w.params b c) 3 F it acc cd []) R ⟨h, s.gens, s.drawn, i, s.os⟩) :
    codeAny (model theProg w) A (LCm (fP w.params b c) 3 F it acc cd []) R s := by
  obtain ⟨h₀, g, dr, t₀, os⟩ := s
  have ap' := ap
  replace ap' := ndL' ap'
  obtain ⟨⟨p1, p2, p3⟩, ⟨p4, p5⟩, p6⟩ := ap'
  have hni : ∀ a ∈ [it, acc, cd, W], ∀ o, (ktb w.params).get a ≠ some o := fun a ha o ho => absurd (base_lt G.inn ho) (Nat.not_lt.mpr (hi a ha))
  have O1 := mkOkQ (A := A) (t₀ := t₀) (ini := [it, acc, cd, W]) (sps := []) (sqs := sqT3 W it j fs cn ⟨⟨x⟩⟩ tx) G hb hni (by omega) (fun sp hm => nomatch hm) (by
    intro sq hm
    replace hm := memL hm
    subst hm
    intro A s hn ht hm
    exact ansq_lnext it W j 0 fs cn _ (hn _ (List.mem_cons_self ..)) (hn _ (List.mem_cons_of_mem _ (List.mem_cons_self ..))) hx)
  rw [hh0] at O1
  refine run_fine O1 (mkHp (own := [(it, liO W j), (acc, listO ys cy), (cd, cdx w.params ov), (W, listO fs cn)]) (by
      intro p hp
      replace hp := memL hp
      rcases hp with rfl | rfl | rfl | rfl
      · exact hit
      · exact hacc
      · exact hcd
      · exact hW) ap) (adv := [0, 1, 4, 5, 5, 6, 5, 1550, 1]) fun stk => fine_call (runT4a_is w.params b c _ _ stk F W it acc cd j fs ys cn cy ⟨⟨x⟩⟩ tx ov) fun A1 R1 h1 i1 hd1 hh1 hl1 hk1 hc1 => ?_
  have it1 := hl1 _ (List.mem_cons_self ..)
  have acc1 := hl1 _ (List.mem_cons_of_mem _ (List.mem_cons_self ..))
  have cd1 := hl1 _ (List.mem_cons_of_mem _ (List.mem_cons_of_mem _ (List.mem_cons_self ..)))
  have W1 := hl1 _ (List.mem_cons_of_mem _ (List.mem_cons_of_mem _ (List.mem_cons_of_mem _ (List.mem_cons_self ..))))
  have k01 : ∀ b o, h₀.get? b = some o → b ∉ [it, acc, cd] → h1.get? b = some o := fun a o q z => by
    by_cases za : a = W
    · subst za; rw [Option.some.inj (q.symm.trans hW)]; exact W1
    · refine hk1 a o q ?_
      replace z := noL z
      refine nmL ?_
      exact ⟨z.1, z.2.1, z.2.2, za⟩
  have hi3 : ∀ a ∈ [it, acc, cd], 781 ≤ a := fun a ha => hi a (mem3 ha)
  have G1 : Gr w h1 := G.keeps fun b o hlt q => k01 b o q fun hm => absurd hlt (Nat.not_lt.mpr (hi3 b hm))
  have thereX : ∀ h : Heap, (∃ o, h.get? it = some o) → (∃ o, h.get? acc = some o) → (∃ o, h.get? cd = some o) → ∀ a ∈ [it, acc, cd], ∃ o, h.get? a = some o := fun h x1 x2 x3 a hm => by
    replace hm := memL hm
    rcases hm with rfl | rfl | rfl
    · exact x1
    · exact x2
    · exact x3
  refine due_v (A := A1) (s := ⟨h1, g, dr, i1, os⟩) (by omega) (hh1.trans hh0) G1 x tx false hs (by omega) [it, acc, cd] (thereX h1 ⟨_, it1⟩ ⟨_, acc1⟩ ⟨_, cd1⟩) fun h2 i2 v1 hv1 k12 => ?_
  have G2 : Gr w h2 := G1.keeps fun b o _ q => k12 b o q
  have cd2 := k12 _ _ cd1
  have O2 := mkOk (A := A) (t₀ := i2) (sps := []) (ini := [cd]) G2 hb (by intro a ha; replace ha := memL ha; subst ha; exact hi a (by first | trivial | simp)) (by omega) (fun sp hm => nomatch hm)
  rw [hh0] at O2
  refine hc1 (.ok (.ret v1)) h2 i2 (cfgH w b c h2 i2 none []) [(cd, cdV w.params "front" (ctk ov (t₀ + 0)) (.str ⟨⟨x⟩⟩ tx))] _ [6, 1, 1550, 1] rfl O2 (mkHp (h := h2) (own := [(cd, cdV w.params "front" (ctk ov (t₀ + 0)) (.str ⟨⟨x⟩⟩ tx))]) (by intro p hp; replace hp := memL hp; subst hp; exact cd2) (by first | trivial | simp)) fun stk2 => ?_
  refine fine_call (runT4b_is w.params b c _ _ stk F W it acc cd j fs ys cn cy ⟨⟨x⟩⟩ tx ov _ _ stk2 v1 hv1.rs) fun A2 R2 h3 i3 hd3 hh3 hl3 hk3 hc2 => ?_
  have k23 : ∀ b o, h2.get? b = some o → h3.get? b = some o := fun a o q => by
    by_cases z : a = cd
    · subst z; rw [Option.some.inj (q.symm.trans cd2)]; exact hl3 _ (List.mem_cons_self ..)
    · exact hk3 a o q (nmL z)
  have k13 : ∀ b o, h1.get? b = some o → h3.get? b = some o := fun a o q => k23 a o (k12 a o q)
  have G3 : Gr w h3 := G2.keeps fun b o _ q => k23 b o q
  refine due_v (A := A2) (s := ⟨h3, g, dr, i3, os⟩) (by omega) (hh3.trans hh0) G3 x tx true hs (by omega) [it, acc, cd] (thereX h3 ⟨_, k13 _ _ it1⟩ ⟨_, k13 _ _ acc1⟩ ⟨_, k13 _ _ cd1⟩) fun h6 i6 v2 hv2 k36 => ?_
  have k16 : ∀ b o, h1.get? b = some o → h6.get? b = some o := fun a o q => k36 a o (k13 a o q)
  have G6 : Gr w h6 := G3.keeps fun b o _ q => k36 b o q
  have acc6 := k16 _ _ acc1
  have O6 := mkOkQ (A := A) (t₀ := i6) (ini := [acc]) (sps := []) (sqs := sqT3d (fun m => h6.objs.size + m) acc ys cy) G6 hb (by intro a ha o ho; replace ha := memL ha; subst ha; exact absurd (base_lt G6.inn ho) (Nat.not_lt.mpr (hi a (by first | trivial | simp)))) (by omega) (fun sp hm => nomatch hm) (by
    intro sq hm
    replace hm := memL hm
    subst hm
    intro A s hn ht hm
    exact ansq_append acc ys _ cy 0 (hn _ (List.mem_cons_self ..)) (by omega))
  rw [hh0] at O6
  refine hc2 (.ok (.ret v2)) h6 i6 (cfgHQ w b c h6 i6 none [] (sqT3d (fun m => h6.objs.size + m) acc ys cy)) [(acc, listO ys cy)] _ [4, 1] rfl O6 (mkHp (h := h6) (own := [(acc, listO ys cy)]) (by intro p hp; replace hp := memL hp; subst hp; exact acc6) (by first | trivial | simp)) fun stk4 => ?_
  refine fine_cut (runT4d_is w.params b c _ _ stk F W it acc cd j fs ys cn cy ⟨⟨x⟩⟩ tx ov _ _ stk2 v1 _ _ stk4 v2 hv1.rs hv2.rs) fun h7 i7 hl7 hk7 => ?_
  have k67 : ∀ b o, h6.get? b = some o → b ≠ acc → h7.get? b = some o := fun a o q z => hk7 a o q (nmL z)
  have there6 : ∀ a ∈ [it, acc, cd], ∃ o, h6.get? a = some o := thereX h6 ⟨_, k16 _ _ it1⟩ ⟨_, acc6⟩ ⟨_, k16 _ _ cd1⟩
  have inX : ∀ a, a ∉ [it, acc, cd] → a ≠ acc := fun a z e => z (by simp [e])
  refine hR h7 i7 (.ref (h6.objs.size + 0)) _ ⟨h6.objs.size + 0, v1, v2, 0, rfl, ?_, hl7 _ (List.mem_cons_of_mem _ (List.mem_cons_self ..)), ?_, ?_⟩ (k67 _ _ (k16 _ _ it1) p1) (hl7 _ (List.mem_cons_self ..)) (k67 _ _ (k16 _ _ cd1) (fun e => p4 e.symm)) fun b o q z => k67 b o (k16 b o (k01 b o q z)) (inX b z)
  · intro hm
    obtain ⟨o, q⟩ := there6 _ hm
    exact absurd (Heap.lt_size q) (Nat.not_lt.mpr (Nat.le_add_right ..))
  · exact hv1.keeps fun b o q z => ⟨k67 b o (k36 b o (k23 b o q)) (inX b z), z⟩
  · exact hv2.keeps fun b o q z => ⟨k67 b o q (inX b z), z⟩
end
end
section
theorem crlf_sign : ∀ (l : List Nat) (cr : Bool), (∀ c ∈ l, isSign c) → (∀ c ∈ crlfF cr l, isSign c) ∧ (crlfF cr l).length ≤ 2 * l.length
  | [], _, _ => ⟨(fun _ h => nomatch h), Nat.le_refl _⟩
  | c :: r, cr, h => by
    have hc := h c (List.mem_cons_self ..)
    have hr : ∀ c ∈ r, isSign c := fun x hx => h x (List.mem_cons_of_mem _ hx)
    have s13 : isSign 13 := by simp [isSign]
    have s10 : isSign 10 := by simp [isSign]
    have t1 := crlf_sign r true hr
    have t2 := crlf_sign r false hr
    unfold crlfF
    split
    · refine ⟨fun x hx => ?_, by simp only [List.length_cons]; omega⟩
      rcases List.mem_cons.mp hx with rfl | hx
      · exact s13
      · rcases List.mem_cons.mp hx with rfl | hx
        · exact s10
        · exact t1.1 x hx
    · split
      · split
        · exact ⟨t2.1, by simp only [List.length_cons]; omega⟩
        · refine ⟨fun x hx => ?_, by simp only [List.length_cons]; omega⟩
          rcases List.mem_cons.mp hx with rfl | hx
          · exact s13
          · rcases List.mem_cons.mp hx with rfl | hx
            · exact s10
            · exact t2.1 x hx
      · refine ⟨fun x hx => ?_, by simp only [List.length_cons]; omega⟩
        rcases List.mem_cons.mp hx with rfl | hx
        · exact hc
        · exact t2.1 x hx
theorem dot_sign : ∀ (l : List Nat) (b : Bool), (∀ c ∈ l, isSign c) → (∀ c ∈ dotF b l, isSign c) ∧ (dotF b l).length ≤ 2 * l.length
  | [], _, _ => ⟨(fun _ h => nomatch h), Nat.le_refl _⟩
  | c :: r, b, h => by
    have hc := h c (List.mem_cons_self ..)
    have hr : ∀ c ∈ r, isSign c := fun x hx => h x (List.mem_cons_of_mem _ hx)
    have s46 : isSign 46 := by simp [isSign]
    have t1 := dot_sign r false hr
    have t2 := dot_sign r (c == 10) hr
    unfold dotF
    split
    · refine ⟨fun x hx => ?_, by simp only [List.length_cons]; omega⟩
      rcases List.mem_cons.mp hx with rfl | hx
      · exact s46
      · rcases List.mem_cons.mp hx with rfl | hx
        · exact s46
        · exact t1.1 x hx
    · refine ⟨fun x hx => ?_, by simp only [List.length_cons]; omega⟩
      rcases List.mem_cons.mp hx with rfl | hx
      · exact hc
      · exact t2.1 x hx
theorem quote_sign {l : List Nat} (h : ∀ c ∈ l, isSign c) : (∀ c ∈ quoteF l, isSign c) ∧ (quoteF l).length ≤ 4 * l.length := by
  have a := crlf_sign l false h
  have b := dot_sign _ true a.1
  exact ⟨b.1, by have := b.2; unfold quoteF; omega⟩
section
variable {w : World} {A : Around} {R : Result → Shared → Prop} {F W it acc cd : Addr}
/-- comprehension 2: what is told -/
theorem loop2 {outer : List Env} (hA : A.depth + 400 ≤ recursionLimit) (hU : A.units + 2000 < cLine) (hh0 : A.handled = none) (hfr : A.frames = some outer) (hhi : ∀ a ∈ framesOf outer, 781 ≤ a) (ap : [it, acc, cd, W].Nodup) (hi : ∀ a ∈ [it, acc, cd, W], 781 ≤ a) (hout : ∀ a ∈ framesOf outer, a ∉ [it, acc, cd, W]) {fs : List Value} {ws : List (List Nat)} {cn : Nat} (hst : StrsAre fs ws) (hsg : ∀ x ∈ ws, (∀ c ∈ x, isSign c) ∧ x.length < 200) (hlen : fs.length < 40000) :
    ∀ (n : Nat) (s : Shared) (first : Bool) (j : Nat) (ys : List Value) (rs : List (Option (List (List Nat)) × Option (List (List Nat)))) (cy : Nat), fs.length = j + n → (first = true → 0 < n) → Gr w s.heap → FunOk s.heap outer → KAt w.params "front" W it acc cd s.heap first j fs ys cn cy → PairsAt (framesOf outer ++ [it, acc, cd]) s.heap ys rs → ys.length = j →
    (∀ h i ys' cy' t v, PairsAt (framesOf outer ++ [it, acc, cd]) h ys' (rs ++ (ws.drop j).map fun x => (allF false x, allF false (quoteF x))) → ys'.length = fs.length → h.get? acc = some (listO ys' cy') → h.get? cd = some (cdV w.params "front" t v) → UpTo outer [it, acc, cd] s.heap h → R (.ok .next) ⟨h, s.gens, s.drawn, i, s.os⟩) →
    codeAny (model theProg w) A (LCm w.params 2 F it acc cd []) R s := by
  have ap' := ap
  replace ap' := ndL' ap'
  obtain ⟨⟨p1, p2, p3⟩, ⟨p4, p5⟩, p6⟩ := ap'
  have hb := fP_self w.params
  generalize w.params.followText "special-get-raises" = b at hb
  generalize w.params.followText "comprehension-iter-twice" = c at hb
  have eW : LCm w.params 2 F it acc cd [] = LCm (fP w.params b c) 2 F it acc cd [] := by rw [hb]
  intro n
  induction n with
  | zero =>
    intro s first j ys rs cy hj hf G Fn X hys hyl hR
    have hws : ws.drop j = [] := List.drop_eq_nil_of_le (by rw [← hst.length]; omega)
    obtain ⟨t, v, hcd⟩ : ∃ t v, s.heap.get? cd = some (cdV w.params "front" t v) := by
      rcases X.cd with ⟨q, _⟩ | q
      · have := hf q; omega
      · exact q
    refine loopE (.inr (.inl rfl)) (by omega) hh0 (hi it (by first | trivial | simp)) G X.it X.W (by omega) fun h i k => ?_
    refine hR h i ys cy t v (by rw [hws]; simpa using hys.keeps fun b o q z => ⟨k b o q fun e => z (by simp [e]), z⟩) (by omega) (k _ _ X.acc (fun z => p1 z.symm)) (k _ _ hcd (fun z => p2 z.symm)) (UpTo.of_keep fun x o q z => k x o q fun e => z (by simp [e]))
  | succ n ih =>
    intro s first j ys rs cy hj hf G Fn X hys hyl hR
    obtain ⟨x, tx, hx, hwx⟩ := hst.get (j := j) (by omega)
    have hdrop := drop_at hwx
    obtain ⟨hs, hl⟩ := hsg x (List.mem_of_getElem? hwx)
    obtain ⟨q1, q2⟩ := quote_sign hs
    have go : ∀ h i v t, PairAt (framesOf outer ++ [it, acc, cd]) h v (allF false x, allF false (quoteF x)) → h.get? it = some (liO W (j + 1)) → h.get? acc = some (listO (ys ++ [v]) (cy + 1)) → h.get? cd = some (cdV w.params "front" t (.str ⟨⟨x⟩⟩ tx)) → UpTo outer [it, acc, cd] s.heap h → codeAny (model theProg w) A (LCm (fP w.params b c) 2 F it acc cd []) R ⟨h, s.gens, s.drawn, i, s.os⟩ := by
      intro h i v t a1 a2 a3 a4 U
      rw [← eW]
      have hfb : ∀ a ∈ framesOf outer, a ∉ [it, acc, cd] := fun a ha hm => hout a ha (mem3 hm)
      have hi3 : ∀ a ∈ [it, acc, cd], 781 ≤ a := fun a ha => hi a (mem3 ha)
      have hW' : h.get? W = some (listO fs cn) := U.keep _ _ X.W (by refine nmL ?_; exact ⟨fun e => p3 e.symm, fun e => p5 e.symm, fun e => p6 e.symm⟩) (fun hm => hout W hm (by first | trivial | simp))
      have hys' : PairsAt (framesOf outer ++ [it, acc, cd]) h ys rs := hys.keeps fun b o q z => by
        rw [List.mem_append, not_or] at z
        exact ⟨U.keep b o q z.2 z.1, by rw [List.mem_append, not_or]; exact z⟩
      have hone : PairsAt (framesOf outer ++ [it, acc, cd]) h [v] [(allF false x, allF false (quoteF x))] := ⟨a1, trivial⟩
      refine ih ⟨h, s.gens, s.drawn, i, s.os⟩ false (j + 1) _ _ (cy + 1) (by omega) (by intro q; cases q) (U.gr G hi3 hhi) (U.fun Fn hfb) ⟨a2, a3, .inr ⟨t, _, a4⟩, hW'⟩ (hys'.append hone) (by simp only [List.length_append, List.length_cons, List.length_nil]; omega) fun h' i' ys2 cy2 t2 v2 q1 q1' q2 q3 q4 => ?_
      exact hR h' i' ys2 cy2 t2 v2 (by rw [hdrop]; simpa using q1) q1' q2 q3 (U.trans q4)
    rw [eW]
    rcases X.cd with ⟨_, hcd⟩ | ⟨t, v, hcd⟩
    · exact turn2 (ov := none) hA hU hh0 hfr hhi ap hi hout hb hx hs (by omega) q1 (by omega) (by omega) G Fn X.it X.acc hcd X.W go
    · exact turn2 (ov := some (t, v)) hA hU hh0 hfr hhi ap hi hout hb hx hs (by omega) q1 (by omega) (by omega) G Fn X.it X.acc hcd X.W go
/-- comprehension 3: what is due -/
theorem loop3d (hA : A.depth + 500 ≤ recursionLimit) (hh0 : A.handled = none) (ap : [it, acc, cd, W].Nodup) (hi : ∀ a ∈ [it, acc, cd, W], 781 ≤ a) {fs : List Value} {ws : List (List Nat)} {cn : Nat} (hst : StrsAre fs ws) (hsg : ∀ x ∈ ws, (∀ c ∈ x, isSign c) ∧ x.length < 200) (hlen : fs.length < 40000) :
    ∀ (n : Nat) (s : Shared) (first : Bool) (j : Nat) (ys : List Value) (rs : List (Option (List (List Nat)) × Option (List (List Nat)))) (cy : Nat), fs.length = j + n → (first = true → 0 < n) → Gr w s.heap → KAt w.params "front" W it acc cd s.heap first j fs ys cn cy → PairsAt [it, acc, cd] s.heap ys rs → ys.length = j →
    (∀ h i ys' cy' t v, PairsAt [it, acc, cd] h ys' (rs ++ (ws.drop j).map fun x => (dueF false x, dueF true x)) → ys'.length = fs.length → h.get? acc = some (listO ys' cy') → h.get? cd = some (cdV w.params "front" t v) → (∀ b o, s.heap.get? b = some o → b ∉ [it, acc, cd] → h.get? b = some o) → R (.ok .next) ⟨h, s.gens, s.drawn, i, s.os⟩) →
    codeAny (model theProg w) A (LCm w.params 3 F it acc cd []) R s := by
  have ap' := ap
  replace ap' := ndL' ap'
  obtain ⟨⟨p1, p2, p3⟩, ⟨p4, p5⟩, p6⟩ := ap'
  have hb := fP_self w.params
  generalize w.params.followText "special-get-raises" = b at hb
  generalize w.params.followText "comprehension-iter-twice" = c at hb
  have eW : LCm w.params 3 F it acc cd [] = LCm (fP w.params b c) 3 F it acc cd [] := by rw [hb]
  intro n
  induction n with
  | zero =>
    intro s first j ys rs cy hj hf G X hys hyl hR
    have hws : ws.drop j = [] := List.drop_eq_nil_of_le (by rw [← hst.length]; omega)
    obtain ⟨t, v, hcd⟩ : ∃ t v, s.heap.get? cd = some (cdV w.params "front" t v) := by
      rcases X.cd with ⟨q, _⟩ | q
      · have := hf q; omega
      · exact q
    refine loopE (.inr (.inr rfl)) (by omega) hh0 (hi it (by first | trivial | simp)) G X.it X.W (by omega) fun h i k => ?_
    refine hR h i ys cy t v (by rw [hws]; simpa using hys.keeps fun b o q z => ⟨k b o q fun e => z (by simp [e]), z⟩) (by omega) (k _ _ X.acc (fun z => p1 z.symm)) (k _ _ hcd (fun z => p2 z.symm)) fun x o q z => k x o q fun e => z (by simp [e])
  | succ n ih =>
    intro s first j ys rs cy hj hf G X hys hyl hR
    obtain ⟨x, tx, hx, hwx⟩ := hst.get (j := j) (by omega)
    have hdrop := drop_at hwx
    obtain ⟨hs, hl⟩ := hsg x (List.mem_of_getElem? hwx)
    have go : ∀ h i v t, PairAt [it, acc, cd] h v (dueF false x, dueF true x) → h.get? it = some (liO W (j + 1)) → h.get? acc = some (listO (ys ++ [v]) (cy + 1)) → h.get? cd = some (cdV w.params "front" t (.str ⟨⟨x⟩⟩ tx)) → (∀ b o, s.heap.get? b = some o → b ∉ [it, acc, cd] → h.get? b = some o) → codeAny (model theProg w) A (LCm (fP w.params b c) 3 F it acc cd []) R ⟨h, s.gens, s.drawn, i, s.os⟩ := by
      intro h i v t a1 a2 a3 a4 U
      rw [← eW]
      have hi3 : ∀ a ∈ [it, acc, cd], 781 ≤ a := fun a ha => hi a (mem3 ha)
      have hW' : h.get? W = some (listO fs cn) := U _ _ X.W (by refine nmL ?_; exact ⟨fun e => p3 e.symm, fun e => p5 e.symm, fun e => p6 e.symm⟩)
      have hys' : PairsAt [it, acc, cd] h ys rs := hys.keeps fun b o q z => ⟨U b o q z, z⟩
      have hone : PairsAt [it, acc, cd] h [v] [(dueF false x, dueF true x)] := ⟨a1, trivial⟩
      refine ih ⟨h, s.gens, s.drawn, i, s.os⟩ false (j + 1) _ _ (cy + 1) (by omega) (by intro q; cases q) (G.keeps fun b o hlt q => U b o q fun hm => absurd hlt (Nat.not_lt.mpr (hi3 b hm))) ⟨a2, a3, .inr ⟨t, _, a4⟩, hW'⟩ (hys'.append hone) (by simp only [List.length_append, List.length_cons, List.length_nil]; omega) fun h' i' ys2 cy2 t2 v2 q1 q1' q2 q3 q4 => ?_
      exact hR h' i' ys2 cy2 t2 v2 (by rw [hdrop]; simpa using q1) q1' q2 q3 fun b o q z => q4 b o (U b o q z) z
    rw [eW]
    rcases X.cd with ⟨_, hcd⟩ | ⟨t, v, hcd⟩
    · exact turn3 (ov := none) hA hh0 ap hi hb hx hs (by omega) (by omega) G X.it X.acc hcd X.W go
    · exact turn3 (ov := some (t, v)) hA hh0 ap hi hb hx hs (by omega) (by omega) G X.it X.acc hcd X.W go
end
end
section
section
variable {prog : Program} {w : World} {A : Around} {s : Shared}
theorem pick6 (xs : List Value) : slicePick xs.toArray none (some 6) none = (xs.take 6).toArray := by
  by_cases h : 6 ≤ xs.length
  · have := slicePick_upto xs.toArray 6 (by simpa using h)
    simpa using this
  · have e : sliceBounds none (some (6 : Int)) none xs.toArray.size = (((0 : Nat) : Int), (xs.toArray.size : Int), 1) := by
      simp only [sliceBounds, Option.getD_none, List.size_toArray]
      have h2 : ¬ ((6 : Int) < 0) := by omega
      simp only [h2, if_false, show (1 : Int) > 0 by decide, if_true]
      congr 1
      congr 1; omega
    unfold slicePick
    rw [e]
    simp only [sliceRange_one, pick_run]
    rw [List.drop_zero, Nat.sub_zero, List.take_of_length_le (by simp), List.take_of_length_le (by omega)]
theorem ansq_six (S sa : Addr) (xs : List Value) (cn : CnT) (t m : Nat) (hS : s.heap.get? S = some (listD xs cn)) (hs : s.heap.get? sa = some (sl6 t)) (hl : xs.length < 100000) (hm : s.heap.objs.size = m) :
    AnsQ prog w A s (bi "list.__getitem__" [.ref S, .ref sa]) none [listO (xs.take 6) 0] (.ref m) 0 := by
  subst hm
  have hI : s.heap.IsList S xs.toArray := ⟨_, hS, rfl, _, rfl⟩
  refine wpAny_call_entry slot_list_getitem hI.typeIs entry_list_getitem ?_ (args_list_getitem _ _)
  have hTs : s.TypeIs (.ref sa) "slice" := ⟨_, hs, rfl⟩
  show wpAny _ _ (Builtin.List.listSubscript? (.ref sa) >>= _) _ _ s
  refine wpAny_bind ?_
  unfold Builtin.List.listSubscript?
  refine wpAny_bind (wpAny_specialOf hTs slice_no_index ?_)
  simp only [Option.isNone_none, if_true]
  refine wpAny_pure ?_
  show wpAny _ _ (typeOf (.ref sa) >>= _) _ _ s
  refine wpAny_bind (wpAny_typeOf hTs ?_)
  rw [if_neg (by decide)]
  rw [listSliceParts_eq]
  have hds : (sl6 t).data = .fields #[.none, .int 6 t, .none] := rfl
  refine wpAny_bind (wpAny_bind (wpAny_field hs hds (x := .none) rfl (wpAny_bind (wpAny_listPart .none ?_))))
  rw [if_neg (show ¬ ((rawPart none == rawInt 0) = true) from Bool.false_ne_true)]
  refine wpAny_bind (wpAny_field hs hds (x := .none) rfl (wpAny_bind (wpAny_listPart .none ?_)))
  refine wpAny_bind (wpAny_field hs hds (x := .int 6 t) rfl (wpAny_bind (wpAny_listPart (.int 6 t) (wpAny_pure ?_))))
  refine wpAny_bind (m := Builtin.List.listItems (.ref S)) ?_
  unfold Builtin.List.listItems
  refine wpAny_bind (wpAny_seqItems hS rfl (wpAny_pure ?_))
  refine wpAny_bind (wpAny_of_eq (sliceIndices_raw none (some 6) none xs.toArray.size (by simp)) ?_)
  refine wpAny_bind (wpAny_newObj_type (wpAny_pure ⟨_, rfl, rfl, _, SqHeap.of_push (o := listO (xs.take 6) 0) rfl, ?_⟩) (Nat.le_trans (slicePick_size_le xs.toArray none (some 6) none) (by rw [sizeLine_eq]; simp only [List.size_toArray]; omega)))
  have := pick6 xs
  unfold slicePick at this
  show ({ s with heap := s.heap.push { cls := .type "list", data := .seq _ } } : Shared) = _
  rw [this]
  rfl
theorem ansq_addL (S b : Addr) (xs ys : List Value) (cn cm m : Nat) (hS : s.heap.get? S = some (listO xs cn)) (hb : s.heap.get? b = some (listO ys cm)) (hl : xs.length < 100000) (hl2 : ys.length < 100000) (hm : s.heap.objs.size = m) :
    AnsQ prog w A s (bi "list.__add__" [.ref S, .ref b]) none [listO (xs ++ ys) 0] (.ref m) 0 := by
  subst hm
  refine call_meets F.slot_list_add (T := "list") ⟨_, hS, rfl⟩ F.entry_list_add (F.args_list_add_2 _ _) (AutoSeq1.list___add___list_list_0 S xs.toArray cn b ys.toArray cm (by rw [sizeLine_eq]; simp only [List.size_toArray]; omega)) ⟨hS, hb, rfl, _, SqHeap.of_push (o := listO (xs ++ ys) 0) rfl, ?_⟩
  have : xs.toArray ++ ys.toArray = (xs ++ ys).toArray := by simp
  rw [this]
  rfl
theorem strs_values : ∀ {vs : List Value} {ws : List (List Nat)}, StrsAre vs ws → ∃ l : List (Str × Tok), vs = strValues l ∧ l.map (·.1) = ws.map (fun x => (⟨⟨x⟩⟩ : Str))
  | [], [], _ => ⟨[], rfl, rfl⟩
  | v :: vs, x :: ws, h => by
    obtain ⟨⟨t, e⟩, h2⟩ := h
    obtain ⟨l, e1, e2⟩ := strs_values h2
    exact ⟨(⟨⟨x⟩⟩, t) :: l, by rw [e, e1]; rfl, by simp [e2]⟩
  | [], _ :: _, h => h.elim
  | _ :: _, [], h => h.elim
theorem join_flat6 : ∀ ws : List (List Nat), Str.join ⟨#[]⟩ (ws.map fun x => (⟨⟨x⟩⟩ : Str)) = ⟨⟨ws.flatten⟩⟩
  | [] => rfl
  | [x] => by
    show (⟨⟨x⟩⟩ : Str) = _
    simp
  | x :: y :: r => by
    have h := join_flat6 (y :: r)
    show ((⟨⟨x⟩⟩ : Str) ++ ⟨#[]⟩ ++ Str.join ⟨#[]⟩ ((y :: r).map _)) = _
    rw [h]
    apply Str.ext'
    rw [Str.cps_append, Str.cps_append]
    simp
theorem ans_join (D : Addr) (vs : List Value) (ws : List (List Nat)) (c t k : Nat) (hD : s.heap.get? D = some (listO vs c)) (hst : StrsAre vs ws) (h2 : 2 ≤ ws.length) (hlen : ws.length < 1000) (hone : ∀ x ∈ ws, x.length ≤ 1) (hk : s.toks = k) :
    Ans prog w A s (bi "str.join" [.str ⟨#[]⟩ t, .ref D]) (.str ⟨⟨ws.flatten⟩⟩ k) 1 := by
  subst hk
  obtain ⟨l, e1, e2⟩ := strs_values hst
  have hll : l.length = ws.length := by have := congrArg List.length e2; simpa using this
  have hfit : Builtin.Str.tooLong ((l.map (·.1)).toArray.foldl (· + ·.length + (⟨#[]⟩ : Str).length) 0) = false := by
    have := StrLaws.joinFits (sep := ⟨#[]⟩) (texts := l.map (·.1)) (B := 1) (by
      intro y hy
      rw [e2, List.mem_map] at hy
      obtain ⟨x, hx, rfl⟩ := hy
      exact hone x hx) (by
      have : (⟨#[]⟩ : Str).length = 0 := rfl
      rw [this]; simp; omega)
    exact this
  refine call_meets F.slot_str_join (typeIs_str _ _ _) F.entry_str_join (F.args_str_join_2 _ _) (meets_str_join_list ⟨#[]⟩ t D l hfit) ⟨⟨_, hD, rfl, _, by rw [e1]⟩, ?_⟩
  have hj : Builtin.Str.glued ⟨#[]⟩ (l.map (·.1)) = ⟨⟨ws.flatten⟩⟩ := by rw [StrLaws.glued_eq_join, e2, join_flat6]
  have hmade : joinMade ⟨#[]⟩ l = .str (Builtin.Str.glued ⟨#[]⟩ (l.map (·.1))) := by
    match l, hll with
    | [], q => simp at q; omega
    | [_], q => simp at q; omega
    | _ :: _ :: _, _ => rfl
  rw [hmade, hj]
  have hfl := joinFit_length hfit
  unfold Txt.join at hfl
  rw [hj] at hfl
  exact ⟨hfl, rfl, rfl⟩
end
/-! equality of the two lists -/
section
open PySem.SeqAt
variable {A : Around} {s : Shared}
theorem strs_get : ∀ {vs : List Value} {ws : List (List Nat)}, StrsAre vs ws → vs.length = ws.length ∧ ∀ j (h : j < vs.length) (h2 : j < ws.length), ∃ t, vs[j] = .str ⟨⟨ws[j]⟩⟩ t
  | [], [], _ => ⟨rfl, fun j h => by simp at h⟩
  | v :: vs, x :: ws, h => by
    obtain ⟨e, g⟩ := strs_get h.2
    refine ⟨by simp [e], fun j h1 h2 => ?_⟩
    cases j with
    | zero => exact h.1
    | succ j => exact g j (by simpa using h1) (by simpa using h2)
  | [], _ :: _, h => h.elim
  | _ :: _, [], h => h.elim
theorem all_true (n : Nat) : (List.range n).all (fun _ => true) = true := by simp
theorem res_eq {X Y : List Addr} {v v' : Value} {r : Option (List (List Nat))} (hu : A.units < cLine) (a : ResAt X s.heap v r) (b : ResAt Y s.heap v' r) : EqAt A s v v' true := by
  cases r with
  | none =>
    obtain ⟨t, rfl⟩ := a
    obtain ⟨t', rfl⟩ := b
    have := (SeqRoads2.EqGives.str noEsc noEsc t t').at A s
    simpa using this
  | some ws =>
    obtain ⟨l, vs, c, rfl, _, hl, hst⟩ := a
    obtain ⟨l', vs', c', rfl, _, hl', hst'⟩ := b
    by_cases hne : l = l'
    · subst hne; exact EqAt.same _
    · refine EqAt.of_refs hne ?_
      obtain ⟨e1, g1⟩ := strs_get hst
      obtain ⟨e2, g2⟩ := strs_get hst'
      have := RcAt.lists (A := A) (s := s) (e := fun _ => true) (list_IsList hl) (list_IsList hl') (by simp [e1, e2]) hu (fun j h1 h2 => by
        simp only [List.size_toArray] at h1 h2
        obtain ⟨t, q⟩ := g1 j h1 (by omega)
        obtain ⟨t', q'⟩ := g2 j h2 (by omega)
        simp only [List.getElem_toArray, q, q']
        have := (SeqRoads2.EqGives.str ⟨⟨ws[j]⟩⟩ ⟨⟨ws[j]⟩⟩ t t').at A.in1 s
        simpa using this)
      rwa [all_true] at this
theorem pair_eq {X Y : List Addr} {v v' : Value} {r : Option (List (List Nat)) × Option (List (List Nat))} (hu : A.units < cLine) (hu1 : A.in1.units < cLine) (a : PairAt X s.heap v r) (b : PairAt Y s.heap v' r) : EqAt A s v v' true := by
  obtain ⟨l, a1, a2, c, rfl, _, hl, x1, x2⟩ := a
  obtain ⟨l', b1, b2, c', rfl, _, hl', y1, y2⟩ := b
  by_cases hne : l = l'
  · subst hne; exact EqAt.same _
  · refine EqAt.of_refs hne ?_
    have := RcAt.lists (A := A) (s := s) (e := fun _ => true) (list_IsList hl) (list_IsList hl') rfl hu (fun j h1 h2 => by
      match j, h1 with
      | 0, _ => exact res_eq hu1 x1 y1
      | 1, _ => exact res_eq hu1 x2 y2)
    rwa [all_true] at this
theorem pairs_get {X : List Addr} {h : Heap} : ∀ {vs : List Value} {rs}, PairsAt X h vs rs → vs.length = rs.length ∧ ∀ j (h1 : j < vs.length) (h2 : j < rs.length), PairAt X h vs[j] rs[j]
  | [], [], _ => ⟨rfl, fun j h => by simp at h⟩
  | v :: vs, x :: ws, h => by
    obtain ⟨e, g⟩ := pairs_get h.2
    refine ⟨by simp [e], fun j h1 h2 => ?_⟩
    cases j with
    | zero => exact h.1
    | succ j => exact g j (by simpa using h1) (by simpa using h2)
  | [], _ :: _, h => h.elim
  | _ :: _, [], h => h.elim
theorem pairs_eq {X Y : List Addr} {l l' : Addr} {vs vs' : List Value} {c c' : Nat} {rs} (hu : A.units < cLine) (hu1 : A.in1.units < cLine) (hu2 : A.in1.in1.units < cLine) (hl : s.heap.get? l = some (listO vs c)) (hl' : s.heap.get? l' = some (listO vs' c')) (a : PairsAt X s.heap vs rs) (b : PairsAt Y s.heap vs' rs) : RcAt A s (.ref l) (.ref l') true := by
  obtain ⟨e1, g1⟩ := pairs_get a
  obtain ⟨e2, g2⟩ := pairs_get b
  have := RcAt.lists (A := A) (s := s) (e := fun _ => true) (list_IsList hl) (list_IsList hl') (by simp [e1, e2]) hu (fun j h1 h2 => by
    simp only [List.size_toArray] at h1 h2
    simp only [List.getElem_toArray]
    exact pair_eq hu1 hu2 (g1 j h1 (by omega)) (g2 j h2 (by omega)))
  rwa [all_true] at this
end
end
section
theorem execs_app (env : Env) : ∀ a b : List Stmt, execs (a ++ b) env = execs a env >>= fun f => match f with | .next => execs b env | f => pure f
  | [], b => rfl
  | s :: a, b => by
    rw [List.cons_append, arm_execs_cons, arm_execs_cons, LawfulMonad.bind_assoc]
    congr 1
    funext f
    cases f <;> first | exact execs_app env a b | rfl
theorem chain_one (pos : Pos) (l : Value) (op : CmpOp) (r : Sem Value) : compareChain pos l [op] [r] = holding [l] r >>= fun rv => standAt pos >>= fun _ => operate [l, rv] (compareOp op l rv) := rfl
/-- a last statement `return x == y` -/
theorem last_of {M : Model} {A : Around} {c : Code} {env : Env} {x y : Expr} {q r : Pos} {Q : Flow → Shared → Prop} {E : Value → Shared → Prop} {s : Shared} (hy : behindInMarks .Eq y = false)
    (h : wpOwn M A c (eval x env) (fun v s1 => wpOwn M A c (eval y env) (fun u s2 => wpAny M (A.under c) (richCompare .Eq v u) (fun z s3 => Q (.ret z) s3) E s2) E s1) E s) :
    wpOwn M A c (execs [.Return (some (.Compare x [.Eq] [y] q)) r] env) Q E s := by
  intro Γ p hc hΓ
  have hin : Γ.In (A.under c) := hc ▸ hΓ.in
  rw [arm_execs_cons, arm_exec_Return, arm_evalOpt_some, arm_eval_Compare, arm_evalEach_cons, arm_evalEach_nil]
  simp only [markedEach, markedBehindIn, hy, chain_one, compareOp, Sem.wp_bind', Sem.wp_cmd_standAt, Sem.wp_holding, Sem.wp_operate, Sem.wp_pure']
  refine Sem.wp_mono _ Γ _ (fun v p1 s1 h1 => ?_) (fun _ _ _ h => h) _ s (h Γ _ hc hΓ)
  refine Sem.wp_mono _ Γ _ (fun u p2 s2 h2 => ?_) (fun _ _ _ h => h) _ s1 (h1 Γ _ hc hΓ)
  exact Sem.wp_mono _ Γ _ (fun z p3 s3 h3 => h3) (fun _ _ _ h => h) _ s2 (h2 Γ _ hin)
noncomputable def qv (Q : Value → Shared → Prop) (E : Value → Shared → Prop) : Result → Shared → Prop := fun r s => match r with
  | .ok (.ret v) => Q v s
  | .ok _ => False
  | .error e => E e s
theorem val_to {prog : Program} {w : World} {A : Around} {Q : Value → Shared → Prop} {E : Value → Shared → Prop} {c : Code} {m : Sem Value} {s : Shared} (h : wpOwn (model prog w) A c (treeV m) (postC prog w A (qv Q E)) (postE (qv Q E)) s) :
    wpOwn (model prog w) A c m Q E s := by
  intro Γ p hc hΓ
  have x := h Γ p hc hΓ
  unfold treeV at x
  rw [← PySem.W.R.bindR_eq] at x
  simp only [Sem.wp_bind] at x
  exact x
theorem lc_marks (P : Params) : behindInMarks .Eq (lcL P) = false := by kernel_rfl
theorem kind780 (P : Params) (F C : Addr) : (envL P F C).scope.kind = .function := by kernel_rfl
theorem frame780 (P : Params) (F C : Addr) : (envL P F C).frame = some F := by kernel_rfl
theorem fronts_mem {text : List Nat} : ∀ {n k : Nat} {x : List Nat}, x ∈ frontsF text k n → ∃ j, x = text.take j
  | 0, _, _, h => nomatch h
  | n + 1, k, x, h => by
    rcases List.mem_cons.mp h with rfl | h
    · exact ⟨k, rfl⟩
    · exact fronts_mem h
theorem fronts_len (text : List Nat) : ∀ n k : Nat, (frontsF text k n).length = n
  | 0, _ => rfl
  | n + 1, k => congrArg (· + 1) (fronts_len text n (k + 1))
theorem IntsAre.take : ∀ {vs : List Value} {zs : List Int} (n : Nat), IntsAre vs zs → IntsAre (vs.take n) (zs.take n)
  | _, _, 0, _ => by simp [IntsAre]
  | [], [], n + 1, _ => by simp [IntsAre]
  | v :: vs, z :: zs, n + 1, h => ⟨h.1, IntsAre.take n h.2⟩
  | [], _ :: _, _ + 1, h => h.elim
  | _ :: _, [], _ + 1, h => h.elim
theorem IntsAre.append : ∀ {vs vs' : List Value} {ws ws' : List Int}, IntsAre vs ws → IntsAre vs' ws' → IntsAre (vs ++ vs') (ws ++ ws')
  | [], _, [], _, _, h => h
  | _ :: _, _, _ :: _, _, h, h' => ⟨h.1, IntsAre.append h.2 h'⟩
  | [], _, _ :: _, _, h, _ => h.elim
  | _ :: _, _, [], _, h, _ => h.elim
theorem ten_ints (tau : Nat → Nat) : IntsAre (tenW tau) [4, 0, 2, 3, 0, 0, 1, 0, 5, 3] :=
  ⟨⟨_, rfl⟩, ⟨_, rfl⟩, ⟨_, rfl⟩, ⟨_, rfl⟩, ⟨_, rfl⟩, ⟨_, rfl⟩, ⟨_, rfl⟩, ⟨_, rfl⟩, ⟨_, rfl⟩, ⟨_, rfl⟩, trivial⟩
theorem flat_ones (f : Int → Nat) : ∀ l : List Int, (l.map fun z => [f z]).flatten = l.map f
  | [] => rfl
  | z :: l => congrArg (f z :: ·) (flat_ones f l)
theorem PairsAt.there {X : List Addr} {h : Heap} {vs : List Value} {rs} (x : PairsAt X h vs rs) {Y : List Addr} {h' : Heap} (hk : ∀ b o, h.get? b = some o → b ∉ X → h'.get? b = some o ∧ b ∉ Y) : PairsAt Y h' vs rs := x.keeps hk
section
variable {w : World} {R : Result → Shared → Prop}
theorem law_is {A : Around} (hA : A.depth + 600 ≤ recursionLimit) (hU : A.units + 3000 < cLine) (hh0 : A.handled = none) (hfr : A.frames = some []) {s : Shared} (G : Gr w s.heap) {S : Addr} {xs : List Value} {zs0 : List Int} {cn : CnT} (hS : s.heap.get? S = some (listD xs cn)) (hSb : ∀ o, (ktb w.params).get S ≠ some o) (hst : IntsAre xs zs0) (hlen : xs.length < 64)
    (hR : ∀ h i, (∀ b o, s.heap.get? b = some o → h.get? b = some o) → R (.ok (.ret (.bool true))) ⟨h, s.gens, s.drawn, i, s.os⟩) : codeAny (model theProg w) A (lawC S) R s := by
  obtain ⟨h₀, g, dr, t₀, os⟩ := s
  have hb := fP_self w.params
  generalize w.params.followText "special-get-raises" = b at hb
  generalize w.params.followText "comprehension-iter-twice" = c at hb
  have h7 : 781 ≤ h₀.objs.size := size781 G
  have hS0 : h₀.get? S = some (listD xs cn) := hS
  have hSlt := Heap.lt_size hS0
  have O0 := mkOk (A := A) (t₀ := t₀) (sps := []) (ini := []) G hb (fun _ h => nomatch h) (by omega) (fun sp hm => nomatch hm)
  rw [hh0] at O0
  refine run_fine O0 (mkHp (h := h₀) (own := []) (fun _ h => nomatch h) List.nodup_nil) (adv := [1563, 1, 1, 1]) fun stk0 => fine_cut (runL0_is w.params b c _ _ stk0 S) fun h1 i1 hl1 hk1 => ?_
  have k01 : ∀ b o, h₀.get? b = some o → h1.get? b = some o := fun x o q => hk1 x o q (by first | trivial | simp)
  have f1 : h1.get? (h₀.objs.size + 0) = some (frL0 w.params S (t₀ + 0)) := hl1 _ (List.mem_cons_self ..)
  have c1 : h1.get? (h₀.objs.size + 1) = some cell0 := hl1 _ (List.mem_cons_of_mem _ (List.mem_cons_self ..))
  have nFC : h₀.objs.size + 0 ≠ h₀.objs.size + 1 := npl _ 0 1 (by decide)
  have h7F : 781 ≤ h₀.objs.size + 0 := Nat.le_trans h7 (Nat.le_add_right ..)
  have h7C : 781 ≤ h₀.objs.size + 1 := Nat.le_trans h7 (Nat.le_add_right ..)
  have hSF : S ≠ h₀.objs.size + 0 := nlt 0 hSlt
  have hSC : S ≠ h₀.objs.size + 1 := nlt 1 hSlt
  have new0F : ∀ x o, h₀.get? x = some o → x ≠ h₀.objs.size + 0 := fun x o q => nlt 0 (Heap.lt_size q)
  have new0C : ∀ x o, h₀.get? x = some o → x ≠ h₀.objs.size + 1 := fun x o q => nlt 1 (Heap.lt_size q)
  generalize h₀.objs.size + 0 = F at *
  generalize h₀.objs.size + 1 = C at *
  have G1 : Gr w h1 := G.keeps fun b o _ q => k01 b o q
  have s1 := size781 G1
  refine func_of ?_
  rw [show execs (bodyFn (fP w.params b c) 780) (envL (fP w.params b c) F C) = _ from (congrArg (execs · (envL (fP w.params b c) F C)) (bodyL_is (fP w.params b c))).trans (execs_app _ _ _)]
  refine wpOwn_bind (flow_to ?_)
  have exQ : execsQ = execs := by unfold execsQ; rw [← ZFast.ze12563942051412417395]
  have eB : PySem.W.R.bindR (execs (preL (fP w.params b c)) (envL (fP w.params b c) F C)) (fun f => .pure (.done f)) = treeL (fP w.params b c) F C := by rw [← exQ]; rfl
  rw [eB]
  obtain ⟨zv, hzv⟩ : ∃ z, z = xs.take 6 ++ tenW (fun i => i1 + i) := ⟨_, rfl⟩
  obtain ⟨zi, hzi⟩ : ∃ z, z = zs0.take 6 ++ [(4 : Int), 0, 2, 3, 0, 0, 1, 0, 5, 3] := ⟨_, rfl⟩
  have hstz : IntsAre zv zi := by rw [hzv, hzi]; exact (hst.take 6).append (ten_ints _)
  have hzl : zv.length ≤ 16 ∧ 10 ≤ zv.length := by rw [hzv]; simp only [List.length_append, List.length_take, List.length_cons, List.length_nil]; omega
  have hzil : zi.length = zv.length := hstz.length.symm
  have no781 : ∀ {ini : List Addr}, (∀ a ∈ ini, 781 ≤ a) → ∀ a ∈ ini, ∀ o, (ktb w.params).get a ≠ some o := fun hm a ha o ho => absurd (base_lt G.inn ho) (Nat.not_lt.mpr (hm a ha))
  have S1 := k01 _ _ hS0
  have hi1 : ∀ a ∈ [S, F, C], ∀ o, (ktb w.params).get a ≠ some o := List.forall_mem_cons.mpr ⟨hSb, no781 (List.forall_mem_cons.mpr ⟨h7F, List.forall_mem_cons.mpr ⟨h7C, fun _ h => nomatch h⟩⟩)⟩
  have O1 := mkOkQ (A := A) (t₀ := i1) (ini := [S, F, C]) (sps := []) (sqs := sqM1 (fun m => h1.objs.size + m) (fun i => i1 + i) S xs (xs.take 6) zv cn) G1 hb hi1 (by omega) (fun sp hm => nomatch hm) (by
    intro sq hm
    replace hm := memL hm
    rcases hm with rfl | rfl <;> intro A s hn ht hm
    · exact ansq_six S _ xs cn _ _ (hn _ (List.mem_cons_self ..)) (hn _ (List.mem_cons_of_mem _ (List.mem_cons_self ..))) (by omega) hm
    · rw [hzv]
      exact ansq_addL _ _ _ _ 0 0 _ (hn _ (List.mem_cons_self ..)) (hn _ (List.mem_cons_of_mem _ (List.mem_cons_self ..))) (by simp only [List.length_take]; omega) (by simp only [List.length_cons, List.length_nil]; omega) hm)
  rw [hh0] at O1
  have D1 : Hp [S, F, C] h1 h1 [(S, listD xs cn), (F, frL0 w.params S (t₀ + 0)), (C, cell0)] 0 := mkHp (own := [(S, listD xs cn), (F, frL0 w.params S (t₀ + 0)), (C, cell0)]) (List.forall_mem_cons.mpr ⟨S1, List.forall_mem_cons.mpr ⟨f1, List.forall_mem_cons.mpr ⟨c1, fun _ h => nomatch h⟩⟩⟩) (by simp [hSF, hSC, nFC])
  refine ran_fine O1 D1 (adv := advM1 c) fun stk1 => fine_call (runM1_is w.params b c _ _ stk1 S F C (t₀ + 0) xs (xs.take 6) zv cn) fun A2 R2 h2 i2 hdep2 hh2 hl2 hk2 hcont2 => ?_
  obtain ⟨S2, hl2⟩ := List.forall_mem_cons.mp hl2
  obtain ⟨F2, hl2⟩ := List.forall_mem_cons.mp hl2
  obtain ⟨C2, hl2⟩ := List.forall_mem_cons.mp hl2
  obtain ⟨N2, hl2⟩ := List.forall_mem_cons.mp hl2
  obtain ⟨I2, hl2⟩ := List.forall_mem_cons.mp hl2
  obtain ⟨L2, hl2⟩ := List.forall_mem_cons.mp hl2
  obtain ⟨E2, _⟩ := List.forall_mem_cons.mp hl2
  have k02 : ∀ b o, h₀.get? b = some o → h2.get? b = some o := fun x o q => by
    by_cases z : x = S
    · subst z; rw [Option.some.inj (q.symm.trans hS0)]; exact S2
    · exact hk2 x o (k01 x o q) (by refine nmL ?_; exact ⟨z, new0F x o q, new0C x o q⟩)
  have G2 : Gr w h2 := G.keeps fun b o _ q => k02 b o q
  have nF1 : ∀ k, F ≠ h1.objs.size + k := fun k => nlt k (Heap.lt_size f1)
  have nC1 : ∀ k, C ≠ h1.objs.size + k := fun k => nlt k (Heap.lt_size c1)
  have h71 : ∀ k, 781 ≤ h1.objs.size + k := fun k => Nat.le_trans s1 (Nat.le_add_right ..)
  have no1 : ∀ x o k, h₀.get? x = some o → x ≠ h1.objs.size + k := fun x o k q => nlt k (Heap.lt_size (k01 x o q))
  show codeAny (model theProg w) A2 (LCm (fP w.params b c) 0 F (h1.objs.size + 4) (h1.objs.size + 5) (h1.objs.size + 6) []) R2 _
  rw [show LCm (fP w.params b c) 0 F (h1.objs.size + 4) (h1.objs.size + 5) (h1.objs.size + 6) [] = LCm w.params 0 F (h1.objs.size + 4) (h1.objs.size + 5) (h1.objs.size + 6) [] by rw [hb]]
  refine loop0 (W := h1.objs.size + 3) (by omega) (hh2.trans hh0) (by
      refine ndL ?_
      exact ⟨⟨npl _ 4 5 (by decide), npl _ 4 6 (by decide), npl _ 4 3 (by decide)⟩, ⟨npl _ 5 6 (by decide), npl _ 5 3 (by decide)⟩, npl _ 6 3 (by decide)⟩)
    (List.forall_mem_cons.mpr ⟨h71 4, List.forall_mem_cons.mpr ⟨h71 5, List.forall_mem_cons.mpr ⟨h71 6, List.forall_mem_cons.mpr ⟨h71 3, fun _ h => nomatch h⟩⟩⟩⟩) hstz (by omega) zv.length ⟨h2, g, dr, i2, os⟩ true 0 [] [] 0 (by omega) (fun _ => by omega) G2 ⟨I2, L2, .inl ⟨rfl, E2⟩, N2⟩ trivial rfl fun h3 i3 ws cw tx vx st3 L3 E3 k3 => ?_
  have k3' : ∀ x o, h2.get? x = some o → (∀ k, x ≠ h1.objs.size + k) → h3.get? x = some o := fun x o q z => k3 x o q (by refine nmL ?_; exact ⟨z 4, z 5, z 6⟩)
  have F3 : h3.get? F = _ := k3' _ _ F2 nF1
  have C3 : h3.get? C = _ := k3' _ _ C2 nC1
  have k03 : ∀ b o, h₀.get? b = some o → h3.get? b = some o := fun x o q => k3' x o (k02 x o q) fun k => no1 x o k q
  have G3 : Gr w h3 := G.keeps fun b o _ q => k03 b o q
  have s3 := size781 G3
  have h73 : ∀ k, 781 ≤ h3.objs.size + k := fun k => Nat.le_trans s3 (Nat.le_add_right ..)
  have nF3 : ∀ k, F ≠ h3.objs.size + k := fun k => nlt k (Heap.lt_size F3)
  have nC3 : ∀ k, C ≠ h3.objs.size + k := fun k => nlt k (Heap.lt_size C3)
  have no3 : ∀ x o k, h₀.get? x = some o → x ≠ h3.objs.size + k := fun x o k q => nlt k (Heap.lt_size (k03 x o q))
  obtain ⟨text, htext⟩ : ∃ l, l = zi.map signF := ⟨_, rfl⟩
  have hts : ∀ x ∈ text, isSign x := fun x hx => by
    rw [htext] at hx
    obtain ⟨z, _, rfl⟩ := List.mem_map.mp hx
    exact signF_sign z
  have htl : text.length = zv.length := by rw [htext, List.length_map, hzil]
  have st3' : StrsAre ws (zi.map fun z => [signF z]) := st3
  have hwl : (zi.map fun z => [signF z]).length = zv.length := by rw [List.length_map, hzil]
  have hflat : (zi.map fun z => [signF z]).flatten = text := by rw [flat_ones, htext]
  have hi3 : ∀ a ∈ [F, C, h1.objs.size + 5, h1.objs.size + 6], 781 ≤ a := List.forall_mem_cons.mpr ⟨h7F, List.forall_mem_cons.mpr ⟨h7C, List.forall_mem_cons.mpr ⟨h71 5, List.forall_mem_cons.mpr ⟨h71 6, fun _ h => nomatch h⟩⟩⟩⟩
  have O3 := mkOkQ (A := A) (t₀ := i3) (ini := [F, C, h1.objs.size + 5, h1.objs.size + 6]) (sps := spM2 (fun m => h1.objs.size + m) (fun i => i1 + i) (fun i => i3 + i) ws cw ⟨⟨text⟩⟩ text.length ((text.length + 1 : Nat) : Int)) (sqs := sqM2 (fun m => h3.objs.size + m) (fun i => i3 + i) ((text.length + 1 : Nat) : Int)) G3 hb (no781 hi3) (by omega) (by
    intro sp hm
    replace hm := memL hm
    rcases hm with rfl | rfl | rfl <;> intro A s hn ht
    · exact ans_len _ _ _ (by show text.length < 1000; omega) (by rw [ht]; rfl)
    · exact ans_add (text.length : Int) 1 _ _ _ ht
    · have := ans_join (prog := theProg) (w := w) (A := A) (s := s) (h1.objs.size + 5) ws _ cw (i1 + 12) (i3 + 0) (hn _ (List.mem_cons_self ..)) st3' (by omega) (by omega) (fun x hx => by
        obtain ⟨z, _, rfl⟩ := List.mem_map.mp hx
        exact Nat.le_refl 1) ht
      rw [hflat] at this
      exact this) (by
    intro sq hm
    replace hm := memL hm
    rcases hm with rfl | rfl <;> intro A s hn ht hm
    · exact ansq_range (text.length + 1) _ _ _ _ (by omega) ht (by rw [ht]; rfl) hm
    · exact ansq_riter _ (text.length + 1) _ _ _ _ (by omega) (hn _ (List.mem_singleton.mpr rfl)) hm)
  rw [hh0] at O3
  have D3 : Hp [F, C, h1.objs.size + 5, h1.objs.size + 6] h3 h3 [(F, frL1 w.params S (h1.objs.size + 3) (t₀ + 0) (i1 + 11)), (C, cell0), (h1.objs.size + 5, listO ws cw), (h1.objs.size + 6, cdV w.params "x" tx vx)] 0 := mkHp (own := [(F, frL1 w.params S (h1.objs.size + 3) (t₀ + 0) (i1 + 11)), (C, cell0), (h1.objs.size + 5, listO ws cw), (h1.objs.size + 6, cdV w.params "x" tx vx)]) (List.forall_mem_cons.mpr ⟨F3, List.forall_mem_cons.mpr ⟨C3, List.forall_mem_cons.mpr ⟨L3, List.forall_mem_cons.mpr ⟨E3, fun _ h => nomatch h⟩⟩⟩⟩) (by
      refine ndM ?_
      exact ⟨⟨nFC, nF1 5, nF1 6⟩, ⟨nC1 5, nC1 6⟩, npl _ 5 6 (by decide)⟩)
  refine hcont2 (.ok .next) h3 i3 (cfgHQ w b c h3 i3 none (spM2 (fun m => h1.objs.size + m) (fun i => i1 + i) (fun i => i3 + i) ws cw ⟨⟨text⟩⟩ text.length ((text.length + 1 : Nat) : Int)) (sqM2 (fun m => h3.objs.size + m) (fun i => i3 + i) ((text.length + 1 : Nat) : Int))) _ _ (advM2 c) rfl O3 D3 fun stk2 => ?_
  refine fine_call (runM2_is w.params b c (fun m => h1.objs.size + m) (fun i => i1 + i) stk1 S F C (t₀ + 0) xs (xs.take 6) zv cn _ _ stk2 ws cw ⟨⟨text⟩⟩ _ _ tx vx) fun A4 R4 h4 i4 hdep4 hh4 hl4 hk4 hcont4 => ?_
  obtain ⟨F4, hl4⟩ := List.forall_mem_cons.mp hl4
  obtain ⟨C4, hl4⟩ := List.forall_mem_cons.mp hl4
  obtain ⟨I4, hl4⟩ := List.forall_mem_cons.mp hl4
  obtain ⟨L4, hl4⟩ := List.forall_mem_cons.mp hl4
  obtain ⟨E4, _⟩ := List.forall_mem_cons.mp hl4
  have k04 : ∀ b o, h₀.get? b = some o → h4.get? b = some o := fun x o q => hk4 x o (k03 x o q) (by refine nmL ?_; exact ⟨new0F x o q, new0C x o q, no1 x o 5 q, no1 x o 6 q⟩)
  have G4 : Gr w h4 := G.keeps fun b o _ q => k04 b o q
  show codeAny (model theProg w) A4 (LCm (fP w.params b c) 1 F (h3.objs.size + 1) (h3.objs.size + 2) (h3.objs.size + 3) (txC [] C)) R4 _
  rw [show LCm (fP w.params b c) 1 F (h3.objs.size + 1) (h3.objs.size + 2) (h3.objs.size + 3) (txC [] C) = LCm w.params 1 F (h3.objs.size + 1) (h3.objs.size + 2) (h3.objs.size + 3) (txC [] C) by rw [hb]]
  refine loop1 (tb := i3 + 0) (text := text) (by omega) (hh4.trans hh0) (by
      refine ndL ?_
      exact ⟨⟨npl _ 1 2 (by decide), npl _ 1 3 (by decide), Ne.symm (nC3 1)⟩, ⟨npl _ 2 3 (by decide), Ne.symm (nC3 2)⟩, Ne.symm (nC3 3)⟩)
    (List.forall_mem_cons.mpr ⟨h73 1, List.forall_mem_cons.mpr ⟨h73 2, List.forall_mem_cons.mpr ⟨h73 3, List.forall_mem_cons.mpr ⟨h7C, fun _ h => nomatch h⟩⟩⟩⟩) (by omega) (text.length + 1) ⟨h4, g, dr, i4, os⟩ true 0 [] [] 0 (by omega) (fun _ => by omega) G4 I4 L4 (.inl ⟨rfl, E4⟩) C4 trivial rfl fun h5 i5 fs cf tk vk st5 L5 E5 k5 => ?_
  have k5' : ∀ x o, h4.get? x = some o → (∀ k, x ≠ h3.objs.size + k) → h5.get? x = some o := fun x o q z => k5 x o q (by refine nmL ?_; exact ⟨z 1, z 2, z 3⟩)
  have F5 : h5.get? F = _ := k5' _ _ F4 nF3
  have C5 : h5.get? C = _ := k5' _ _ C4 nC3
  have k05 : ∀ b o, h₀.get? b = some o → h5.get? b = some o := fun x o q => k5' x o (k04 x o q) fun k => no3 x o k q
  have G5 : Gr w h5 := G.keeps fun b o _ q => k05 b o q
  have s5 := size781 G5
  have h75 : ∀ k, 781 ≤ h5.objs.size + k := fun k => Nat.le_trans s5 (Nat.le_add_right ..)
  have nF5 : ∀ k, F ≠ h5.objs.size + k := fun k => nlt k (Heap.lt_size F5)
  have nL5 : ∀ k, h3.objs.size + 2 ≠ h5.objs.size + k := fun k => nlt k (Heap.lt_size L5)
  have no5 : ∀ x o k, h₀.get? x = some o → x ≠ h5.objs.size + k := fun x o k q => nlt k (Heap.lt_size (k05 x o q))
  have st5' : StrsAre fs (frontsF text 0 (text.length + 1)) := st5
  have hfl : fs.length = text.length + 1 := by rw [st5'.length, fronts_len]
  have hsg : ∀ x ∈ frontsF text 0 (text.length + 1), (∀ c ∈ x, isSign c) ∧ x.length < 200 := fun x hx => by
    obtain ⟨j, rfl⟩ := fronts_mem hx
    exact ⟨fun c hc => hts c (List.mem_of_mem_take hc), by rw [List.length_take]; omega⟩
  have hi5 : ∀ a ∈ [F, C, h3.objs.size + 2, h3.objs.size + 3], 781 ≤ a := List.forall_mem_cons.mpr ⟨h7F, List.forall_mem_cons.mpr ⟨h7C, List.forall_mem_cons.mpr ⟨h73 2, List.forall_mem_cons.mpr ⟨h73 3, fun _ h => nomatch h⟩⟩⟩⟩
  have O5 := mkOk (A := A) (t₀ := i5) (sps := []) (ini := [F, C, h3.objs.size + 2, h3.objs.size + 3]) G5 hb hi5 (by omega) (fun sp hm => nomatch hm)
  rw [hh0] at O5
  have D5 : Hp [F, C, h3.objs.size + 2, h3.objs.size + 3] h5 h5 [(F, frL1 w.params S (h1.objs.size + 3) (t₀ + 0) (i1 + 11)), (C, cellV (.str ⟨⟨text⟩⟩ (i3 + 0))), (h3.objs.size + 2, listO fs cf), (h3.objs.size + 3, cdV w.params "k" tk vk)] 0 := mkHp (own := [(F, frL1 w.params S (h1.objs.size + 3) (t₀ + 0) (i1 + 11)), (C, cellV (.str ⟨⟨text⟩⟩ (i3 + 0))), (h3.objs.size + 2, listO fs cf), (h3.objs.size + 3, cdV w.params "k" tk vk)]) (List.forall_mem_cons.mpr ⟨F5, List.forall_mem_cons.mpr ⟨C5, List.forall_mem_cons.mpr ⟨L5, List.forall_mem_cons.mpr ⟨E5, fun _ h => nomatch h⟩⟩⟩⟩) (by
      refine ndM ?_
      exact ⟨⟨nFC, nF3 2, nF3 3⟩, ⟨nC3 2, nC3 3⟩, npl _ 2 3 (by decide)⟩)
  refine hcont4 (.ok .next) h5 i5 (cfgH w b c h5 i5 none []) _ _ (advM3 c) rfl O5 D5 fun stk3 => ?_
  refine fine_callA hfr (runM3_envs w.params b c (fun m => h1.objs.size + m) (fun i => i1 + i) stk1 S F C (t₀ + 0) xs (xs.take 6) zv cn (fun m => h3.objs.size + m) (fun i => i3 + i) stk2 ws cw ⟨⟨text⟩⟩ _ _ tx vx _ _ stk3 fs cf tk vk) (runM3_is w.params b c (fun m => h1.objs.size + m) (fun i => i1 + i) stk1 S F C (t₀ + 0) xs (xs.take 6) zv cn (fun m => h3.objs.size + m) (fun i => i3 + i) stk2 ws cw ⟨⟨text⟩⟩ _ _ tx vx _ _ stk3 fs cf tk vk) fun A6 R6 h6 i6 hdep6 hun6 hh6 hfr6 hl6 hk6 hcont6 => ?_
  obtain ⟨F6, hl6⟩ := List.forall_mem_cons.mp hl6
  obtain ⟨W6, hl6⟩ := List.forall_mem_cons.mp hl6
  obtain ⟨I6, hl6⟩ := List.forall_mem_cons.mp hl6
  obtain ⟨L6, hl6⟩ := List.forall_mem_cons.mp hl6
  obtain ⟨E6, _⟩ := List.forall_mem_cons.mp hl6
  have k06 : ∀ b o, h₀.get? b = some o → h6.get? b = some o := fun x o q => hk6 x o (k05 x o q) (by refine nmL ?_; exact ⟨new0F x o q, new0C x o q, no3 x o 2 q, no3 x o 3 q⟩)
  have G6 : Gr w h6 := G.keeps fun b o _ q => k06 b o q
  have hfr6' : A6.frames = some [envL w.params F C] := by rw [hb] at hfr6; exact hfr6
  have hfo : framesOf [envL w.params F C] = [F] := framesOf_cons (frame780 _ _ _)
  have Fn6 : FunOk h6 [envL w.params F C] := fun env henv => by
    rw [List.mem_singleton] at henv
    subst henv
    exact ⟨by rw [kind780]; decide, _, _, frame780 _ _ _, F6, fun vs q => by cases q⟩
  have hhi6 : ∀ a ∈ framesOf [envL w.params F C], 781 ≤ a := fun a ha => by
    rw [hfo, List.mem_singleton] at ha; subst ha; exact h7F
  show codeAny (model theProg w) A6 (LCm (fP w.params b c) 2 F (h5.objs.size + 0) (h5.objs.size + 1) (h5.objs.size + 2) []) R6 _
  rw [show LCm (fP w.params b c) 2 F (h5.objs.size + 0) (h5.objs.size + 1) (h5.objs.size + 2) [] = LCm w.params 2 F (h5.objs.size + 0) (h5.objs.size + 1) (h5.objs.size + 2) [] by rw [hb]]
  refine loop2 (W := h3.objs.size + 2) (outer := [envL w.params F C]) (by omega) (by omega) (hh6.trans hh0) hfr6' hhi6 (by
      refine ndL ?_
      exact ⟨⟨npl _ 0 1 (by decide), npl _ 0 2 (by decide), Ne.symm (nL5 0)⟩, ⟨npl _ 1 2 (by decide), Ne.symm (nL5 1)⟩, Ne.symm (nL5 2)⟩)
    (List.forall_mem_cons.mpr ⟨h75 0, List.forall_mem_cons.mpr ⟨h75 1, List.forall_mem_cons.mpr ⟨h75 2, List.forall_mem_cons.mpr ⟨h73 2, fun _ h => nomatch h⟩⟩⟩⟩)
    (fun a ha => by
      rw [hfo, List.mem_singleton] at ha
      subst ha
      refine nmL ?_
      exact ⟨nF5 0, nF5 1, nF5 2, nF3 2⟩) st5' hsg (by omega) fs.length ⟨h6, g, dr, i6, os⟩ true 0 [] [] 0 (by omega) (fun _ => by omega) G6 Fn6 ⟨I6, L6, .inl ⟨rfl, E6⟩, W6⟩ trivial rfl fun h7' i7 ts ct tf vf pr7 len7 L7 E7 U7 => ?_
  have pr7' : PairsAt (framesOf [envL w.params F C] ++ [h5.objs.size + 0, h5.objs.size + 1, h5.objs.size + 2]) h7' ts ((frontsF text 0 (text.length + 1)).map fun x => (allF false x, allF false (quoteF x))) := pr7
  obtain ⟨sl, F7⟩ : ∃ sl, h7'.get? F = some { frL3 w.params S (h1.objs.size + 3) (h3.objs.size + 2) (t₀ + 0) (i1 + 11) (i5 + 0) with slots := sl } := U7.slots F _ F6 (by refine nmL ?_; exact ⟨nF5 0, nF5 1, nF5 2⟩) (fun vs q => by cases q)
  have k7 : ∀ x o, h6.get? x = some o → x ≠ F → (∀ k, x ≠ h5.objs.size + k) → h7'.get? x = some o := fun x o q z1 z2 => U7.keep x o q (by refine nmL ?_; exact ⟨z2 0, z2 1, z2 2⟩) (by rw [hfo, List.mem_singleton]; exact z1)
  have W7 : h7'.get? (h3.objs.size + 2) = some (listO fs cf) := k7 _ _ W6 (Ne.symm (nF3 2)) nL5
  have k07 : ∀ b o, h₀.get? b = some o → h7'.get? b = some o := fun x o q => k7 x o (k06 x o q) (new0F x o q) fun k => no5 x o k q
  have G7 : Gr w h7' := G.keeps fun b o _ q => k07 b o q
  have hi7 : ∀ a ∈ [F, h3.objs.size + 2, h5.objs.size + 1, h5.objs.size + 2], 781 ≤ a := List.forall_mem_cons.mpr ⟨h7F, List.forall_mem_cons.mpr ⟨h73 2, List.forall_mem_cons.mpr ⟨h75 1, List.forall_mem_cons.mpr ⟨h75 2, fun _ h => nomatch h⟩⟩⟩⟩
  have O7 := mkOk (A := A) (t₀ := i7) (sps := []) (ini := [F, h3.objs.size + 2, h5.objs.size + 1, h5.objs.size + 2]) G7 hb hi7 (by omega) (fun sp hm => nomatch hm)
  rw [hh0] at O7
  have D7 : Hp [F, h3.objs.size + 2, h5.objs.size + 1, h5.objs.size + 2] h7' h7' [(F, { frL3 w.params S (h1.objs.size + 3) (h3.objs.size + 2) (t₀ + 0) (i1 + 11) (i5 + 0) with slots := sl }), (h3.objs.size + 2, listO fs cf), (h5.objs.size + 1, listO ts ct), (h5.objs.size + 2, cdV w.params "front" tf vf)] 0 := mkHp (own := [(F, { frL3 w.params S (h1.objs.size + 3) (h3.objs.size + 2) (t₀ + 0) (i1 + 11) (i5 + 0) with slots := sl }), (h3.objs.size + 2, listO fs cf), (h5.objs.size + 1, listO ts ct), (h5.objs.size + 2, cdV w.params "front" tf vf)]) (List.forall_mem_cons.mpr ⟨F7, List.forall_mem_cons.mpr ⟨W7, List.forall_mem_cons.mpr ⟨L7, List.forall_mem_cons.mpr ⟨E7, fun _ h => nomatch h⟩⟩⟩⟩) (by
      refine ndM ?_
      exact ⟨⟨nF3 2, nF5 1, nF5 2⟩, ⟨nL5 1, nL5 2⟩, npl _ 1 2 (by decide)⟩)
  refine hcont6 (.ok .next) h7' i7 (cfgH w b c h7' i7 none []) _ _ [1, 1, 7, 7, 7, 1] rfl O7 D7 fun stk4 => ?_
  refine fine_ret (runM4_is w.params b c (fun m => h1.objs.size + m) (fun i => i1 + i) stk1 S F C (t₀ + 0) xs (xs.take 6) zv cn (fun m => h3.objs.size + m) (fun i => i3 + i) stk2 ws cw ⟨⟨text⟩⟩ _ _ tx vx (fun m => h5.objs.size + m) (fun i => i5 + i) stk3 fs cf tk vk _ _ stk4 sl ts ct tf vf) fun h8 i8 hl8 hk8 => ?_
  obtain ⟨F8, hl8⟩ := List.forall_mem_cons.mp hl8
  obtain ⟨W8, hl8⟩ := List.forall_mem_cons.mp hl8
  obtain ⟨T8, _⟩ := List.forall_mem_cons.mp hl8
  have k08 : ∀ b o, h₀.get? b = some o → h8.get? b = some o := fun x o q => hk8 x o (k07 x o q) (by refine nmL ?_; exact ⟨new0F x o q, no3 x o 2 q, no5 x o 1 q, no5 x o 2 q⟩)
  have G8 : Gr w h8 := G.keeps fun b o _ q => k08 b o q
  show wpOwn (model theProg w) A _ (execs [.Return (some (.Compare (nameL (fP w.params b c)) [.Eq] [lcL (fP w.params b c)] (qpL (fP w.params b c)))) (rpL (fP w.params b c))] (envL (fP w.params b c) F C)) _ _ _
  refine last_of (lc_marks _) (val_to ?_)
  rw [← evalQ_eq]
  show wpOwn _ A _ (treeN (fP w.params b c) F C) _ _ _
  have O8 := mkOk (A := A) (t₀ := i8) (sps := []) (ini := [F]) G8 hb (List.forall_mem_cons.mpr ⟨h7F, fun _ h => nomatch h⟩) (by omega) (fun sp hm => nomatch hm)
  rw [hh0] at O8
  refine ran_fine O8 (mkHp (h := h8) (own := [(F, { frL4 w.params S (h1.objs.size + 3) (h3.objs.size + 2) (h5.objs.size + 1) (t₀ + 0) (i1 + 11) (i5 + 0) (i7 + 0) with slots := sl })]) (List.forall_mem_cons.mpr ⟨F8, fun _ h => nomatch h⟩) (by first | trivial | simp)) (adv := [1]) fun stk5 => fine_ret (runN5_is w.params b c _ _ stk5 F C S (h1.objs.size + 3) (h3.objs.size + 2) (h5.objs.size + 1) (t₀ + 0) (i1 + 11) (i5 + 0) (i7 + 0) sl) fun h9 i9 hl9 hk9 => ?_
  obtain ⟨F9, _⟩ := List.forall_mem_cons.mp hl9
  have k9 : ∀ x o, h8.get? x = some o → x ≠ F → h9.get? x = some o := fun x o q z => hk9 x o q (by simp only [List.map_cons, List.map_nil, List.mem_singleton]; exact z)
  have W9 := k9 _ _ W8 (Ne.symm (nF3 2))
  have T9 := k9 _ _ T8 (Ne.symm (nF5 1))
  have k09 : ∀ b o, h₀.get? b = some o → h9.get? b = some o := fun x o q => k9 x o (k08 x o q) (new0F x o q)
  have G9 : Gr w h9 := G.keeps fun b o _ q => k09 b o q
  have s9 := size781 G9
  have h79 : ∀ k, 781 ≤ h9.objs.size + k := fun k => Nat.le_trans s9 (Nat.le_add_right ..)
  have nW9 : ∀ k, h3.objs.size + 2 ≠ h9.objs.size + k := fun k => nlt k (Heap.lt_size W9)
  refine val_to ?_
  show wpOwn _ A _ (treeC (fP w.params b c) F C) _ _ _
  have O9 := mkOk (A := A) (t₀ := i9) (sps := []) (ini := [F, h3.objs.size + 2]) G9 hb (List.forall_mem_cons.mpr ⟨h7F, List.forall_mem_cons.mpr ⟨h73 2, fun _ h => nomatch h⟩⟩) (by omega) (fun sp hm => nomatch hm)
  rw [hh0] at O9
  refine ran_fine O9 (mkHp (h := h9) (own := [(F, { frL4 w.params S (h1.objs.size + 3) (h3.objs.size + 2) (h5.objs.size + 1) (t₀ + 0) (i1 + 11) (i5 + 0) (i7 + 0) with slots := sl }), (h3.objs.size + 2, listO fs cf)]) (List.forall_mem_cons.mpr ⟨F9, List.forall_mem_cons.mpr ⟨W9, fun _ h => nomatch h⟩⟩) (by simp [nF3 2])) (adv := advC5 c) fun stk6 => fine_call (runC5_is w.params b c _ _ stk6 F C S (h1.objs.size + 3) (h3.objs.size + 2) (h5.objs.size + 1) (t₀ + 0) (i1 + 11) (i5 + 0) (i7 + 0) sl fs cf) fun A10 R10 h10 i10 hdep10 hh10 hl10 hk10 hcont10 => ?_
  obtain ⟨W10, hl10⟩ := List.forall_mem_cons.mp hl10
  obtain ⟨I10, hl10⟩ := List.forall_mem_cons.mp hl10
  obtain ⟨L10, hl10⟩ := List.forall_mem_cons.mp hl10
  obtain ⟨E10, _⟩ := List.forall_mem_cons.mp hl10
  have k10 : ∀ x o, h9.get? x = some o → x ≠ F → h10.get? x = some o := fun x o q z => by
    by_cases z2 : x = h3.objs.size + 2
    · subst z2; rw [Option.some.inj (q.symm.trans W9)]; exact W10
    · exact hk10 x o q (by simp only [List.map_cons, List.map_nil, List.mem_cons, List.not_mem_nil, or_false, not_or]; exact ⟨z, z2⟩)
  have k010 : ∀ b o, h₀.get? b = some o → h10.get? b = some o := fun x o q => k10 x o (k09 x o q) (new0F x o q)
  have G10 : Gr w h10 := G.keeps fun b o _ q => k010 b o q
  show codeAny (model theProg w) A10 (LCm (fP w.params b c) 3 F (h9.objs.size + 0) (h9.objs.size + 1) (h9.objs.size + 2) []) R10 _
  rw [show LCm (fP w.params b c) 3 F (h9.objs.size + 0) (h9.objs.size + 1) (h9.objs.size + 2) [] = LCm w.params 3 F (h9.objs.size + 0) (h9.objs.size + 1) (h9.objs.size + 2) [] by rw [hb]]
  refine loop3d (W := h3.objs.size + 2) (by omega) (hh10.trans hh0) (by
      refine ndL ?_
      exact ⟨⟨npl _ 0 1 (by decide), npl _ 0 2 (by decide), Ne.symm (nW9 0)⟩, ⟨npl _ 1 2 (by decide), Ne.symm (nW9 1)⟩, Ne.symm (nW9 2)⟩)
    (List.forall_mem_cons.mpr ⟨h79 0, List.forall_mem_cons.mpr ⟨h79 1, List.forall_mem_cons.mpr ⟨h79 2, List.forall_mem_cons.mpr ⟨h73 2, fun _ h => nomatch h⟩⟩⟩⟩) st5' hsg (by omega) fs.length ⟨h10, g, dr, i10, os⟩ true 0 [] [] 0 (by omega) (fun _ => by omega) G10 ⟨I10, L10, .inl ⟨rfl, E10⟩, W10⟩ trivial rfl fun h11 i11 ds cd tg vg pr11 len11 L11 E11 k11 => ?_
  have pr11' : PairsAt [h9.objs.size + 0, h9.objs.size + 1, h9.objs.size + 2] h11 ds ((frontsF text 0 (text.length + 1)).map fun x => (dueF false x, dueF true x)) := pr11
  have k11' : ∀ x o, h9.get? x = some o → x ≠ F → h11.get? x = some o := fun x o q z => k11 x o (k10 x o q z) (by refine nmL ?_; exact ⟨nlt 0 (Heap.lt_size q), nlt 1 (Heap.lt_size q), nlt 2 (Heap.lt_size q)⟩)
  have k011 : ∀ b o, h₀.get? b = some o → h11.get? b = some o := fun x o q => k11' x o (k09 x o q) (new0F x o q)
  have G11 : Gr w h11 := G.keeps fun b o _ q => k011 b o q
  have O11 := mkOk (A := A) (t₀ := i11) (sps := []) (ini := [h9.objs.size + 2]) G11 hb (List.forall_mem_cons.mpr ⟨h79 2, fun _ h => nomatch h⟩) (by omega) (fun sp hm => nomatch hm)
  rw [hh0] at O11
  refine hcont10 (.ok .next) h11 i11 (cfgH w b c h11 i11 none []) _ _ [1, 1, 1] rfl O11 (mkHp (h := h11) (own := [(h9.objs.size + 2, cdV w.params "front" tg vg)]) (List.forall_mem_cons.mpr ⟨E11, fun _ h => nomatch h⟩) (by first | trivial | simp)) fun stk7 => ?_
  refine fine_ret (runC6_is w.params b c _ _ stk6 F C S (h1.objs.size + 3) (h3.objs.size + 2) (h5.objs.size + 1) (t₀ + 0) (i1 + 11) (i5 + 0) (i7 + 0) sl fs cf _ _ stk7 tg vg) fun h12 i12 hl12 hk12 => ?_
  have k12 : ∀ x o, h11.get? x = some o → x ≠ h9.objs.size + 2 → h12.get? x = some o := fun x o q z => hk12 x o q (by simp only [List.map_cons, List.map_nil, List.mem_singleton]; exact z)
  have k912 : ∀ x o, h9.get? x = some o → x ≠ F → h12.get? x = some o := fun x o q z => k12 x o (k11' x o q z) (nlt 2 (Heap.lt_size q))
  have T12 := k912 _ _ T9 (Ne.symm (nF5 1))
  have L12 := k12 _ _ L11 (npl _ 1 2 (by decide))
  have prT : PairsAt [] h12 ts ((frontsF text 0 (text.length + 1)).map fun x => (allF false x, allF false (quoteF x))) := pr7'.keeps fun x o q z => by
    rw [hfo] at z
    simp only [List.cons_append, List.nil_append, List.mem_cons, List.not_mem_nil, or_false, not_or] at z
    obtain ⟨z1, z2, z3, z4⟩ := z
    refine ⟨k912 x o (k9 x o ?_ z1) z1, fun h => nomatch h⟩
    by_cases zw : x = h3.objs.size + 2
    · subst zw; rw [Option.some.inj (q.symm.trans W7)]; exact W8
    · exact hk8 x o q (by simp only [List.map_cons, List.map_nil, List.mem_cons, List.not_mem_nil, or_false, not_or]; exact ⟨z1, zw, z3, z4⟩)
  have prD : PairsAt [] h12 ds ((frontsF text 0 (text.length + 1)).map fun x => (dueF false x, dueF true x)) := pr11'.keeps fun x o q z => by
    replace z := noL z
    exact ⟨k12 x o q z.2.2, fun h => nomatch h⟩
  have hrs : (frontsF text 0 (text.length + 1)).map (fun x => (allF false x, allF false (quoteF x))) = (frontsF text 0 (text.length + 1)).map fun x => (dueF false x, dueF true x) := List.map_congr_left fun x hx => by
    obtain ⟨e1, e2⟩ := heard_due x (hsg x hx).1
    show (allF false x, allF false (quoteF x)) = (dueF false x, dueF true x)
    rw [e1, e2]
  rw [hrs] at prT
  have hun : (A.under (.func (bodyFn (fP w.params b c) 780) (envL (fP w.params b c) F C))).units = A.units + 3 := rfl
  show wpAny (model theProg w) (A.under (.func (bodyFn (fP w.params b c) 780) (envL (fP w.params b c) F C))) (richCompare .Eq (.ref (h5.objs.size + 1)) (.ref (h9.objs.size + 1))) _ _ _
  refine pairs_eq (A := A.under (.func (bodyFn (fP w.params b c) 780) (envL (fP w.params b c) F C))) (s := ⟨h12, g, dr, i12, os⟩) (by omega) (by show _ + 1 < _; omega) (by show _ + 1 + 1 < _; omega) T12 L12 prT prD theProg w _ _ ?_
  exact hR h12 i12 fun x o q => k912 x o (k09 x o q) (new0F x o q)
end
end
set_option maxHeartbeats 8000000
theorem ints_mine : ∀ {vs : List Value} {ns : List Int}, PyProof.Rows.IntsAre vs ns → Mine.IntsAre vs ns
  | _, _, .nil => trivial
  | _, _, .cons _ t h => ⟨⟨t, rfl⟩, ints_mine h⟩
noncomputable def notList (o : Obj) : Bool := match o.cls with
  | .type t => !(t == "list")
  | _ => true
theorem list_is (xs : List Value) (c : CnT) : notList (listD xs c) = false := by kernel_rfl
theorem no_list (P : Params) : (Mine.K0 P).all (fun p => notList p.2) = true := by kernel_rfl
theorem mem_of_lookup {K : Frag} {a : Addr} {o : Obj} (e : K.lookup a = some o) : (a, o) ∈ K := by
  induction K with
  | nil => cases e
  | cons q K ih =>
    rw [List.lookup_cons] at e
    cases hq : a == q.1 with
    | true =>
      rw [hq] at e
      cases e
      rw [beq_iff_eq] at hq
      subst hq
      exact List.mem_cons_self ..
    | false => rw [hq] at e; exact List.mem_cons_of_mem _ (ih e)
theorem kt_lookup {K : Frag} {h : Heap} (hi : inc (K.map (·.1)) = true) (hin : K.In h) {a : Addr} {o : Obj} (e : (KT.of K).get a = some o) : K.lookup a = some o := by
  have q : h.get? a = some o := kt_in hi hin e
  have hlt : a < 781 := kt_lt hi hin e
  have A : AllIn (hK K) K := allIn_of_in fun p hp => by
    obtain ⟨h1, h2⟩ := inc_lookup hi p hp
    refine get?_some (not_freed (hin _ _ h1)) ?_
    unfold hK
    simp only [Array.getElem?_ofFn, h2, dif_pos, h1, Option.getD_some]
  have z := KT.Holds.get (holds_of A) e
  rw [Nat.one_mul, Nat.add_zero] at z
  cases k : K.lookup a with
  | none =>
    have zz : (hK K).objs[a]? = some ⟨.none, none, .freed, #[]⟩ := by
      show (Array.ofFn (n := 781) fun i => (K.lookup i.1).getD ⟨.none, none, .freed, #[]⟩)[a]? = _
      rw [Array.getElem?_ofFn, dif_pos hlt]
      show some ((K.lookup a).getD _) = _
      rw [k]; rfl
    unfold Heap.get? at z
    rw [zz] at z
    cases z
  | some o' =>
    have := hin _ _ k
    rw [q] at this
    exact this.symm
/-- no object of the top is a list -/
theorem not_base {w : World} {h : Heap} (hin : (Mine.K0 w.params).In h) {S : Addr} {xs : List Value} {c : CnT} (hS : h.get? S = some (listD xs c)) : ∀ o, (ktb w.params).get S ≠ some o := fun o e => by
  rw [ktb_eq] at e
  have hl := kt_lookup (heap_inc w.params) hin e
  have h2 : notList o = true := List.all_eq_true.mp (no_list w.params) (S, o) (mem_of_lookup hl)
  have q := hin _ _ hl
  rw [hS] at q
  have ho : listD xs c = o := Option.some.inj q
  rw [← ho, list_is] at h2
  cases h2
end Mine
set_option maxRecDepth 100000 in
set_option maxHeartbeats 8000000 in
theorem PySem.Challenge.cw_ny0292_01_holds : PySem.Challenge.rw_ny0292_01.Holds :=
  Mine.hd ⟨Mine.left2, by
  intro w s₀ s₁ mg mb G Y fa o pm cd doc dV kV ho hd' hcd hD hmg hg args vals as hpre hlay hrd hwl hlo
  have KX : (Mine.K0 w.params).In s₁.heap := kIn_of Y
  refine Ground.open G ?_
  intro T B D TE TW
  have NL := Top.nolimit T
  wrow_args hpre hlay hrd hwl hlo
  x_fa T KX hmg
  all_lens
  rename_i w5 _ _ _ _ _ _ _ w2 w1 _ hL _ _ _ _ hlen _ hi9 hb9
  obtain ⟨d, n, sl, hol⟩ := isList_open hL
  have hol' : s₁.heap.get? w2 = some (Mine.listD w1 (n, d, sl)) := hol
  clear hmg ho
  refine wpAny_runValue (Mine.law_is (w := w) (A := callerA) (by show 1 + 300 + 600 ≤ 1000; omega) (by show 4 + 3000 < 9900; omega) rfl rfl ⟨KX, NL⟩ hol' (Mine.not_base KX hol') (Mine.ints_mine hi9) (by omega) fun h i k => ?_)
  exact ⟨.inl ⟨_, .bool true, [], rfl, fun _ => rfl, .bool true, by kernel_rfl, fun _ => ⟨.nil, fun _ q => nomatch q⟩⟩, .of_keep k, rfl, .of_eq hg⟩⟩
