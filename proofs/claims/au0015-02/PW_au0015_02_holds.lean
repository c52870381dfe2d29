import PyProof.Rows.All
import KE.KItem
import KE.LcSums
import KE.KOpsOwn
import Wide.FinOn
import OpenK.AllK
import Wide.All
import Lean
import PySem.Challenge.RW_au0015_02
set_option Elab.async false
set_option compiler.extract_closed false
set_option genSizeOf false
set_option genInjectivity false
set_option maxRecDepth 100000
set_option maxHeartbeats 0
set_option linter.unusedVariables false
set_option linter.unusedSimpArgs false
noncomputable section
namespace Tbx
open PySem PySem.W PySem.W.X PyProof.Rows
structure PS where
  T : BT
  m : Nat
  U : List (Nat × Obj)
  gens : Array GenState
  drawn : Drawn
  toks : Nat
  os : OsState
noncomputable def uGet : List (Nat × Obj) → Nat → Option Obj
  | [], _ => none
  | p :: l, a => match Nat.beq p.1 a with
    | true => some p.2
    | false => uGet l a
noncomputable def uSet : List (Nat × Obj) → Nat → Obj → List (Nat × Obj)
  | [], _, _ => []
  | p :: l, a, o => match Nat.beq p.1 a with
    | true => (p.1, o) :: l
    | false => p :: uSet l a o
noncomputable def pLook (kt : KT) (n₁ : Nat) (T : BT) (U : List (Nat × Obj)) (a : Nat) : Option Obj := match Nat.blt a n₁ with
  | true => match uGet U a with
    | some o => some o
    | none => kt.get a
  | false => T.get (a - n₁)
noncomputable def stepP (stp : Shared → Thread → Step) (kt : KT) (n₁ : Nat) (st : PS) (t : Thread) : Option (PS × Thread) :=
  match st with
  | ⟨T, m, U, gens, drawn, toks, os⟩ => match t with
    | ⟨cur, code, pos, stack⟩ => match cur with
      | .load a _ k => match pLook kt n₁ T U a with
        | some o => some (⟨T, m, U, gens, drawn, toks, os⟩, ⟨k o, code, pos, stack⟩)
        | none => none
      | .loadIfAlive a k => match pLook kt n₁ T U a with
        | some o => some (⟨T, m, U, gens, drawn, toks, os⟩, ⟨k (some o), code, pos, stack⟩)
        | none => none
      | .update a _ f k => match Nat.blt a n₁ with
        | true => match uGet U a with
          | some o => match (f o).isFreed with
            | true => none
            | false => some (⟨T, m, uSet U a (f o), gens, drawn, toks, os⟩, ⟨k (), code, pos, stack⟩)
          | none => none
        | false => match T.get (a - n₁) with
          | some o => match (f o).isFreed with
            | true => none
            | false => some (⟨T.set (a - n₁) f, m, U, gens, drawn, toks, os⟩, ⟨k (), code, pos, stack⟩)
          | none => none
      | .alloc o k => match o.isFreed with
        | true => none
        | false => match (T.ins m o).get m with
          | some _ => some (⟨T.ins m o, m + 1, U, gens, drawn, toks, os⟩, ⟨k (n₁ + m), code, pos, stack⟩)
          | none => none
      | c => match stp ⟨{}, gens, drawn, toks, os⟩ ⟨c, code, pos, stack⟩ with
        | .go s' t' => some (⟨T, m, U, s'.gens, s'.drawn, s'.toks, s'.os⟩, t')
        | .halt _ _ => none
noncomputable def runP (stp : Shared → Thread → Step) (ok : Thread → Bool) (kt : KT) (n₁ : Nat) (b : Nat) (n : Nat) : PS → Thread → Option (Flow × PS × Code × Pos) :=
  @Nat.rec (fun _ => PS → Thread → Option (Flow × PS × Code × Pos)) (fun _ _ => none)
    (fun _ ih st t => match endAt b t with
      | some f => some (f, st, t.code, t.pos)
      | none => match ok t with
        | false => none
        | true => match stepP stp kt n₁ st t with
          | some (st', t') => ih st' t'
          | none => none) n
structure Rep (h₁ : Heap) (n₁ : Nat) (U₀ : List (Nat × Obj)) (st : PS) (h : Heap) : Prop where
  size : h.objs.size = n₁ + st.m
  own : ∀ i o, st.T.get i = some o → i < st.m ∧ h.get? (n₁ + i) = some o
  keep : ∀ b o, h₁.get? b = some o → uGet U₀ b = none → h.get? b = some o
  keys : ∀ b, uGet st.U b = none → uGet U₀ b = none
  keys' : ∀ b, uGet U₀ b = none → uGet st.U b = none
  upd : ∀ a o, uGet st.U a = some o → a < n₁ ∧ h.get? a = some o
theorem uGet_uSet {a : Nat} {o : Obj} : ∀ {U : List (Nat × Obj)} {b : Nat}, (uGet U a).isSome = true → uGet (uSet U a o) b = if b = a then some o else uGet U b
  | [], _, h => by cases h
  | p :: l, b, h => by
    unfold uSet
    rw [BT.beq_eq]
    by_cases e : p.1 = a
    · rw [decide_eq_true e]
      show (match Nat.beq p.1 b with | true => some o | false => uGet l b) = _
      have e2 : uGet (p :: l) b = match Nat.beq p.1 b with | true => some p.2 | false => uGet l b := rfl
      rw [e2, BT.beq_eq]
      by_cases q : b = a
      · subst q; simp [e]
      · have : p.1 ≠ b := fun z => q (z.symm.trans e)
        simp [q, this]
    · rw [decide_eq_false e]
      show (match Nat.beq p.1 b with | true => some p.2 | false => uGet (uSet l a o) b) = _
      have h' : (uGet l a).isSome = true := by
        have e3 : uGet (p :: l) a = match Nat.beq p.1 a with | true => some p.2 | false => uGet l a := rfl
        rw [e3, BT.beq_eq, decide_eq_false e] at h; exact h
      have e2 : uGet (p :: l) b = match Nat.beq p.1 b with | true => some p.2 | false => uGet l b := rfl
      rw [e2, uGet_uSet h', BT.beq_eq]
      by_cases z : p.1 = b
      · have : b ≠ a := fun q => e (z.trans q)
        simp [z, this]
      · simp [z]
section
variable {h₁ h : Heap} {n₁ : Nat} {U₀ : List (Nat × Obj)} {kt : KT} {T : BT} {m : Nat} {U : List (Nat × Obj)} {gens : Array GenState} {drawn : Drawn} {toks : Nat} {os : OsState}
theorem Rep.look (hk : kt.Holds h₁ 1 0) (D : Rep h₁ n₁ U₀ ⟨T, m, U, gens, drawn, toks, os⟩ h) {a : Nat} {o : Obj} (e : pLook kt n₁ T U a = some o) : h.get? a = some o := by
  unfold pLook at e
  cases q : Nat.blt a n₁ with
  | true =>
    rw [q] at e
    cases c : uGet U a with
    | some o' => rw [c] at e; cases e; exact (D.upd a o c).2
    | none =>
      rw [c] at e
      have z := KT.Holds.get hk e
      rw [Nat.one_mul, Nat.add_zero] at z
      exact D.keep a o z (D.keys a c)
  | false =>
    rw [q] at e
    have z := (D.own _ _ e).2
    rw [Nat.add_sub_cancel' (blt_false q)] at z
    exact z
theorem Rep.alloc (D : Rep h₁ n₁ U₀ ⟨T, m, U, gens, drawn, toks, os⟩ h) {o : Obj} (hf : o.isFreed = false) (hg : ((T.ins m o).get m).isSome = true) :
    Rep h₁ n₁ U₀ ⟨T.ins m o, m + 1, U, gens, drawn, toks, os⟩ (h.push o) := by
  have ds : h.objs.size = n₁ + m := D.size
  refine ⟨by rw [Heap.size_push, ds]; rfl, fun i o' e => ?_, fun b o' e q => Heap.get?_push_of_some _ (D.keep b o' e q), D.keys, D.keys', fun a o' e => ⟨(D.upd a o' e).1, Heap.get?_push_of_some _ (D.upd a o' e).2⟩⟩
  have e : (T.ins m o).get i = some o' := e
  rw [BT.get_ins o T m hg] at e
  by_cases hi : i = m
  · subst hi
    rw [if_pos rfl] at e
    cases e
    refine ⟨Nat.lt_succ_self _, ?_⟩
    rw [← ds]; exact Heap.get?_push_size _ hf
  · rw [if_neg hi] at e
    have z := D.own i o' e
    exact ⟨Nat.lt_succ_of_lt z.1, Heap.get?_push_of_some _ z.2⟩
theorem Rep.updNew (hs : h₁.objs.size = n₁) (D : Rep h₁ n₁ U₀ ⟨T, m, U, gens, drawn, toks, os⟩ h) {a : Nat} {o : Obj} {f : Obj → Obj} (ha : n₁ ≤ a) (e : T.get (a - n₁) = some o) (hf : (f o).isFreed = false) :
    h.get? a = some o ∧ Rep h₁ n₁ U₀ ⟨T.set (a - n₁) f, m, U, gens, drawn, toks, os⟩ (h.update a f) := by
  have z := D.own _ _ e
  rw [Nat.add_sub_cancel' ha] at z
  refine ⟨z.2, ?_⟩
  have hsb : Heap.SameBut a h (h.update a f) := Heap.SameBut.update ..
  refine ⟨by rw [hsb.1]; exact D.size, fun i o' e' => ?_, fun b o' e' q => ?_, D.keys, D.keys', fun b o' e' => ?_⟩
  · have e' : (T.set (a - n₁) f).get i = some o' := e'
    rw [BT.get_set] at e'
    by_cases hi : i = a - n₁
    · subst hi
      rw [if_pos rfl, e] at e'
      cases e'
      refine ⟨z.1, ?_⟩
      rw [Nat.add_sub_cancel' ha]
      exact Heap.get?_update_self _ z.2 hf
    · rw [if_neg hi] at e'
      have y := D.own i o' e'
      exact ⟨y.1, (hsb.2 _ fun z => hi (by rw [← z]; exact (Nat.add_sub_cancel_left ..).symm)).trans y.2⟩
  · have lt : b < n₁ := hs ▸ Heap.lt_size e'
    exact (hsb.2 b (Nat.ne_of_lt (Nat.lt_of_lt_of_le lt ha))).trans (D.keep b o' e' q)
  · have y := D.upd b o' e'
    exact ⟨y.1, (hsb.2 b (Nat.ne_of_lt (Nat.lt_of_lt_of_le y.1 ha))).trans y.2⟩
theorem Rep.updOld (D : Rep h₁ n₁ U₀ ⟨T, m, U, gens, drawn, toks, os⟩ h) {a : Nat} {o : Obj} {f : Obj → Obj} (e : uGet U a = some o) (hf : (f o).isFreed = false) :
    h.get? a = some o ∧ Rep h₁ n₁ U₀ ⟨T, m, uSet U a (f o), gens, drawn, toks, os⟩ (h.update a f) := by
  have z := D.upd a o e
  refine ⟨z.2, ?_⟩
  have hsb : Heap.SameBut a h (h.update a f) := Heap.SameBut.update ..
  have some_ : (uGet U a).isSome = true := by rw [e]; rfl
  refine ⟨by rw [hsb.1]; exact D.size, fun i o' e' => ?_, fun b o' e' q => ?_, fun b q => ?_, fun b q => ?_, fun b o' e' => ?_⟩
  · have y := D.own i o' e'
    exact ⟨y.1, (hsb.2 _ (Nat.ne_of_gt (Nat.lt_of_lt_of_le z.1 (Nat.le_add_right ..)))).trans y.2⟩
  · by_cases hb : b = a
    · have z1 := D.keys' b q
      rw [hb, e] at z1; cases z1
    · exact (hsb.2 b hb).trans (D.keep b o' e' q)
  · have q : uGet (uSet U a (f o)) b = none := q
    rw [uGet_uSet some_] at q
    by_cases hb : b = a
    · rw [if_pos hb] at q; cases q
    · rw [if_neg hb] at q
      exact D.keys b q
  · show uGet (uSet U a (f o)) b = none
    have z1 := D.keys' b q
    have hb : b ≠ a := fun hb => by rw [hb, e] at z1; cases z1
    rw [uGet_uSet some_, if_neg hb]
    exact z1
  · have e' : uGet (uSet U a (f o)) b = some o' := e'
    rw [uGet_uSet some_] at e'
    by_cases hb : b = a
    · subst hb
      rw [if_pos rfl] at e'
      cases e'
      exact ⟨z.1, Heap.get?_update_self _ z.2 hf⟩
    · rw [if_neg hb] at e'
      have y := D.upd b o' e'
      exact ⟨y.1, (hsb.2 b hb).trans y.2⟩
end
section
variable {den : Code → Sem Fin} {p : Program} {w : World}
noncomputable def isMem : Sem Fin → Bool
  | .load _ _ _ => true | .loadIfAlive _ _ => true | .update _ _ _ _ => true | .alloc _ _ => true | _ => false
theorem other_step {n₁ : Nat} {T : BT} {m : Nat} {U : List (Nat × Obj)} {gens : Array GenState} {drawn : Drawn} {toks : Nat} {os : OsState} {cur : Sem Fin} {code : Code} {pos : Pos} {stack : List Frame} {st' : PS} {t' : Thread} {h₁ h : Heap} {U₀ : List (Nat × Obj)}
    (hm : isMem cur = false)
    (D : Rep h₁ n₁ U₀ ⟨T, m, U, gens, drawn, toks, os⟩ h)
    (e : (match step den p w ⟨{}, gens, drawn, toks, os⟩ ⟨cur, code, pos, stack⟩ with
        | .go s' t' => some ((⟨T, m, U, s'.gens, s'.drawn, s'.toks, s'.os⟩ : PS), t')
        | .halt _ _ => none) = some (st', t')) :
    ∃ h', Rep h₁ n₁ U₀ st' h' ∧ step den p w ⟨h, gens, drawn, toks, os⟩ ⟨cur, code, pos, stack⟩ = .go ⟨h', st'.gens, st'.drawn, st'.toks, st'.os⟩ t' := by
  cases q : step den p w ⟨{}, gens, drawn, toks, os⟩ ⟨cur, code, pos, stack⟩ with
  | halt o s' => rw [q] at e; cases e
  | go s' t'' =>
    rw [q] at e
    cases e
    exact ⟨h, ⟨D.size, D.own, D.keep, D.keys, D.keys', D.upd⟩, step_heap (fun _ _ _ e => by rw [e] at hm; cases hm) (fun _ _ _ _ e => by rw [e] at hm; cases hm) (fun _ _ e => by rw [e] at hm; cases hm) (fun _ _ e => by rw [e] at hm; cases hm) q⟩
theorem stepP_sound {kt : KT} {n₁ : Nat} {U₀ : List (Nat × Obj)} {h₁ : Heap} (hs : h₁.objs.size = n₁) (hk : kt.Holds h₁ 1 0) {st st' : PS} {t t' : Thread} {h : Heap} (D : Rep h₁ n₁ U₀ st h)
    (e : stepP (step den p w) kt n₁ st t = some (st', t')) :
    ∃ h', Rep h₁ n₁ U₀ st' h' ∧ step den p w ⟨h, st.gens, st.drawn, st.toks, st.os⟩ t = .go ⟨h', st'.gens, st'.drawn, st'.toks, st'.os⟩ t' := by
  obtain ⟨T, m, U, gens, drawn, toks, os⟩ := st
  obtain ⟨cur, code, pos, stack⟩ := t
  cases cur with
  | load a q k =>
    have e : (match pLook kt n₁ T U a with | some o => some ((⟨T, m, U, gens, drawn, toks, os⟩ : PS), (⟨k o, code, pos, stack⟩ : Thread)) | none => none) = some (st', t') := e
    cases l : pLook kt n₁ T U a with
    | none => rw [l] at e; cases e
    | some o =>
      rw [l] at e
      cases e
      refine ⟨h, D, ?_⟩
      have := D.look hk l
      simp only [step, this]
  | loadIfAlive a k =>
    have e : (match pLook kt n₁ T U a with | some o => some ((⟨T, m, U, gens, drawn, toks, os⟩ : PS), (⟨k (some o), code, pos, stack⟩ : Thread)) | none => none) = some (st', t') := e
    cases l : pLook kt n₁ T U a with
    | none => rw [l] at e; cases e
    | some o =>
      rw [l] at e
      cases e
      refine ⟨h, D, ?_⟩
      have := D.look hk l
      simp only [step, this]
  | update a q f k =>
    have e : (match Nat.blt a n₁ with
        | true => match uGet U a with
          | some o => match (f o).isFreed with
            | true => none
            | false => some ((⟨T, m, uSet U a (f o), gens, drawn, toks, os⟩ : PS), (⟨k (), code, pos, stack⟩ : Thread))
          | none => none
        | false => match T.get (a - n₁) with
          | some o => match (f o).isFreed with
            | true => none
            | false => some (⟨T.set (a - n₁) f, m, U, gens, drawn, toks, os⟩, ⟨k (), code, pos, stack⟩)
          | none => none) = some (st', t') := e
    cases b : Nat.blt a n₁ with
    | true =>
      rw [b] at e
      dsimp only at e
      cases l : uGet U a with
      | none => rw [l] at e; cases e
      | some o =>
        rw [l] at e
        dsimp only at e
        cases hf : (f o).isFreed with
        | true => rw [hf] at e; cases e
        | false =>
          rw [hf] at e
          cases e
          have z := D.updOld l hf
          refine ⟨_, z.2, ?_⟩
          simp only [step, z.1, Option.isSome_some, if_true]
    | false =>
      rw [b] at e
      dsimp only at e
      cases l : T.get (a - n₁) with
      | none => rw [l] at e; cases e
      | some o =>
        rw [l] at e
        dsimp only at e
        cases hf : (f o).isFreed with
        | true => rw [hf] at e; cases e
        | false =>
          rw [hf] at e
          cases e
          have z := D.updNew hs (blt_false b) l hf
          refine ⟨_, z.2, ?_⟩
          simp only [step, z.1, Option.isSome_some, if_true]
  | alloc o k =>
    have e : (match o.isFreed with
        | true => none
        | false => match (T.ins m o).get m with
          | some _ => some ((⟨T.ins m o, m + 1, U, gens, drawn, toks, os⟩ : PS), (⟨k (n₁ + m), code, pos, stack⟩ : Thread))
          | none => none) = some (st', t') := e
    cases hf : o.isFreed with
    | true => rw [hf] at e; cases e
    | false =>
      rw [hf] at e
      dsimp only at e
      cases l : (T.ins m o).get m with
      | none => rw [l] at e; cases e
      | some o' =>
        rw [l] at e
        cases e
        refine ⟨_, D.alloc hf (by rw [l]; rfl), ?_⟩
        have ds : h.objs.size = n₁ + m := D.size
        simp only [step, ds]
  | pure | raise | unsupported | finish | rule | «at» | point | register | fresh | ask | choose | os | call | handled | newGen | genState | resume | yield | stack | fork | thread | await =>
    exact other_step rfl D e
theorem runP_sound {tb : String → Option Builtin} {p : Program} {w : World} {m₀ : Nat} {ann : Option Value} {kt : KT} {n₁ b : Nat} {U₀ : List (Nat × Obj)} {h₁ : Heap} (hs : h₁.objs.size = n₁) (hk : kt.Holds h₁ 1 0) :
    ∀ (n : Nat) {st st' : PS} {t : Thread} {h : Heap} {f : Flow} {c : Code} {q : Pos}, Rep h₁ n₁ U₀ st h → runP (step (denote tb) p w) (stepOk m₀ ann) kt n₁ b n st t = some (f, st', c, q) →
      ∃ h', Rep h₁ n₁ U₀ st' h' ∧ segRun tb p w m₀ ann b n ⟨h, st.gens, st.drawn, st.toks, st.os⟩ t = some (f, ⟨h', st'.gens, st'.drawn, st'.toks, st'.os⟩, c, q)
  | 0, _, _, _, _, _, _, _, _, e => by cases e
  | n + 1, st, st', t, h, f, c, q, D, e => by
    have e : (match endAt b t with
      | some f => some (f, st, t.code, t.pos)
      | none => match stepOk m₀ ann t with
        | false => none
        | true => match stepP (step (denote tb) p w) kt n₁ st t with
          | some (st', t') => runP (step (denote tb) p w) (stepOk m₀ ann) kt n₁ b n st' t'
          | none => none) = some (f, st', c, q) := e
    unfold segRun
    cases q1 : endAt b t with
    | some f' =>
      rw [q1] at e
      cases e
      exact ⟨h, D, rfl⟩
    | none =>
      rw [q1] at e
      cases q2 : stepOk m₀ ann t with
      | false => rw [q2] at e; cases e
      | true =>
        rw [q2] at e
        cases q3 : stepP (step (denote tb) p w) kt n₁ st t with
        | none => rw [q3] at e; cases e
        | some x =>
          obtain ⟨st₂, t₂⟩ := x
          rw [q3] at e
          obtain ⟨h₂, D₂, s₂⟩ := stepP_sound hs hk D q3
          obtain ⟨h', D', r⟩ := runP_sound hs hk n D₂ e
          refine ⟨h', D', ?_⟩
          simp only [s₂]
          exact r
end
noncomputable def obsP (is as : List Nat) (r : Option (Flow × PS × Code × Pos)) : Option (Flow × Code × Pos × Nat × Array GenState × Drawn × Nat × OsState × List (Option Obj) × List (Option Obj)) :=
  r.map fun x => (x.1, x.2.2.1, x.2.2.2, x.2.1.m, x.2.1.gens, x.2.1.drawn, x.2.1.toks, x.2.1.os, is.map x.2.1.T.get, as.map (uGet x.2.1.U))
theorem map_some_own {α : Type} {g g' : Nat → Option α} (k : ∀ i o, g i = some o → g' i = some o) : ∀ {is : List Nat} {os : List α}, is.map g = os.map some → is.map g' = os.map some
  | [], [], _ => rfl
  | [], _ :: _, e => by cases e
  | _ :: _, [], e => by cases e
  | i :: is, o :: os, e => by
    simp only [List.map_cons, List.cons.injEq] at e ⊢
    exact ⟨k _ _ e.1, map_some_own k e.2⟩
theorem chunk_of {tb : String → Option Builtin} {p : Program} {w : World} {m₀ : Nat} {ann : Option Value} {kt : KT} {n₁ n b : Nat} {U : List (Nat × Obj)} {h : Heap} {gens gens' : Array GenState} {drawn drawn' : Drawn} {toks toks' m' : Nat} {os os' : OsState}
    {t : Thread} {f : Flow} {c : Code} {q : Pos} {is as : List Nat} {ts us : List Obj} (hs : h.objs.size = n₁) (hk : kt.Holds h 1 0) (hU : ∀ a o, uGet U a = some o → a < n₁ ∧ h.get? a = some o)
    (e : obsP is as (runP (step (denote tb) p w) (stepOk m₀ ann) kt n₁ b n ⟨.nil, 0, U, gens, drawn, toks, os⟩ t) = some (f, c, q, m', gens', drawn', toks', os', ts.map some, us.map some)) :
    ∃ h', h'.objs.size = n₁ + m' ∧ (∀ b o, h.get? b = some o → uGet U b = none → h'.get? b = some o) ∧ is.map (fun i => h'.get? (n₁ + i)) = ts.map some ∧ as.map h'.get? = us.map some ∧
      segRun tb p w m₀ ann b n ⟨h, gens, drawn, toks, os⟩ t = some (f, ⟨h', gens', drawn', toks', os'⟩, c, q) := by
  unfold obsP at e
  cases r : runP (step (denote tb) p w) (stepOk m₀ ann) kt n₁ b n ⟨.nil, 0, U, gens, drawn, toks, os⟩ t with
  | none => rw [r] at e; cases e
  | some x =>
    obtain ⟨f', st, c', q'⟩ := x
    rw [r] at e
    simp only [Option.map_some, Option.some.injEq, Prod.mk.injEq] at e
    obtain ⟨rfl, rfl, rfl, rfl, rfl, rfl, rfl, rfl, e1, e2⟩ := e
    have D₀ : Rep h n₁ U ⟨.nil, 0, U, gens, drawn, toks, os⟩ h := ⟨hs, fun _ _ z => (nomatch z), fun _ _ z _ => z, fun _ z => z, fun _ z => z, hU⟩
    obtain ⟨h', D, y⟩ := runP_sound hs hk n D₀ r
    exact ⟨h', D.size, D.keep, map_some_own (fun i o z => (D.own i o z).2) e1, map_some_own (fun i o z => (D.upd i o z).2) e2, y⟩
noncomputable def Hs (L : List (Nat × Obj)) (h : Heap) : Prop := ∀ p ∈ L, h.get? p.1 = some p.2
theorem Hs.app {L M : List (Nat × Obj)} {h : Heap} (a : Hs L h) (b : Hs M h) : Hs (L ++ M) h := fun p hp => (List.mem_append.mp hp).elim (a p) (b p)
theorem Hs.nil {h : Heap} : Hs [] h := fun _ hp => nomatch hp
theorem Hs.at {L : List (Nat × Obj)} {h : Heap} (H : Hs L h) (i : Nat) {a : Nat} {o : Obj} (e : L[i]? = some (a, o)) : h.get? a = some o := H (a, o) (List.mem_of_getElem? e)
theorem Hs.kept {L U : List (Nat × Obj)} {h h' : Heap} (H : Hs L h) (k : ∀ b o, h.get? b = some o → uGet U b = none → h'.get? b = some o) (e : (L.all fun p => (uGet U p.1).isNone) = true) : Hs L h' := fun p hp =>
  k _ _ (H p hp) (by have z := List.all_eq_true.mp e p hp; simpa using z)
theorem hs_of_map {n : Nat} {h : Heap} : ∀ {is : List Nat} {os : List Obj}, is.map (fun i => h.get? (n + i)) = os.map some → Hs ((is.map (n + ·)).zip os) h
  | [], _, _ => fun _ hp => by simp at hp
  | _ :: _, [], e => by cases e
  | i :: is, o :: os, e => by
    simp only [List.map_cons, List.cons.injEq] at e
    intro p hp
    simp only [List.map_cons, List.zip_cons_cons, List.mem_cons] at hp
    rcases hp with rfl | hp
    · exact e.1
    · exact hs_of_map e.2 p hp
theorem hs_of_map0 {h : Heap} : ∀ {is : List Nat} {os : List Obj}, is.map h.get? = os.map some → Hs (is.zip os) h
  | [], _, _ => fun _ hp => by simp at hp
  | _ :: _, [], e => by cases e
  | i :: is, o :: os, e => by
    simp only [List.map_cons, List.cons.injEq] at e
    intro p hp
    simp only [List.zip_cons_cons, List.mem_cons] at hp
    rcases hp with rfl | hp
    · exact e.1
    · exact hs_of_map0 e.2 p hp
theorem uGet_mem {a : Nat} {o : Obj} : ∀ {U : List (Nat × Obj)}, uGet U a = some o → (a, o) ∈ U
  | p :: l, e => by
    have e2 : uGet (p :: l) a = match Nat.beq p.1 a with | true => some p.2 | false => uGet l a := rfl
    rw [e2, BT.beq_eq] at e
    by_cases h : p.1 = a
    · rw [decide_eq_true h] at e
      obtain ⟨x, y⟩ := p
      cases e; cases h; exact .head _
    · rw [decide_eq_false h] at e
      exact .tail _ (uGet_mem e)
theorem hU_of {U : List (Nat × Obj)} {h : Heap} {n : Nat} (H : Hs U h) (hs : h.objs.size = n) : ∀ a o, uGet U a = some o → a < n ∧ h.get? a = some o := fun a o e =>
  have z := H _ (uGet_mem e)
  ⟨hs ▸ Heap.lt_size z, z⟩
theorem allIn_hs {h : Heap} : ∀ {K : Frag}, Hs K h → AllIn h K
  | [], _ => trivial
  | p :: _, H => ⟨H p (.head _), allIn_hs fun q hq => H q (.tail _ hq)⟩
theorem chunk_at {tb : String → Option Builtin} {p : Program} {w : World} {m₀ : Nat} {ann : Option Value} {n₁ n b : Nat} {N U G : List (Nat × Obj)} {h : Heap} {gens gens' : Array GenState} {drawn drawn' : Drawn} {toks toks' m' : Nat} {os os' : OsState}
    {t : Thread} {f : Flow} {c : Code} {q : Pos} {is as : List Nat} {ts us : List Obj} (hs : h.objs.size = n₁) (hN : Hs N h) (hU : Hs U h)
    (e : obsP is as (runP (step (denote tb) p w) (stepOk m₀ ann) (KT.of N) n₁ b n ⟨.nil, 0, U, gens, drawn, toks, os⟩ t) = some (f, c, q, m', gens', drawn', toks', os', ts.map some, us.map some))
    (eG : G = (is.map (n₁ + ·)).zip ts) :
    ∃ h', h'.objs.size = n₁ + m' ∧ (∀ b o, h.get? b = some o → uGet U b = none → h'.get? b = some o) ∧ Hs G h' ∧ Hs (as.zip us) h' ∧
      segRun tb p w m₀ ann b n ⟨h, gens, drawn, toks, os⟩ t = some (f, ⟨h', gens', drawn', toks', os'⟩, c, q) := by
  obtain ⟨h', z1, z2, z3, z4, z5⟩ := chunk_of hs (holds_of (allIn_hs hN)) (hU_of hU hs) e
  exact ⟨h', z1, z2, eG ▸ hs_of_map z3, hs_of_map0 z4, z5⟩
theorem Hs.cons {L : List (Nat × Obj)} {h : Heap} {a : Nat} {o : Obj} (e : h.get? a = some o) (H : Hs L h) : Hs ((a, o) :: L) h := fun p hp => by
  rcases List.mem_cons.mp hp with rfl | hp
  · exact e
  · exact H p hp
noncomputable abbrev pw : Program := PySem.Challenge.pw_au0015_02
noncomputable def vz : Value := .none
noncomputable def vi (n : Int) : Value := .int n 0
noncomputable def vs (s : String) (t : Nat) : Value := .str (Str.ofString s) t
noncomputable def vy (s : String) : Value := .type s
noncomputable def vb (s : String) : Value := .builtin s
noncomputable def vr (n : Nat) : Value := .ref n
noncomputable def vt : Value := .bool true
noncomputable def vf : Value := .bool false
noncomputable def de (P : Params) (s : String) (t : Nat) (v : Value) : DictEntry := ⟨PyData.keyHash P (Str.ofString s), .str (Str.ofString s) t, v⟩
noncomputable def nthS : List Stmt → Nat → Stmt
  | [], _ => .Pass ⟨0, 0, 0, 0⟩
  | s :: _, 0 => s
  | _ :: r, n + 1 => nthS r n
noncomputable def bodyOf : Stmt → List Stmt
  | .FunctionDef _ _ b _ _ _ _ _ _ _ => b
  | .ClassDef _ _ _ b _ _ _ _ _ _ _ => b
  | _ => []
noncomputable def fd0 (i : Nat) : Stmt := nthS pw.main.body i
noncomputable def fd1 (i j : Nat) : Stmt := nthS (bodyOf (fd0 i)) j
noncomputable def mkFd (st : Stmt) (q : String) (dV pm : Value) (an : Option Addr) (cd : Value) : FuncData := match st with
  | .FunctionDef n a b _ _ _ sc _ _ _ => { name := n, qualname := Str.ofString q, params := a, body := .stmts b, scope := sc, globals := 3, closure := [], defaults := dV, kwdefaults := .none, doc := .none, pyModule := pm, annotations := an, code := cd, closureTuple := .none, builtins := 0 }
  | _ => default
noncomputable def mkCl (n : String) (bs mro : List Value) (ns : Nat) (subs : List Value) : ClassData :=
  { name := Str.ofString n, bases := bs, mro := mro, ns := ns, qualname := Str.ofString n, hasDict := true, slotNames := [], subclasses := subs, abstract := false, collection := none, hasDel := false }
noncomputable abbrev o0 (P : Params) : Obj := boot_o_0 P
noncomputable abbrev o4 (P : Params) : Obj := boot_o_4 P
noncomputable abbrev o6 (P : Params) : Obj := boot_o_6 P
noncomputable def o13 (P : Params) : Obj := ⟨(vy "code"), none, (.fields (List.toArray [(vs "<module>" 182), (vs "<module>" 183), (vs "/claim/cut.py" 184), (vi 1), (vi 0), (vi 0), (vi 0), (vi 0), (vr 11), vf, (vi 181), (vr 12), vz, vz, vz, vz, (vi 185), (vi 1), (vs "/claim/cut.py" 186)])), #[]⟩
noncomputable def o30 (P : Params) : Obj := ⟨vz, none, (.fields (List.toArray [])), #[]⟩
noncomputable def o34 (P : Params) : Obj := ⟨(vy "code"), none, (.fields (List.toArray [(vs "__init__" 208), (vs "Deadline.__init__" 209), (vs "/claim/cut.py" 210), (vi 7), (vi 2), (vi 0), (vi 0), (vi 3), (vr 29), vt, (vi 181), (vr 30), vz, (vr 31), (vr 32), (vr 33), (vi 213), (vi 7), (vs "/claim/cut.py" 214)])), #[]⟩
noncomputable def o35 (P : Params) : Obj := ⟨(vy "function"), none, (.func (mkFd (fd1 2 0) "Deadline.__init__" vz (vs "nltk.inference.resolution" 194) none (vr 34))), #[]⟩
noncomputable def o37 (P : Params) : Obj := ⟨vz, none, (.fields (List.toArray [])), #[]⟩
noncomputable def o41 (P : Params) : Obj := ⟨(vy "code"), none, (.fields (List.toArray [(vs "passed" 216), (vs "Deadline.passed" 217), (vs "/claim/cut.py" 218), (vi 10), (vi 1), (vi 0), (vi 0), (vi 3), (vr 36), vt, (vi 181), (vr 37), vz, (vr 38), (vr 39), (vr 40), (vi 220), (vi 10), (vs "/claim/cut.py" 221)])), #[]⟩
noncomputable def o42 (P : Params) : Obj := ⟨(vy "function"), none, (.func (mkFd (fd1 2 1) "Deadline.passed" vz (vs "nltk.inference.resolution" 194) none (vr 41))), #[]⟩
noncomputable def o44 (P : Params) : Obj := ⟨(vy "dict"), none, (.dict (List.toArray [de P "__module__" 203 (vs "nltk.inference.resolution" 194), de P "__firstlineno__" 207 (.int (5) 206), de P "__init__" 215 (vr 35), de P "passed" 222 (vr 42), de P "__static_attributes__" 224 (vr 43), de P "__dict__" 226 (vr 46), de P "__weakref__" 228 (vr 47), de P "__doc__" 229 vz]) 4), #[]⟩
noncomputable def o45 (P : Params) : Obj := ⟨(vy "type"), none, (.cls (mkCl "Deadline" [(vy "object")] [(vr 45), (vy "object")] 44 [])), (List.toArray [none, none, some (vs "Deadline" 196), some (vs "Deadline" 204), some (vb "object.__new__"), some vt])⟩
noncomputable def o57 (P : Params) : Obj := ⟨(vy "tuple"), none, (.seq (List.toArray [(.int (0) 246)]) 0), #[]⟩
noncomputable def o59 (P : Params) : Obj := ⟨vz, none, (.fields (List.toArray [])), #[]⟩
noncomputable def o63 (P : Params) : Obj := ⟨(vy "code"), none, (.fields (List.toArray [(vs "__init__" 247), (vs "Counter.__init__" 248), (vs "/claim/cut.py" 249), (vi 16), (vi 2), (vi 0), (vi 0), (vi 3), (vr 58), vt, (vi 181), (vr 59), vz, (vr 60), (vr 61), (vr 62), (vi 252), (vi 16), (vs "/claim/cut.py" 253)])), #[]⟩
noncomputable def o64 (P : Params) : Obj := ⟨(vy "function"), none, (.func (mkFd (fd1 4 0) "Counter.__init__" (vr 57) (vs "nltk.sem.logic" 232) none (vr 63))), #[]⟩
noncomputable def o66 (P : Params) : Obj := ⟨vz, none, (.fields (List.toArray [])), #[]⟩
noncomputable def o70 (P : Params) : Obj := ⟨(vy "code"), none, (.fields (List.toArray [(vs "get" 255), (vs "Counter.get" 256), (vs "/claim/cut.py" 257), (vi 19), (vi 1), (vi 0), (vi 0), (vi 3), (vr 65), vt, (vi 181), (vr 66), vz, (vr 67), (vr 68), (vr 69), (vi 259), (vi 19), (vs "/claim/cut.py" 260)])), #[]⟩
noncomputable def o71 (P : Params) : Obj := ⟨(vy "function"), none, (.func (mkFd (fd1 4 1) "Counter.get" vz (vs "nltk.sem.logic" 232) none (vr 70))), #[]⟩
noncomputable def o73 (P : Params) : Obj := ⟨(vy "dict"), none, (.dict (List.toArray [de P "__module__" 241 (vs "nltk.sem.logic" 232), de P "__firstlineno__" 245 (.int (14) 244), de P "__init__" 254 (vr 64), de P "get" 261 (vr 71), de P "__static_attributes__" 263 (vr 72), de P "__dict__" 265 (vr 75), de P "__weakref__" 267 (vr 76), de P "__doc__" 268 vz]) 4), #[]⟩
noncomputable def o74 (P : Params) : Obj := ⟨(vy "type"), none, (.cls (mkCl "Counter" [(vy "object")] [(vr 74), (vy "object")] 73 [])), (List.toArray [none, none, some (vs "Counter" 234), some (vs "Counter" 242), some (vb "object.__new__"), some vt])⟩
noncomputable def o80 (P : Params) : Obj := ⟨vz, none, (.fields (List.toArray [])), #[]⟩
noncomputable def o84 (P : Params) : Obj := ⟨(vy "code"), none, (.fields (List.toArray [(vs "_union" 271), (vs "_union" 272), (vs "/claim/cut.py" 273), (vi 22), (vi 1), (vi 0), (vi 0), (vi 3), (vr 79), vt, (vi 181), (vr 80), vz, (vr 81), (vr 82), (vr 83), (vi 278), (vi 22), (vs "/claim/cut.py" 279)])), #[]⟩
noncomputable def o85 (P : Params) : Obj := ⟨(vy "function"), none, (.func (mkFd (fd0 5) "_union" vz (vs "nltk.sem.logic" 232) none (vr 84))), #[]⟩
noncomputable def o125 (P : Params) : Obj := ⟨vz, none, (.fields (List.toArray [])), #[]⟩
noncomputable def o129 (P : Params) : Obj := ⟨(vy "code"), none, (.fields (List.toArray [(vs "__init__" 470), (vs "Variable.__init__" 471), (vs "/claim/cut.py" 472), (vi 64), (vi 2), (vi 0), (vi 0), (vi 3), (vr 124), vt, (vi 181), (vr 125), vz, (vr 126), (vr 127), (vr 128), (vi 475), (vi 64), (vs "/claim/cut.py" 476)])), #[]⟩
noncomputable def o130 (P : Params) : Obj := ⟨(vy "function"), none, (.func (mkFd (fd1 7 0) "Variable.__init__" vz (vs "nltk.sem.logic" 232) none (vr 129))), #[]⟩
noncomputable def o132 (P : Params) : Obj := ⟨vz, none, (.fields (List.toArray [])), #[]⟩
noncomputable def o136 (P : Params) : Obj := ⟨(vy "code"), none, (.fields (List.toArray [(vs "__eq__" 478), (vs "Variable.__eq__" 479), (vs "/claim/cut.py" 480), (vi 68), (vi 2), (vi 0), (vi 0), (vi 3), (vr 131), vt, (vi 181), (vr 132), vz, (vr 133), (vr 134), (vr 135), (vi 483), (vi 68), (vs "/claim/cut.py" 484)])), #[]⟩
noncomputable def o137 (P : Params) : Obj := ⟨(vy "function"), none, (.func (mkFd (fd1 7 1) "Variable.__eq__" vz (vs "nltk.sem.logic" 232) none (vr 136))), #[]⟩
noncomputable def o153 (P : Params) : Obj := ⟨(vy "dict"), none, (.dict (List.toArray [de P "__module__" 465 (vs "nltk.sem.logic" 232), de P "__firstlineno__" 469 (.int (62) 468), de P "__init__" 477 (vr 130), de P "__eq__" 485 (vr 137), de P "__lt__" 493 (vr 144), de P "__str__" 500 (vr 151), de P "__static_attributes__" 502 (vr 152), de P "__dict__" 504 (vr 155), de P "__weakref__" 506 (vr 156), de P "__doc__" 507 vz, de P "__hash__" 508 vz]) 5), #[]⟩
noncomputable def o154 (P : Params) : Obj := ⟨(vy "type"), none, (.cls (mkCl "Variable" [(vy "object")] [(vr 154), (vy "object")] 153 [])), (List.toArray [none, none, some (vs "Variable" 458), some (vs "Variable" 466), some (vb "object.__new__"), some vt])⟩
noncomputable def o159 (P : Params) : Obj := ⟨(vy "tuple"), none, (.seq (List.toArray [vz, vz, vz]) 0), #[]⟩
noncomputable def o161 (P : Params) : Obj := ⟨vz, none, (.fields (List.toArray [])), #[]⟩
noncomputable def o165 (P : Params) : Obj := ⟨(vy "code"), none, (.fields (List.toArray [(vs "unique_variable" 511), (vs "unique_variable" 512), (vs "/claim/cut.py" 513), (vi 78), (vi 3), (vi 0), (vi 0), (vi 3), (vr 160), vt, (vi 181), (vr 161), vz, (vr 162), (vr 163), (vr 164), (vi 519), (vi 78), (vs "/claim/cut.py" 520)])), #[]⟩
noncomputable def o166 (P : Params) : Obj := ⟨(vy "function"), none, (.func (mkFd (fd0 8) "unique_variable" (vr 159) (vs "nltk.sem.logic" 232) none (vr 165))), #[]⟩
noncomputable def o189 (P : Params) : Obj := ⟨(vy "dict"), none, (.dict (List.toArray [de P "__module__" 529 (vs "nltk.sem.logic" 232), de P "__firstlineno__" 533 (.int (96) 532), de P "substitute_bindings" 541 (vr 180), de P "variables" 548 (vr 187), de P "__static_attributes__" 549 (vr 188), de P "__dict__" 551 (vr 191), de P "__weakref__" 553 (vr 192), de P "__doc__" 554 vz]) 4), #[]⟩
noncomputable def o190 (P : Params) : Obj := ⟨(vy "type"), none, (.cls (mkCl "SubstituteBindingsI" [(vy "object")] [(vr 190), (vy "object")] 189 [(vr 346)])), (List.toArray [none, none, some (vs "SubstituteBindingsI" 522), some (vs "SubstituteBindingsI" 530), some (vb "object.__new__"), some vt])⟩
noncomputable def o227 (P : Params) : Obj := ⟨vz, none, (.fields (List.toArray [])), #[]⟩
noncomputable def o231 (P : Params) : Obj := ⟨(vy "code"), none, (.fields (List.toArray [(vs "__neg__" 608), (vs "Expression.__neg__" 609), (vs "/claim/cut.py" 610), (vi 119), (vi 1), (vi 0), (vi 0), (vi 3), (vr 226), vt, (vi 181), (vr 227), vz, (vr 228), (vr 229), (vr 230), (vi 612), (vi 119), (vs "/claim/cut.py" 613)])), #[]⟩
noncomputable def o232 (P : Params) : Obj := ⟨(vy "function"), none, (.func (mkFd (fd1 10 3) "Expression.__neg__" vz (vs "nltk.sem.logic" 232) none (vr 231))), #[]⟩
noncomputable def o282 (P : Params) : Obj := ⟨(vy "tuple"), none, (.seq (List.toArray [vf, vt]) 0), #[]⟩
noncomputable def o284 (P : Params) : Obj := ⟨vz, none, (.fields (List.toArray [])), #[]⟩
noncomputable def o288 (P : Params) : Obj := ⟨(vy "code"), none, (.fields (List.toArray [(vs "replace" 670), (vs "Expression.replace" 671), (vs "/claim/cut.py" 672), (vi 151), (vi 5), (vi 0), (vi 0), (vi 3), (vr 283), vt, (vi 181), (vr 284), vz, (vr 285), (vr 286), (vr 287), (vi 682), (vi 151), (vs "/claim/cut.py" 683)])), #[]⟩
noncomputable def o289 (P : Params) : Obj := ⟨(vy "function"), none, (.func (mkFd (fd1 10 11) "Expression.replace" (vr 282) (vs "nltk.sem.logic" 232) none (vr 288))), #[]⟩
noncomputable def o298 (P : Params) : Obj := ⟨vz, none, (.fields (List.toArray [])), #[]⟩
noncomputable def o302 (P : Params) : Obj := ⟨(vy "code"), none, (.fields (List.toArray [(vs "visit_structured" 694), (vs "Expression.visit_structured" 695), (vs "/claim/cut.py" 696), (vi 159), (vi 2), (vi 0), (vi 0), (vi 3), (vr 297), vt, (vi 181), (vr 298), vz, (vr 299), (vr 300), (vr 301), (vi 700), (vi 159), (vs "/claim/cut.py" 701)])), #[]⟩
noncomputable def o303 (P : Params) : Obj := ⟨(vy "function"), none, (.func (mkFd (fd1 10 13) "Expression.visit_structured" vz (vs "nltk.sem.logic" 232) none (vr 302))), #[]⟩
noncomputable def o345 (P : Params) : Obj := ⟨(vy "dict"), none, (.dict (List.toArray [de P "__module__" 564 (vs "nltk.sem.logic" 232), de P "__firstlineno__" 568 (.int (103) 567), de P "fromstring" 588 (vr 210), de P "__call__" 599 (vr 218), de P "applyto" 607 (vr 225), de P "__neg__" 614 (vr 232), de P "negate" 621 (vr 239), de P "__and__" 629 (vr 246), de P "__or__" 637 (vr 253), de P "__gt__" 645 (vr 260), de P "__lt__" 653 (vr 267), de P "__eq__" 661 (vr 274), de P "substitute_bindings" 669 (vr 281), de P "replace" 684 (vr 289), de P "visit" 693 (vr 296), de P "visit_structured" 702 (vr 303), de P "variables" 708 (vr 308), de P "free" 715 (vr 315), de P "constants" 722 (vr 322), de P "predicates" 729 (vr 329), de P "simplify" 736 (vr 336), de P "make_VariableExpression" 744 (vr 343), de P "__static_attributes__" 745 (vr 344), de P "__doc__" 746 vz, de P "__hash__" 747 vz]) 3), #[]⟩
noncomputable def o364 (P : Params) : Obj := ⟨vz, none, (.fields (List.toArray [])), #[]⟩
noncomputable def o368 (P : Params) : Obj := ⟨(vy "code"), none, (.fields (List.toArray [(vs "__init__" 775), (vs "ApplicationExpression.__init__" 776), (vs "/claim/cut.py" 777), (vi 193), (vi 3), (vi 0), (vi 0), (vi 3), (vr 363), vt, (vi 181), (vr 364), vz, (vr 365), (vr 366), (vr 367), (vi 781), (vi 193), (vs "/claim/cut.py" 782)])), #[]⟩
noncomputable def o369 (P : Params) : Obj := ⟨(vy "function"), none, (.func (mkFd (fd1 13 0) "ApplicationExpression.__init__" vz (vs "nltk.sem.logic" 232) none (vr 368))), #[]⟩
noncomputable def o378 (P : Params) : Obj := ⟨vz, none, (.fields (List.toArray [])), #[]⟩
noncomputable def o382 (P : Params) : Obj := ⟨(vy "code"), none, (.fields (List.toArray [(vs "_made" 794), (vs "ApplicationExpression._made" 795), (vs "/claim/cut.py" 796), (vi 210), (vi 2), (vi 0), (vi 0), (vi 3), (vr 377), vt, (vi 181), (vr 378), vz, (vr 379), (vr 380), (vr 381), (vi 799), (vi 210), (vs "/claim/cut.py" 800)])), #[]⟩
noncomputable def o383 (P : Params) : Obj := ⟨(vy "function"), none, (.func (mkFd (fd1 13 2) "ApplicationExpression._made" vz (vs "nltk.sem.logic" 232) none (vr 382))), #[]⟩
noncomputable def o399 (P : Params) : Obj := ⟨vz, none, (.fields (List.toArray [])), #[]⟩
noncomputable def o403 (P : Params) : Obj := ⟨(vy "code"), none, (.fields (List.toArray [(vs "visit" 818), (vs "ApplicationExpression.visit" 819), (vs "/claim/cut.py" 820), (vi 227), (vi 3), (vi 0), (vi 0), (vi 3), (vr 398), vt, (vi 181), (vr 399), vz, (vr 400), (vr 401), (vr 402), (vi 824), (vi 227), (vs "/claim/cut.py" 825)])), #[]⟩
noncomputable def o404 (P : Params) : Obj := ⟨(vy "function"), none, (.func (mkFd (fd1 13 5) "ApplicationExpression.visit" vz (vs "nltk.sem.logic" 232) none (vr 403))), #[]⟩
noncomputable def o406 (P : Params) : Obj := ⟨vz, none, (.fields (List.toArray [])), #[]⟩
noncomputable def o410 (P : Params) : Obj := ⟨(vy "code"), none, (.fields (List.toArray [(vs "__eq__" 827), (vs "ApplicationExpression.__eq__" 828), (vs "/claim/cut.py" 829), (vi 230), (vi 2), (vi 0), (vi 0), (vi 3), (vr 405), vt, (vi 181), (vr 406), vz, (vr 407), (vr 408), (vr 409), (vi 832), (vi 230), (vs "/claim/cut.py" 833)])), #[]⟩
noncomputable def o411 (P : Params) : Obj := ⟨(vy "function"), none, (.func (mkFd (fd1 13 6) "ApplicationExpression.__eq__" vz (vs "nltk.sem.logic" 232) none (vr 410))), #[]⟩
noncomputable def o420 (P : Params) : Obj := ⟨vz, none, (.fields (List.toArray [])), #[]⟩
noncomputable def o424 (P : Params) : Obj := ⟨(vy "code"), none, (.fields (List.toArray [(vs "uncurry" 847), (vs "ApplicationExpression.uncurry" 848), (vs "/claim/cut.py" 849), (vi 254), (vi 1), (vi 0), (vi 0), (vi 3), (vr 419), vt, (vi 181), (vr 420), vz, (vr 421), (vr 422), (vr 423), (vi 853), (vi 254), (vs "/claim/cut.py" 854)])), #[]⟩
noncomputable def o425 (P : Params) : Obj := ⟨(vy "function"), none, (.func (mkFd (fd1 13 8) "ApplicationExpression.uncurry" vz (vs "nltk.sem.logic" 232) none (vr 424))), #[]⟩
noncomputable def o433 (P : Params) : Obj := ⟨(vy "property"), none, (.fields (List.toArray [(vr 432), vz, vz, vz, (vs "pred" 863), vf])), #[]⟩
noncomputable def o435 (P : Params) : Obj := ⟨vz, none, (.fields (List.toArray [])), #[]⟩
noncomputable def o439 (P : Params) : Obj := ⟨(vy "code"), none, (.fields (List.toArray [(vs "args" 864), (vs "ApplicationExpression.args" 865), (vs "/claim/cut.py" 866), (vi 266), (vi 1), (vi 0), (vi 0), (vi 3), (vr 434), vt, (vi 181), (vr 435), vz, (vr 436), (vr 437), (vr 438), (vi 868), (vi 266), (vs "/claim/cut.py" 869)])), #[]⟩
noncomputable def o440 (P : Params) : Obj := ⟨(vy "function"), none, (.func (mkFd (fd1 13 10) "ApplicationExpression.args" vz (vs "nltk.sem.logic" 232) none (vr 439))), #[]⟩
noncomputable def o441 (P : Params) : Obj := ⟨(vy "property"), none, (.fields (List.toArray [(vr 440), vz, vz, vz, (vs "args" 871), vf])), #[]⟩
noncomputable def o450 (P : Params) : Obj := ⟨(vy "dict"), none, (.dict (List.toArray [de P "__module__" 770 (vs "nltk.sem.logic" 232), de P "__firstlineno__" 774 (.int (191) 773), de P "__init__" 783 (vr 369), de P "simplify" 793 (vr 376), de P "_made" 801 (vr 383), de P "constants" 809 (vr 390), de P "predicates" 817 (vr 397), de P "visit" 826 (vr 404), de P "__eq__" 834 (vr 411), de P "__str__" 846 (vr 418), de P "uncurry" 855 (vr 425), de P "pred" 863 (vr 433), de P "args" 871 (vr 441), de P "is_atom" 878 (vr 448), de P "__static_attributes__" 881 (vr 449), de P "__doc__" 882 vz, de P "__hash__" 883 vz]) 3), #[]⟩
noncomputable def o451 (P : Params) : Obj := ⟨(vy "type"), none, (.cls (mkCl "ApplicationExpression" [(vr 346)] [(vr 451), (vr 346), (vr 190), (vy "object")] 450 [])), (List.toArray [some (vr 356), none, some (vs "ApplicationExpression" 763), some (vs "ApplicationExpression" 771), some (vb "object.__new__"), some vt])⟩
noncomputable def o462 (P : Params) : Obj := ⟨vz, none, (.fields (List.toArray [])), #[]⟩
noncomputable def o466 (P : Params) : Obj := ⟨(vy "code"), none, (.fields (List.toArray [(vs "__init__" 898), (vs "AbstractVariableExpression.__init__" 899), (vs "/claim/cut.py" 900), (vi 274), (vi 2), (vi 0), (vi 0), (vi 3), (vr 461), vt, (vi 181), (vr 462), vz, (vr 463), (vr 464), (vr 465), (vi 903), (vi 274), (vs "/claim/cut.py" 904)])), #[]⟩
noncomputable def o467 (P : Params) : Obj := ⟨(vy "function"), none, (.func (mkFd (fd1 14 0) "AbstractVariableExpression.__init__" vz (vs "nltk.sem.logic" 232) none (vr 466))), #[]⟩
noncomputable def o475 (P : Params) : Obj := ⟨(vy "tuple"), none, (.seq (List.toArray [vf, vt]) 0), #[]⟩
noncomputable def o477 (P : Params) : Obj := ⟨vz, none, (.fields (List.toArray [])), #[]⟩
noncomputable def o481 (P : Params) : Obj := ⟨(vy "code"), none, (.fields (List.toArray [(vs "replace" 913), (vs "AbstractVariableExpression.replace" 914), (vs "/claim/cut.py" 915), (vi 281), (vi 5), (vi 0), (vi 0), (vi 3), (vr 476), vt, (vi 181), (vr 477), vz, (vr 478), (vr 479), (vr 480), (vi 921), (vi 281), (vs "/claim/cut.py" 922)])), #[]⟩
noncomputable def o482 (P : Params) : Obj := ⟨(vy "function"), none, (.func (mkFd (fd1 14 2) "AbstractVariableExpression.replace" (vr 475) (vs "nltk.sem.logic" 232) none (vr 481))), #[]⟩
noncomputable def o491 (P : Params) : Obj := ⟨vz, none, (.fields (List.toArray [])), #[]⟩
noncomputable def o495 (P : Params) : Obj := ⟨(vy "code"), none, (.fields (List.toArray [(vs "__eq__" 931), (vs "AbstractVariableExpression.__eq__" 932), (vs "/claim/cut.py" 933), (vi 292), (vi 2), (vi 0), (vi 0), (vi 3), (vr 490), vt, (vi 181), (vr 491), vz, (vr 492), (vr 493), (vr 494), (vi 936), (vi 292), (vs "/claim/cut.py" 937)])), #[]⟩
noncomputable def o496 (P : Params) : Obj := ⟨(vy "function"), none, (.func (mkFd (fd1 14 4) "AbstractVariableExpression.__eq__" vz (vs "nltk.sem.logic" 232) none (vr 495))), #[]⟩
noncomputable def o512 (P : Params) : Obj := ⟨(vy "dict"), none, (.dict (List.toArray [de P "__module__" 893 (vs "nltk.sem.logic" 232), de P "__firstlineno__" 897 (.int (272) 896), de P "__init__" 905 (vr 467), de P "simplify" 912 (vr 474), de P "replace" 923 (vr 482), de P "predicates" 930 (vr 489), de P "__eq__" 938 (vr 496), de P "__lt__" 946 (vr 503), de P "__str__" 953 (vr 510), de P "__static_attributes__" 955 (vr 511), de P "__doc__" 956 vz, de P "__hash__" 957 vz]) 3), #[]⟩
noncomputable def o513 (P : Params) : Obj := ⟨(vy "type"), none, (.cls (mkCl "AbstractVariableExpression" [(vr 346)] [(vr 513), (vr 346), (vr 190), (vy "object")] 512 [(vr 539), (vr 565), (vr 603)])), (List.toArray [some (vr 454), none, some (vs "AbstractVariableExpression" 886), some (vs "AbstractVariableExpression" 894), some (vb "object.__new__"), some vt])⟩
noncomputable def o524 (P : Params) : Obj := ⟨vz, none, (.fields (List.toArray [])), #[]⟩
noncomputable def o528 (P : Params) : Obj := ⟨(vy "code"), none, (.fields (List.toArray [(vs "free" 972), (vs "IndividualVariableExpression.free" 973), (vs "/claim/cut.py" 974), (vi 304), (vi 1), (vi 0), (vi 0), (vi 3), (vr 523), vt, (vi 181), (vr 524), vz, (vr 525), (vr 526), (vr 527), (vi 976), (vi 304), (vs "/claim/cut.py" 977)])), #[]⟩
noncomputable def o529 (P : Params) : Obj := ⟨(vy "function"), none, (.func (mkFd (fd1 15 0) "IndividualVariableExpression.free" vz (vs "nltk.sem.logic" 232) none (vr 528))), #[]⟩
noncomputable def o538 (P : Params) : Obj := ⟨(vy "dict"), none, (.dict (List.toArray [de P "__module__" 967 (vs "nltk.sem.logic" 232), de P "__firstlineno__" 971 (.int (302) 970), de P "free" 978 (vr 529), de P "constants" 985 (vr 536), de P "__static_attributes__" 986 (vr 537), de P "__doc__" 987 vz]) 2), #[]⟩
noncomputable def o539 (P : Params) : Obj := ⟨(vy "type"), none, (.cls (mkCl "IndividualVariableExpression" [(vr 513)] [(vr 539), (vr 513), (vr 346), (vr 190), (vy "object")] 538 [(vr 577)])), (List.toArray [some (vr 516), none, some (vs "IndividualVariableExpression" 960), some (vs "IndividualVariableExpression" 968), some (vb "object.__new__"), some vt])⟩
noncomputable def o564 (P : Params) : Obj := ⟨(vy "dict"), none, (.dict (List.toArray [de P "__module__" 997 (vs "nltk.sem.logic" 232), de P "__firstlineno__" 1001 (.int (309) 1000), de P "free" 1008 (vr 555), de P "constants" 1015 (vr 562), de P "__static_attributes__" 1016 (vr 563), de P "__doc__" 1017 vz]) 2), #[]⟩
noncomputable def o565 (P : Params) : Obj := ⟨(vy "type"), none, (.cls (mkCl "FunctionVariableExpression" [(vr 513)] [(vr 565), (vr 513), (vr 346), (vr 190), (vy "object")] 564 [])), (List.toArray [some (vr 542), none, some (vs "FunctionVariableExpression" 990), some (vs "FunctionVariableExpression" 998), some (vb "object.__new__"), some vt])⟩
noncomputable def o576 (P : Params) : Obj := ⟨(vy "dict"), none, (.dict (List.toArray [de P "__module__" 1027 (vs "nltk.sem.logic" 232), de P "__firstlineno__" 1031 (.int (316) 1030), de P "__static_attributes__" 1032 (vr 575), de P "__doc__" 1033 vz]) 2), #[]⟩
noncomputable def o577 (P : Params) : Obj := ⟨(vy "type"), none, (.cls (mkCl "EventVariableExpression" [(vr 539)] [(vr 577), (vr 539), (vr 513), (vr 346), (vr 190), (vy "object")] 576 [])), (List.toArray [some (vr 568), none, some (vs "EventVariableExpression" 1020), some (vs "EventVariableExpression" 1028), some (vb "object.__new__"), some vt])⟩
noncomputable def o588 (P : Params) : Obj := ⟨vz, none, (.fields (List.toArray [])), #[]⟩
noncomputable def o592 (P : Params) : Obj := ⟨(vy "code"), none, (.fields (List.toArray [(vs "free" 1048), (vs "ConstantExpression.free" 1049), (vs "/claim/cut.py" 1050), (vi 320), (vi 1), (vi 0), (vi 0), (vi 3), (vr 587), vt, (vi 181), (vr 588), vz, (vr 589), (vr 590), (vr 591), (vi 1052), (vi 320), (vs "/claim/cut.py" 1053)])), #[]⟩
noncomputable def o593 (P : Params) : Obj := ⟨(vy "function"), none, (.func (mkFd (fd1 18 0) "ConstantExpression.free" vz (vs "nltk.sem.logic" 232) none (vr 592))), #[]⟩
noncomputable def o602 (P : Params) : Obj := ⟨(vy "dict"), none, (.dict (List.toArray [de P "__module__" 1043 (vs "nltk.sem.logic" 232), de P "__firstlineno__" 1047 (.int (318) 1046), de P "free" 1054 (vr 593), de P "constants" 1061 (vr 600), de P "__static_attributes__" 1062 (vr 601), de P "__doc__" 1063 vz]) 2), #[]⟩
noncomputable def o603 (P : Params) : Obj := ⟨(vy "type"), none, (.cls (mkCl "ConstantExpression" [(vr 513)] [(vr 603), (vr 513), (vr 346), (vr 190), (vy "object")] 602 [])), (List.toArray [some (vr 580), none, some (vs "ConstantExpression" 1036), some (vs "ConstantExpression" 1044), some (vb "object.__new__"), some vt])⟩
noncomputable def o607 (P : Params) : Obj := ⟨vz, none, (.fields (List.toArray [])), #[]⟩
noncomputable def o611 (P : Params) : Obj := ⟨(vy "code"), none, (.fields (List.toArray [(vs "VariableExpression" 1066), (vs "VariableExpression" 1067), (vs "/claim/cut.py" 1068), (vi 325), (vi 1), (vi 0), (vi 0), (vi 3), (vr 606), vt, (vi 181), (vr 607), vz, (vr 608), (vr 609), (vr 610), (vi 1070), (vi 325), (vs "/claim/cut.py" 1071)])), #[]⟩
noncomputable def o612 (P : Params) : Obj := ⟨(vy "function"), none, (.func (mkFd (fd0 19) "VariableExpression" vz (vs "nltk.sem.logic" 232) none (vr 611))), #[]⟩
noncomputable def o621 (P : Params) : Obj := ⟨vz, none, (.fields (List.toArray [])), #[]⟩
noncomputable def o625 (P : Params) : Obj := ⟨(vy "code"), none, (.fields (List.toArray [(vs "__init__" 1085), (vs "VariableBinderExpression.__init__" 1086), (vs "/claim/cut.py" 1087), (vi 337), (vi 3), (vi 0), (vi 0), (vi 3), (vr 620), vt, (vi 181), (vr 621), vz, (vr 622), (vr 623), (vr 624), (vi 1091), (vi 337), (vs "/claim/cut.py" 1092)])), #[]⟩
noncomputable def o626 (P : Params) : Obj := ⟨(vy "function"), none, (.func (mkFd (fd1 20 0) "VariableBinderExpression.__init__" vz (vs "nltk.sem.logic" 232) none (vr 625))), #[]⟩
noncomputable def o627 (P : Params) : Obj := ⟨(vy "tuple"), none, (.seq (List.toArray [vf, vt]) 0), #[]⟩
noncomputable def o629 (P : Params) : Obj := ⟨vz, none, (.fields (List.toArray [])), #[]⟩
noncomputable def o633 (P : Params) : Obj := ⟨(vy "code"), none, (.fields (List.toArray [(vs "replace" 1094), (vs "VariableBinderExpression.replace" 1095), (vs "/claim/cut.py" 1096), (vi 343), (vi 5), (vi 0), (vi 0), (vi 3), (vr 628), vt, (vi 181), (vr 629), vz, (vr 630), (vr 631), (vr 632), (vi 1104), (vi 343), (vs "/claim/cut.py" 1105)])), #[]⟩
noncomputable def o634 (P : Params) : Obj := ⟨(vy "function"), none, (.func (mkFd (fd1 20 1) "VariableBinderExpression.replace" (vr 627) (vs "nltk.sem.logic" 232) none (vr 633))), #[]⟩
noncomputable def o669 (P : Params) : Obj := ⟨(vy "dict"), none, (.dict (List.toArray [de P "__module__" 1080 (vs "nltk.sem.logic" 232), de P "__firstlineno__" 1084 (.int (335) 1083), de P "__init__" 1093 (vr 626), de P "replace" 1106 (vr 634), de P "alpha_convert" 1114 (vr 641), de P "free" 1120 (vr 646), de P "visit" 1129 (vr 653), de P "_made" 1137 (vr 660), de P "__eq__" 1146 (vr 667), de P "__static_attributes__" 1149 (vr 668), de P "__doc__" 1150 vz, de P "__hash__" 1151 vz]) 3), #[]⟩
noncomputable def o670 (P : Params) : Obj := ⟨(vy "type"), none, (.cls (mkCl "VariableBinderExpression" [(vr 346)] [(vr 670), (vr 346), (vr 190), (vy "object")] 669 [(vr 703), (vr 722)])), (List.toArray [some (vr 613), none, some (vs "VariableBinderExpression" 1073), some (vs "VariableBinderExpression" 1081), some (vb "object.__new__"), some vt])⟩
noncomputable def o702 (P : Params) : Obj := ⟨(vy "dict"), none, (.dict (List.toArray [de P "__module__" 1161 (vs "nltk.sem.logic" 232), de P "__firstlineno__" 1165 (.int (381) 1164), de P "_binder" 1174 (vr 686), de P "_is_alike" 1182 (vr 693), de P "__str__" 1191 (vr 700), de P "__static_attributes__" 1192 (vr 701), de P "__doc__" 1193 vz]) 2), #[]⟩
noncomputable def o703 (P : Params) : Obj := ⟨(vy "type"), none, (.cls (mkCl "LambdaExpression" [(vr 670)] [(vr 703), (vr 670), (vr 346), (vr 190), (vy "object")] 702 [])), (List.toArray [some (vr 673), none, some (vs "LambdaExpression" 1154), some (vs "LambdaExpression" 1162), some (vb "object.__new__"), some vt])⟩
noncomputable def o721 (P : Params) : Obj := ⟨(vy "dict"), none, (.dict (List.toArray [de P "__module__" 1203 (vs "nltk.sem.logic" 232), de P "__firstlineno__" 1207 (.int (396) 1206), de P "__str__" 1216 (vr 719), de P "__static_attributes__" 1217 (vr 720), de P "__doc__" 1218 vz]) 2), #[]⟩
noncomputable def o722 (P : Params) : Obj := ⟨(vy "type"), none, (.cls (mkCl "QuantifiedExpression" [(vr 670)] [(vr 722), (vr 670), (vr 346), (vr 190), (vy "object")] 721 [(vr 755), (vr 788)])), (List.toArray [some (vr 706), none, some (vs "QuantifiedExpression" 1196), some (vs "QuantifiedExpression" 1204), some (vb "object.__new__"), some vt])⟩
noncomputable def o733 (P : Params) : Obj := ⟨vz, none, (.fields (List.toArray [])), #[]⟩
noncomputable def o737 (P : Params) : Obj := ⟨(vy "code"), none, (.fields (List.toArray [(vs "_binder" 1233), (vs "ExistsExpression._binder" 1234), (vs "/claim/cut.py" 1235), (vi 407), (vi 3), (vi 0), (vi 0), (vi 3), (vr 732), vt, (vi 181), (vr 733), vz, (vr 734), (vr 735), (vr 736), (vi 1239), (vi 407), (vs "/claim/cut.py" 1240)])), #[]⟩
noncomputable def o738 (P : Params) : Obj := ⟨(vy "function"), none, (.func (mkFd (fd1 23 0) "ExistsExpression._binder" vz (vs "nltk.sem.logic" 232) none (vr 737))), #[]⟩
noncomputable def o754 (P : Params) : Obj := ⟨(vy "dict"), none, (.dict (List.toArray [de P "__module__" 1228 (vs "nltk.sem.logic" 232), de P "__firstlineno__" 1232 (.int (405) 1231), de P "_binder" 1241 (vr 738), de P "_is_alike" 1249 (vr 745), de P "getQuantifier" 1256 (vr 752), de P "__static_attributes__" 1257 (vr 753), de P "__doc__" 1258 vz]) 2), #[]⟩
noncomputable def o755 (P : Params) : Obj := ⟨(vy "type"), none, (.cls (mkCl "ExistsExpression" [(vr 722)] [(vr 755), (vr 722), (vr 670), (vr 346), (vr 190), (vy "object")] 754 [])), (List.toArray [some (vr 725), none, some (vs "ExistsExpression" 1221), some (vs "ExistsExpression" 1229), some (vb "object.__new__"), some vt])⟩
noncomputable def o766 (P : Params) : Obj := ⟨vz, none, (.fields (List.toArray [])), #[]⟩
noncomputable def o770 (P : Params) : Obj := ⟨(vy "code"), none, (.fields (List.toArray [(vs "_binder" 1275), (vs "AllExpression._binder" 1276), (vs "/claim/cut.py" 1277), (vi 419), (vi 3), (vi 0), (vi 0), (vi 3), (vr 765), vt, (vi 181), (vr 766), vz, (vr 767), (vr 768), (vr 769), (vi 1281), (vi 419), (vs "/claim/cut.py" 1282)])), #[]⟩
noncomputable def o771 (P : Params) : Obj := ⟨(vy "function"), none, (.func (mkFd (fd1 24 2) "AllExpression._binder" vz (vs "nltk.sem.logic" 232) none (vr 770))), #[]⟩
noncomputable def o787 (P : Params) : Obj := ⟨(vy "dict"), none, (.dict (List.toArray [de P "__module__" 1268 (vs "nltk.sem.logic" 232), de P "__firstlineno__" 1272 (.int (415) 1271), de P "_used_vars" 1273 vz, de P "_exhausted" 1274 vf, de P "_binder" 1283 (vr 771), de P "_is_alike" 1291 (vr 778), de P "getQuantifier" 1298 (vr 785), de P "__static_attributes__" 1299 (vr 786), de P "__doc__" 1300 vz]) 2), #[]⟩
noncomputable def o788 (P : Params) : Obj := ⟨(vy "type"), none, (.cls (mkCl "AllExpression" [(vr 722)] [(vr 788), (vr 722), (vr 670), (vr 346), (vr 190), (vy "object")] 787 [])), (List.toArray [some (vr 758), none, some (vs "AllExpression" 1261), some (vs "AllExpression" 1269), some (vb "object.__new__"), some vt])⟩
noncomputable def o799 (P : Params) : Obj := ⟨vz, none, (.fields (List.toArray [])), #[]⟩
noncomputable def o803 (P : Params) : Obj := ⟨(vy "code"), none, (.fields (List.toArray [(vs "__init__" 1316), (vs "NegatedExpression.__init__" 1317), (vs "/claim/cut.py" 1318), (vi 430), (vi 2), (vi 0), (vi 0), (vi 3), (vr 798), vt, (vi 181), (vr 799), vz, (vr 800), (vr 801), (vr 802), (vi 1321), (vi 430), (vs "/claim/cut.py" 1322)])), #[]⟩
noncomputable def o804 (P : Params) : Obj := ⟨(vy "function"), none, (.func (mkFd (fd1 25 1) "NegatedExpression.__init__" vz (vs "nltk.sem.logic" 232) none (vr 803))), #[]⟩
noncomputable def o806 (P : Params) : Obj := ⟨vz, none, (.fields (List.toArray [])), #[]⟩
noncomputable def o810 (P : Params) : Obj := ⟨(vy "code"), none, (.fields (List.toArray [(vs "_made" 1324), (vs "NegatedExpression._made" 1325), (vs "/claim/cut.py" 1326), (vi 434), (vi 2), (vi 0), (vi 0), (vi 3), (vr 805), vt, (vi 181), (vr 806), vz, (vr 807), (vr 808), (vr 809), (vi 1329), (vi 434), (vs "/claim/cut.py" 1330)])), #[]⟩
noncomputable def o811 (P : Params) : Obj := ⟨(vy "function"), none, (.func (mkFd (fd1 25 2) "NegatedExpression._made" vz (vs "nltk.sem.logic" 232) none (vr 810))), #[]⟩
noncomputable def o813 (P : Params) : Obj := ⟨vz, none, (.fields (List.toArray [])), #[]⟩
noncomputable def o817 (P : Params) : Obj := ⟨(vy "code"), none, (.fields (List.toArray [(vs "visit" 1332), (vs "NegatedExpression.visit" 1333), (vs "/claim/cut.py" 1334), (vi 437), (vi 3), (vi 0), (vi 0), (vi 3), (vr 812), vt, (vi 181), (vr 813), vz, (vr 814), (vr 815), (vr 816), (vi 1338), (vi 437), (vs "/claim/cut.py" 1339)])), #[]⟩
noncomputable def o818 (P : Params) : Obj := ⟨(vy "function"), none, (.func (mkFd (fd1 25 3) "NegatedExpression.visit" vz (vs "nltk.sem.logic" 232) none (vr 817))), #[]⟩
noncomputable def o841 (P : Params) : Obj := ⟨(vy "dict"), none, (.dict (List.toArray [de P "__module__" 1310 (vs "nltk.sem.logic" 232), de P "__firstlineno__" 1314 (.int (427) 1313), de P "_exhausted" 1315 vf, de P "__init__" 1323 (vr 804), de P "_made" 1331 (vr 811), de P "visit" 1340 (vr 818), de P "negate" 1347 (vr 825), de P "__eq__" 1355 (vr 832), de P "__str__" 1362 (vr 839), de P "__static_attributes__" 1364 (vr 840), de P "__doc__" 1365 vz, de P "__hash__" 1366 vz]) 3), #[]⟩
noncomputable def o842 (P : Params) : Obj := ⟨(vy "type"), none, (.cls (mkCl "NegatedExpression" [(vr 346)] [(vr 842), (vr 346), (vr 190), (vy "object")] 841 [])), (List.toArray [some (vr 791), none, some (vs "NegatedExpression" 1303), some (vs "NegatedExpression" 1311), some (vb "object.__new__"), some vt])⟩
noncomputable def o853 (P : Params) : Obj := ⟨vz, none, (.fields (List.toArray [])), #[]⟩
noncomputable def o857 (P : Params) : Obj := ⟨(vy "code"), none, (.fields (List.toArray [(vs "__init__" 1381), (vs "BinaryExpression.__init__" 1382), (vs "/claim/cut.py" 1383), (vi 450), (vi 3), (vi 0), (vi 0), (vi 3), (vr 852), vt, (vi 181), (vr 853), vz, (vr 854), (vr 855), (vr 856), (vi 1387), (vi 450), (vs "/claim/cut.py" 1388)])), #[]⟩
noncomputable def o858 (P : Params) : Obj := ⟨(vy "function"), none, (.func (mkFd (fd1 26 0) "BinaryExpression.__init__" vz (vs "nltk.sem.logic" 232) none (vr 857))), #[]⟩
noncomputable def o860 (P : Params) : Obj := ⟨vz, none, (.fields (List.toArray [])), #[]⟩
noncomputable def o864 (P : Params) : Obj := ⟨(vy "code"), none, (.fields (List.toArray [(vs "visit" 1390), (vs "BinaryExpression.visit" 1391), (vs "/claim/cut.py" 1392), (vi 456), (vi 3), (vi 0), (vi 0), (vi 3), (vr 859), vt, (vi 181), (vr 860), vz, (vr 861), (vr 862), (vr 863), (vi 1396), (vi 456), (vs "/claim/cut.py" 1397)])), #[]⟩
noncomputable def o865 (P : Params) : Obj := ⟨(vy "function"), none, (.func (mkFd (fd1 26 1) "BinaryExpression.visit" vz (vs "nltk.sem.logic" 232) none (vr 864))), #[]⟩
noncomputable def o888 (P : Params) : Obj := ⟨(vy "dict"), none, (.dict (List.toArray [de P "__module__" 1376 (vs "nltk.sem.logic" 232), de P "__firstlineno__" 1380 (.int (448) 1379), de P "__init__" 1389 (vr 858), de P "visit" 1398 (vr 865), de P "__eq__" 1406 (vr 872), de P "__str__" 1415 (vr 879), de P "_str_subex" 1423 (vr 886), de P "__static_attributes__" 1426 (vr 887), de P "__doc__" 1427 vz, de P "__hash__" 1428 vz]) 3), #[]⟩
noncomputable def o900 (P : Params) : Obj := ⟨(vy "dict"), none, (.dict (List.toArray [de P "__module__" 1438 (vs "nltk.sem.logic" 232), de P "__firstlineno__" 1442 (.int (469) 1441), de P "__static_attributes__" 1443 (vr 899), de P "__doc__" 1444 vz]) 2), #[]⟩
noncomputable def o912 (P : Params) : Obj := ⟨vz, none, (.fields (List.toArray [])), #[]⟩
noncomputable def o916 (P : Params) : Obj := ⟨(vy "code"), none, (.fields (List.toArray [(vs "_made" 1459), (vs "AndExpression._made" 1460), (vs "/claim/cut.py" 1461), (vi 473), (vi 2), (vi 0), (vi 0), (vi 3), (vr 911), vt, (vi 181), (vr 912), vz, (vr 913), (vr 914), (vr 915), (vi 1464), (vi 473), (vs "/claim/cut.py" 1465)])), #[]⟩
noncomputable def o917 (P : Params) : Obj := ⟨(vy "function"), none, (.func (mkFd (fd1 28 0) "AndExpression._made" vz (vs "nltk.sem.logic" 232) none (vr 916))), #[]⟩
noncomputable def o940 (P : Params) : Obj := ⟨(vy "dict"), none, (.dict (List.toArray [de P "__module__" 1454 (vs "nltk.sem.logic" 232), de P "__firstlineno__" 1458 (.int (471) 1457), de P "_made" 1466 (vr 917), de P "_is_alike" 1474 (vr 924), de P "getOp" 1481 (vr 931), de P "_str_subex" 1490 (vr 938), de P "__static_attributes__" 1491 (vr 939), de P "__doc__" 1492 vz]) 2), #[]⟩
noncomputable def o941 (P : Params) : Obj := ⟨(vy "type"), none, (.cls (mkCl "AndExpression" [(vr 901)] [(vr 941), (vr 901), (vr 889), (vr 346), (vr 190), (vy "object")] 940 [])), (List.toArray [some (vr 904), none, some (vs "AndExpression" 1447), some (vs "AndExpression" 1455), some (vb "object.__new__"), some vt])⟩
noncomputable def o952 (P : Params) : Obj := ⟨vz, none, (.fields (List.toArray [])), #[]⟩
noncomputable def o956 (P : Params) : Obj := ⟨(vy "code"), none, (.fields (List.toArray [(vs "_made" 1507), (vs "OrExpression._made" 1508), (vs "/claim/cut.py" 1509), (vi 489), (vi 2), (vi 0), (vi 0), (vi 3), (vr 951), vt, (vi 181), (vr 952), vz, (vr 953), (vr 954), (vr 955), (vi 1512), (vi 489), (vs "/claim/cut.py" 1513)])), #[]⟩
noncomputable def o957 (P : Params) : Obj := ⟨(vy "function"), none, (.func (mkFd (fd1 29 0) "OrExpression._made" vz (vs "nltk.sem.logic" 232) none (vr 956))), #[]⟩
noncomputable def o980 (P : Params) : Obj := ⟨(vy "dict"), none, (.dict (List.toArray [de P "__module__" 1502 (vs "nltk.sem.logic" 232), de P "__firstlineno__" 1506 (.int (487) 1505), de P "_made" 1514 (vr 957), de P "_is_alike" 1522 (vr 964), de P "getOp" 1529 (vr 971), de P "_str_subex" 1538 (vr 978), de P "__static_attributes__" 1539 (vr 979), de P "__doc__" 1540 vz]) 2), #[]⟩
noncomputable def o981 (P : Params) : Obj := ⟨(vy "type"), none, (.cls (mkCl "OrExpression" [(vr 901)] [(vr 981), (vr 901), (vr 889), (vr 346), (vr 190), (vy "object")] 980 [])), (List.toArray [some (vr 944), none, some (vs "OrExpression" 1495), some (vs "OrExpression" 1503), some (vb "object.__new__"), some vt])⟩
noncomputable def o992 (P : Params) : Obj := ⟨vz, none, (.fields (List.toArray [])), #[]⟩
noncomputable def o996 (P : Params) : Obj := ⟨(vy "code"), none, (.fields (List.toArray [(vs "_made" 1555), (vs "ImpExpression._made" 1556), (vs "/claim/cut.py" 1557), (vi 505), (vi 2), (vi 0), (vi 0), (vi 3), (vr 991), vt, (vi 181), (vr 992), vz, (vr 993), (vr 994), (vr 995), (vi 1560), (vi 505), (vs "/claim/cut.py" 1561)])), #[]⟩
noncomputable def o997 (P : Params) : Obj := ⟨(vy "function"), none, (.func (mkFd (fd1 30 0) "ImpExpression._made" vz (vs "nltk.sem.logic" 232) none (vr 996))), #[]⟩
noncomputable def o1013 (P : Params) : Obj := ⟨(vy "dict"), none, (.dict (List.toArray [de P "__module__" 1550 (vs "nltk.sem.logic" 232), de P "__firstlineno__" 1554 (.int (503) 1553), de P "_made" 1562 (vr 997), de P "_is_alike" 1570 (vr 1004), de P "getOp" 1577 (vr 1011), de P "__static_attributes__" 1578 (vr 1012), de P "__doc__" 1579 vz]) 2), #[]⟩
noncomputable def o1014 (P : Params) : Obj := ⟨(vy "type"), none, (.cls (mkCl "ImpExpression" [(vr 901)] [(vr 1014), (vr 901), (vr 889), (vr 346), (vr 190), (vy "object")] 1013 [])), (List.toArray [some (vr 984), none, some (vs "ImpExpression" 1543), some (vs "ImpExpression" 1551), some (vb "object.__new__"), some vt])⟩
noncomputable def o1046 (P : Params) : Obj := ⟨(vy "dict"), none, (.dict (List.toArray [de P "__module__" 1589 (vs "nltk.sem.logic" 232), de P "__firstlineno__" 1593 (.int (513) 1592), de P "_made" 1601 (vr 1030), de P "_is_alike" 1609 (vr 1037), de P "getOp" 1616 (vr 1044), de P "__static_attributes__" 1617 (vr 1045), de P "__doc__" 1618 vz]) 2), #[]⟩
noncomputable def o1047 (P : Params) : Obj := ⟨(vy "type"), none, (.cls (mkCl "IffExpression" [(vr 901)] [(vr 1047), (vr 901), (vr 889), (vr 346), (vr 190), (vy "object")] 1046 [])), (List.toArray [some (vr 1017), none, some (vs "IffExpression" 1582), some (vs "IffExpression" 1590), some (vb "object.__new__"), some vt])⟩
noncomputable def o1079 (P : Params) : Obj := ⟨(vy "dict"), none, (.dict (List.toArray [de P "__module__" 1628 (vs "nltk.sem.logic" 232), de P "__firstlineno__" 1632 (.int (523) 1631), de P "_made" 1640 (vr 1063), de P "_is_alike" 1648 (vr 1070), de P "getOp" 1655 (vr 1077), de P "__static_attributes__" 1656 (vr 1078), de P "__doc__" 1657 vz]) 2), #[]⟩
noncomputable def o1080 (P : Params) : Obj := ⟨(vy "type"), none, (.cls (mkCl "EqualityExpression" [(vr 889)] [(vr 1080), (vr 889), (vr 346), (vr 190), (vy "object")] 1079 [])), (List.toArray [some (vr 1050), none, some (vs "EqualityExpression" 1621), some (vs "EqualityExpression" 1629), some (vb "object.__new__"), some vt])⟩
noncomputable def o1084 (P : Params) : Obj := ⟨vz, none, (.fields (List.toArray [])), #[]⟩
noncomputable def o1088 (P : Params) : Obj := ⟨(vy "code"), none, (.fields (List.toArray [(vs "_is_letter_and_digits" 1660), (vs "_is_letter_and_digits" 1661), (vs "/claim/cut.py" 1662), (vi 533), (vi 2), (vi 0), (vi 0), (vi 3), (vr 1083), vt, (vi 181), (vr 1084), vz, (vr 1085), (vr 1086), (vr 1087), (vi 1666), (vi 533), (vs "/claim/cut.py" 1667)])), #[]⟩
noncomputable def o1089 (P : Params) : Obj := ⟨(vy "function"), none, (.func (mkFd (fd0 33) "_is_letter_and_digits" vz (vs "nltk.sem.logic" 232) none (vr 1088))), #[]⟩
noncomputable def o1091 (P : Params) : Obj := ⟨vz, none, (.fields (List.toArray [])), #[]⟩
noncomputable def o1095 (P : Params) : Obj := ⟨(vy "code"), none, (.fields (List.toArray [(vs "is_indvar" 1669), (vs "is_indvar" 1670), (vs "/claim/cut.py" 1671), (vi 540), (vi 1), (vi 0), (vi 0), (vi 3), (vr 1090), vt, (vi 181), (vr 1091), vz, (vr 1092), (vr 1093), (vr 1094), (vi 1673), (vi 540), (vs "/claim/cut.py" 1674)])), #[]⟩
noncomputable def o1096 (P : Params) : Obj := ⟨(vy "function"), none, (.func (mkFd (fd0 34) "is_indvar" vz (vs "nltk.sem.logic" 232) none (vr 1095))), #[]⟩
noncomputable def o1098 (P : Params) : Obj := ⟨vz, none, (.fields (List.toArray [])), #[]⟩
noncomputable def o1102 (P : Params) : Obj := ⟨(vy "code"), none, (.fields (List.toArray [(vs "is_funcvar" 1676), (vs "is_funcvar" 1677), (vs "/claim/cut.py" 1678), (vi 543), (vi 1), (vi 0), (vi 0), (vi 3), (vr 1097), vt, (vi 181), (vr 1098), vz, (vr 1099), (vr 1100), (vr 1101), (vi 1680), (vi 543), (vs "/claim/cut.py" 1681)])), #[]⟩
noncomputable def o1103 (P : Params) : Obj := ⟨(vy "function"), none, (.func (mkFd (fd0 35) "is_funcvar" vz (vs "nltk.sem.logic" 232) none (vr 1102))), #[]⟩
noncomputable def o1105 (P : Params) : Obj := ⟨vz, none, (.fields (List.toArray [])), #[]⟩
noncomputable def o1109 (P : Params) : Obj := ⟨(vy "code"), none, (.fields (List.toArray [(vs "is_eventvar" 1683), (vs "is_eventvar" 1684), (vs "/claim/cut.py" 1685), (vi 546), (vi 1), (vi 0), (vi 0), (vi 3), (vr 1104), vt, (vi 181), (vr 1105), vz, (vr 1106), (vr 1107), (vr 1108), (vi 1687), (vi 546), (vs "/claim/cut.py" 1688)])), #[]⟩
noncomputable def o1110 (P : Params) : Obj := ⟨(vy "function"), none, (.func (mkFd (fd0 36) "is_eventvar" vz (vs "nltk.sem.logic" 232) none (vr 1109))), #[]⟩
noncomputable def o1131 (P : Params) : Obj := ⟨(vy "tuple"), none, (.seq (List.toArray [(.int (0) 1727)]) 0), #[]⟩
noncomputable def o1133 (P : Params) : Obj := ⟨vz, none, (.fields (List.toArray [])), #[]⟩
noncomputable def o1137 (P : Params) : Obj := ⟨(vy "code"), none, (.fields (List.toArray [(vs "__init__" 1728), (vs "TableauProver.__init__" 1729), (vs "/claim/cut.py" 1730), (vi 556), (vi 2), (vi 0), (vi 0), (vi 3), (vr 1132), vt, (vi 181), (vr 1133), vz, (vr 1134), (vr 1135), (vr 1136), (vi 1733), (vi 556), (vs "/claim/cut.py" 1734)])), #[]⟩
noncomputable def o1138 (P : Params) : Obj := ⟨(vy "function"), none, (.func (mkFd (fd1 39 2) "TableauProver.__init__" (vr 1131) (vs "nltk.inference.tableau" 1690) none (vr 1137))), #[]⟩
noncomputable def o1139 (P : Params) : Obj := ⟨(vy "tuple"), none, (.seq (List.toArray [vz, vz]) 0), #[]⟩
noncomputable def o1141 (P : Params) : Obj := ⟨vz, none, (.fields (List.toArray [])), #[]⟩
noncomputable def o1145 (P : Params) : Obj := ⟨(vy "code"), none, (.fields (List.toArray [(vs "_prove" 1736), (vs "TableauProver._prove" 1737), (vs "/claim/cut.py" 1738), (vi 559), (vi 3), (vi 0), (vi 0), (vi 3), (vr 1140), vt, (vi 181), (vr 1141), vz, (vr 1142), (vr 1143), (vr 1144), (vi 1744), (vi 559), (vs "/claim/cut.py" 1745)])), #[]⟩
noncomputable def o1146 (P : Params) : Obj := ⟨(vy "function"), none, (.func (mkFd (fd1 39 3) "TableauProver._prove" (vr 1139) (vs "nltk.inference.tableau" 1690) none (vr 1145))), #[]⟩
noncomputable def o1148 (P : Params) : Obj := ⟨vz, none, (.fields (List.toArray [])), #[]⟩
noncomputable def o1152 (P : Params) : Obj := ⟨(vy "code"), none, (.fields (List.toArray [(vs "_attempt_proof" 1747), (vs "TableauProver._attempt_proof" 1748), (vs "/claim/cut.py" 1749), (vi 571), (vi 5), (vi 0), (vi 0), (vi 3), (vr 1147), vt, (vi 181), (vr 1148), vz, (vr 1149), (vr 1150), (vr 1151), (vi 1758), (vi 571), (vs "/claim/cut.py" 1759)])), #[]⟩
noncomputable def o1153 (P : Params) : Obj := ⟨(vy "function"), none, (.func (mkFd (fd1 39 4) "TableauProver._attempt_proof" vz (vs "nltk.inference.tableau" 1690) none (vr 1152))), #[]⟩
noncomputable def o1155 (P : Params) : Obj := ⟨vz, none, (.fields (List.toArray [])), #[]⟩
noncomputable def o1159 (P : Params) : Obj := ⟨(vy "code"), none, (.fields (List.toArray [(vs "_attempt_proof_atom" 1761), (vs "TableauProver._attempt_proof_atom" 1762), (vs "/claim/cut.py" 1763), (vi 622), (vi 7), (vi 0), (vi 0), (vi 3), (vr 1154), vt, (vi 181), (vr 1155), vz, (vr 1156), (vr 1157), (vr 1158), (vi 1771), (vi 622), (vs "/claim/cut.py" 1772)])), #[]⟩
noncomputable def o1160 (P : Params) : Obj := ⟨(vy "function"), none, (.func (mkFd (fd1 39 5) "TableauProver._attempt_proof_atom" vz (vs "nltk.inference.tableau" 1690) none (vr 1159))), #[]⟩
noncomputable def o1162 (P : Params) : Obj := ⟨vz, none, (.fields (List.toArray [])), #[]⟩
noncomputable def o1166 (P : Params) : Obj := ⟨(vy "code"), none, (.fields (List.toArray [(vs "_attempt_proof_n_atom" 1774), (vs "TableauProver._attempt_proof_n_atom" 1775), (vs "/claim/cut.py" 1776), (vi 634), (vi 7), (vi 0), (vi 0), (vi 3), (vr 1161), vt, (vi 181), (vr 1162), vz, (vr 1163), (vr 1164), (vr 1165), (vi 1784), (vi 634), (vs "/claim/cut.py" 1785)])), #[]⟩
noncomputable def o1167 (P : Params) : Obj := ⟨(vy "function"), none, (.func (mkFd (fd1 39 6) "TableauProver._attempt_proof_n_atom" vz (vs "nltk.inference.tableau" 1690) none (vr 1166))), #[]⟩
noncomputable def o1204 (P : Params) : Obj := ⟨vz, none, (.fields (List.toArray [])), #[]⟩
noncomputable def o1208 (P : Params) : Obj := ⟨(vy "code"), none, (.fields (List.toArray [(vs "_attempt_proof_d_neg" 1868), (vs "TableauProver._attempt_proof_d_neg" 1869), (vs "/claim/cut.py" 1870), (vi 695), (vi 7), (vi 0), (vi 0), (vi 3), (vr 1203), vt, (vi 181), (vr 1204), vz, (vr 1205), (vr 1206), (vr 1207), (vi 1878), (vi 695), (vs "/claim/cut.py" 1879)])), #[]⟩
noncomputable def o1209 (P : Params) : Obj := ⟨(vy "function"), none, (.func (mkFd (fd1 39 12) "TableauProver._attempt_proof_d_neg" vz (vs "nltk.inference.tableau" 1690) none (vr 1208))), #[]⟩
noncomputable def o1211 (P : Params) : Obj := ⟨vz, none, (.fields (List.toArray [])), #[]⟩
noncomputable def o1215 (P : Params) : Obj := ⟨(vy "code"), none, (.fields (List.toArray [(vs "_attempt_proof_n_all" 1881), (vs "TableauProver._attempt_proof_n_all" 1882), (vs "/claim/cut.py" 1883), (vi 699), (vi 7), (vi 0), (vi 0), (vi 3), (vr 1210), vt, (vi 181), (vr 1211), vz, (vr 1212), (vr 1213), (vr 1214), (vi 1891), (vi 699), (vs "/claim/cut.py" 1892)])), #[]⟩
noncomputable def o1216 (P : Params) : Obj := ⟨(vy "function"), none, (.func (mkFd (fd1 39 13) "TableauProver._attempt_proof_n_all" vz (vs "nltk.inference.tableau" 1690) none (vr 1215))), #[]⟩
noncomputable def o1218 (P : Params) : Obj := ⟨vz, none, (.fields (List.toArray [])), #[]⟩
noncomputable def o1222 (P : Params) : Obj := ⟨(vy "code"), none, (.fields (List.toArray [(vs "_attempt_proof_n_some" 1894), (vs "TableauProver._attempt_proof_n_some" 1895), (vs "/claim/cut.py" 1896), (vi 703), (vi 7), (vi 0), (vi 0), (vi 3), (vr 1217), vt, (vi 181), (vr 1218), vz, (vr 1219), (vr 1220), (vr 1221), (vi 1904), (vi 703), (vs "/claim/cut.py" 1905)])), #[]⟩
noncomputable def o1223 (P : Params) : Obj := ⟨(vy "function"), none, (.func (mkFd (fd1 39 14) "TableauProver._attempt_proof_n_some" vz (vs "nltk.inference.tableau" 1690) none (vr 1222))), #[]⟩
noncomputable def o1225 (P : Params) : Obj := ⟨vz, none, (.fields (List.toArray [])), #[]⟩
noncomputable def o1229 (P : Params) : Obj := ⟨(vy "code"), none, (.fields (List.toArray [(vs "_attempt_proof_and" 1907), (vs "TableauProver._attempt_proof_and" 1908), (vs "/claim/cut.py" 1909), (vi 707), (vi 7), (vi 0), (vi 0), (vi 3), (vr 1224), vt, (vi 181), (vr 1225), vz, (vr 1226), (vr 1227), (vr 1228), (vi 1917), (vi 707), (vs "/claim/cut.py" 1918)])), #[]⟩
noncomputable def o1230 (P : Params) : Obj := ⟨(vy "function"), none, (.func (mkFd (fd1 39 15) "TableauProver._attempt_proof_and" vz (vs "nltk.inference.tableau" 1690) none (vr 1229))), #[]⟩
noncomputable def o1232 (P : Params) : Obj := ⟨vz, none, (.fields (List.toArray [])), #[]⟩
noncomputable def o1236 (P : Params) : Obj := ⟨(vy "code"), none, (.fields (List.toArray [(vs "_attempt_proof_n_or" 1920), (vs "TableauProver._attempt_proof_n_or" 1921), (vs "/claim/cut.py" 1922), (vi 712), (vi 7), (vi 0), (vi 0), (vi 3), (vr 1231), vt, (vi 181), (vr 1232), vz, (vr 1233), (vr 1234), (vr 1235), (vi 1930), (vi 712), (vs "/claim/cut.py" 1931)])), #[]⟩
noncomputable def o1237 (P : Params) : Obj := ⟨(vy "function"), none, (.func (mkFd (fd1 39 16) "TableauProver._attempt_proof_n_or" vz (vs "nltk.inference.tableau" 1690) none (vr 1236))), #[]⟩
noncomputable def o1239 (P : Params) : Obj := ⟨vz, none, (.fields (List.toArray [])), #[]⟩
noncomputable def o1243 (P : Params) : Obj := ⟨(vy "code"), none, (.fields (List.toArray [(vs "_attempt_proof_n_imp" 1933), (vs "TableauProver._attempt_proof_n_imp" 1934), (vs "/claim/cut.py" 1935), (vi 717), (vi 7), (vi 0), (vi 0), (vi 3), (vr 1238), vt, (vi 181), (vr 1239), vz, (vr 1240), (vr 1241), (vr 1242), (vi 1943), (vi 717), (vs "/claim/cut.py" 1944)])), #[]⟩
noncomputable def o1244 (P : Params) : Obj := ⟨(vy "function"), none, (.func (mkFd (fd1 39 17) "TableauProver._attempt_proof_n_imp" vz (vs "nltk.inference.tableau" 1690) none (vr 1243))), #[]⟩
noncomputable def o1246 (P : Params) : Obj := ⟨vz, none, (.fields (List.toArray [])), #[]⟩
noncomputable def o1250 (P : Params) : Obj := ⟨(vy "code"), none, (.fields (List.toArray [(vs "_attempt_proof_or" 1946), (vs "TableauProver._attempt_proof_or" 1947), (vs "/claim/cut.py" 1948), (vi 722), (vi 7), (vi 0), (vi 0), (vi 3), (vr 1245), vt, (vi 181), (vr 1246), vz, (vr 1247), (vr 1248), (vr 1249), (vi 1957), (vi 722), (vs "/claim/cut.py" 1958)])), #[]⟩
noncomputable def o1251 (P : Params) : Obj := ⟨(vy "function"), none, (.func (mkFd (fd1 39 18) "TableauProver._attempt_proof_or" vz (vs "nltk.inference.tableau" 1690) none (vr 1250))), #[]⟩
noncomputable def o1253 (P : Params) : Obj := ⟨vz, none, (.fields (List.toArray [])), #[]⟩
noncomputable def o1257 (P : Params) : Obj := ⟨(vy "code"), none, (.fields (List.toArray [(vs "_attempt_proof_imp" 1960), (vs "TableauProver._attempt_proof_imp" 1961), (vs "/claim/cut.py" 1962), (vi 728), (vi 7), (vi 0), (vi 0), (vi 3), (vr 1252), vt, (vi 181), (vr 1253), vz, (vr 1254), (vr 1255), (vr 1256), (vi 1971), (vi 728), (vs "/claim/cut.py" 1972)])), #[]⟩
noncomputable def o1258 (P : Params) : Obj := ⟨(vy "function"), none, (.func (mkFd (fd1 39 19) "TableauProver._attempt_proof_imp" vz (vs "nltk.inference.tableau" 1690) none (vr 1257))), #[]⟩
noncomputable def o1260 (P : Params) : Obj := ⟨vz, none, (.fields (List.toArray [])), #[]⟩
noncomputable def o1264 (P : Params) : Obj := ⟨(vy "code"), none, (.fields (List.toArray [(vs "_attempt_proof_n_and" 1974), (vs "TableauProver._attempt_proof_n_and" 1975), (vs "/claim/cut.py" 1976), (vi 734), (vi 7), (vi 0), (vi 0), (vi 3), (vr 1259), vt, (vi 181), (vr 1260), vz, (vr 1261), (vr 1262), (vr 1263), (vi 1985), (vi 734), (vs "/claim/cut.py" 1986)])), #[]⟩
noncomputable def o1265 (P : Params) : Obj := ⟨(vy "function"), none, (.func (mkFd (fd1 39 20) "TableauProver._attempt_proof_n_and" vz (vs "nltk.inference.tableau" 1690) none (vr 1264))), #[]⟩
noncomputable def o1288 (P : Params) : Obj := ⟨vz, none, (.fields (List.toArray [])), #[]⟩
noncomputable def o1292 (P : Params) : Obj := ⟨(vy "code"), none, (.fields (List.toArray [(vs "_attempt_proof_some" 2029), (vs "TableauProver._attempt_proof_some" 2030), (vs "/claim/cut.py" 2031), (vi 764), (vi 7), (vi 0), (vi 0), (vi 3), (vr 1287), vt, (vi 181), (vr 1288), vz, (vr 1289), (vr 1290), (vr 1291), (vi 2040), (vi 764), (vs "/claim/cut.py" 2041)])), #[]⟩
noncomputable def o1293 (P : Params) : Obj := ⟨(vy "function"), none, (.func (mkFd (fd1 39 24) "TableauProver._attempt_proof_some" vz (vs "nltk.inference.tableau" 1690) none (vr 1292))), #[]⟩
noncomputable def o1295 (P : Params) : Obj := ⟨vz, none, (.fields (List.toArray [])), #[]⟩
noncomputable def o1297 (P : Params) : Obj := ⟨(vy "code"), none, (.fields (List.toArray [(vs "_attempt_proof_all" 2043), (vs "TableauProver._attempt_proof_all" 2044), (vs "/claim/cut.py" 2045), (vi 770), (vi 7), (vi 0), (vi 0), (vi 3), (vr 1294), vt, (vi 181), (vr 1295), vz, vz, vz, (vr 1296), (vi 2046), (vi 770), (vs "/claim/cut.py" 2047)])), #[]⟩
noncomputable def o1298 (P : Params) : Obj := ⟨(vy "function"), none, (.func (mkFd (fd1 39 25) "TableauProver._attempt_proof_all" vz (vs "nltk.inference.tableau" 1690) none (vr 1297))), #[]⟩
noncomputable def o1300 (P : Params) : Obj := ⟨vz, none, (.fields (List.toArray [])), #[]⟩
noncomputable def o1304 (P : Params) : Obj := ⟨(vy "code"), none, (.fields (List.toArray [(vs "is_atom" 2049), (vs "TableauProver.is_atom" 2050), (vs "/claim/cut.py" 2051), (vi 793), (vi 1), (vi 0), (vi 0), (vi 3), (vr 1299), vt, (vi 181), (vr 1300), vz, (vr 1301), (vr 1302), (vr 1303), (vi 2054), (vi 793), (vs "/claim/cut.py" 2055)])), #[]⟩
noncomputable def o1305 (P : Params) : Obj := ⟨(vy "function"), none, (.func (mkFd (fd1 39 26) "TableauProver.is_atom" vz (vs "nltk.inference.tableau" 1690) (some 1308) (vr 1304))), #[]⟩
noncomputable def o1306 (P : Params) : Obj := ⟨(vy "dict"), none, (.dict (List.toArray [de P "__module__" 2057 (vs "nltk.inference.tableau" 1690), de P "__name__" 2060 (vs "is_atom" 2059), de P "__qualname__" 2063 (vs "TableauProver.is_atom" 2062), de P "__doc__" 2065 vz, de P "__annotations__" 2067 (vr 1308)]) 5), #[]⟩
noncomputable def o1307 (P : Params) : Obj := ⟨(vy "staticmethod"), some 1306, (.fields (List.toArray [(vr 1305), vf])), #[]⟩
noncomputable def o1308 (P : Params) : Obj := ⟨(vy "dict"), none, (.dict (List.toArray []) 0), #[]⟩
noncomputable def o1310 (P : Params) : Obj := ⟨(vy "dict"), none, (.dict (List.toArray [de P "__module__" 1719 (vs "nltk.inference.tableau" 1690), de P "__firstlineno__" 1723 (.int (552) 1722), de P "_deadline" 1724 vz, de P "MAX_TABLEAU_DEPTH" 1726 (.int (200) 1725), de P "__init__" 1735 (vr 1138), de P "_prove" 1746 (vr 1146), de P "_attempt_proof" 1760 (vr 1153), de P "_attempt_proof_atom" 1773 (vr 1160), de P "_attempt_proof_n_atom" 1786 (vr 1167), de P "_attempt_proof_prop" 1799 (vr 1174), de P "_attempt_proof_n_prop" 1812 (vr 1181), de P "_attempt_proof_app" 1833 (vr 1188), de P "_attempt_proof_n_app" 1854 (vr 1195), de P "_attempt_proof_n_eq" 1867 (vr 1202), de P "_attempt_proof_d_neg" 1880 (vr 1209), de P "_attempt_proof_n_all" 1893 (vr 1216), de P "_attempt_proof_n_some" 1906 (vr 1223), de P "_attempt_proof_and" 1919 (vr 1230), de P "_attempt_proof_n_or" 1932 (vr 1237), de P "_attempt_proof_n_imp" 1945 (vr 1244), de P "_attempt_proof_or" 1959 (vr 1251), de P "_attempt_proof_imp" 1973 (vr 1258), de P "_attempt_proof_n_and" 1987 (vr 1265), de P "_attempt_proof_iff" 2001 (vr 1272), de P "_attempt_proof_n_iff" 2015 (vr 1279), de P "_attempt_proof_eq" 2028 (vr 1286), de P "_attempt_proof_some" 2042 (vr 1293), de P "_attempt_proof_all" 2048 (vr 1298), de P "is_atom" 2068 (vr 1307), de P "__static_attributes__" 2072 (vr 1309), de P "__dict__" 2074 (vr 1312), de P "__weakref__" 2076 (vr 1313), de P "__doc__" 2077 vz]) 4), #[]⟩
noncomputable def o1311 (P : Params) : Obj := ⟨(vy "type"), none, (.cls (mkCl "TableauProver" [(vy "object")] [(vr 1311), (vy "object")] 1310 [])), (List.toArray [none, none, some (vs "TableauProver" 1712), some (vs "TableauProver" 1720), some (vb "object.__new__"), some vt])⟩
noncomputable def o1324 (P : Params) : Obj := ⟨vz, none, (.fields (List.toArray [])), #[]⟩
noncomputable def o1326 (P : Params) : Obj := ⟨(vy "code"), none, (.fields (List.toArray [(vs "__init__" 2092), (vs "Agenda.__init__" 2093), (vs "/claim/cut.py" 2094), (vi 808), (vi 1), (vi 0), (vi 0), (vi 3), (vr 1323), vt, (vi 181), (vr 1324), vz, vz, vz, (vr 1325), (vi 2095), (vi 808), (vs "/claim/cut.py" 2096)])), #[]⟩
noncomputable def o1327 (P : Params) : Obj := ⟨(vy "function"), none, (.func (mkFd (fd1 40 0) "Agenda.__init__" vz (vs "nltk.inference.tableau" 1690) none (vr 1326))), #[]⟩
noncomputable def o1329 (P : Params) : Obj := ⟨vz, none, (.fields (List.toArray [])), #[]⟩
noncomputable def o1331 (P : Params) : Obj := ⟨(vy "code"), none, (.fields (List.toArray [(vs "clone" 2098), (vs "Agenda.clone" 2099), (vs "/claim/cut.py" 2100), (vi 811), (vi 1), (vi 0), (vi 0), (vi 3), (vr 1328), vt, (vi 181), (vr 1329), vz, vz, vz, (vr 1330), (vi 2101), (vi 811), (vs "/claim/cut.py" 2102)])), #[]⟩
noncomputable def o1332 (P : Params) : Obj := ⟨(vy "function"), none, (.func (mkFd (fd1 40 1) "Agenda.clone" vz (vs "nltk.inference.tableau" 1690) none (vr 1331))), #[]⟩
noncomputable def o1334 (P : Params) : Obj := ⟨vz, none, (.fields (List.toArray [])), #[]⟩
noncomputable def o1338 (P : Params) : Obj := ⟨(vy "code"), none, (.fields (List.toArray [(vs "__getitem__" 2104), (vs "Agenda.__getitem__" 2105), (vs "/claim/cut.py" 2106), (vi 827), (vi 2), (vi 0), (vi 0), (vi 3), (vr 1333), vt, (vi 181), (vr 1334), vz, (vr 1335), (vr 1336), (vr 1337), (vi 2109), (vi 827), (vs "/claim/cut.py" 2110)])), #[]⟩
noncomputable def o1339 (P : Params) : Obj := ⟨(vy "function"), none, (.func (mkFd (fd1 40 2) "Agenda.__getitem__" vz (vs "nltk.inference.tableau" 1690) none (vr 1338))), #[]⟩
noncomputable def o1340 (P : Params) : Obj := ⟨(vy "tuple"), none, (.seq (List.toArray [vz]) 0), #[]⟩
noncomputable def o1342 (P : Params) : Obj := ⟨vz, none, (.fields (List.toArray [])), #[]⟩
noncomputable def o1346 (P : Params) : Obj := ⟨(vy "code"), none, (.fields (List.toArray [(vs "put" 2112), (vs "Agenda.put" 2113), (vs "/claim/cut.py" 2114), (vi 830), (vi 3), (vi 0), (vi 0), (vi 3), (vr 1341), vt, (vi 181), (vr 1342), vz, (vr 1343), (vr 1344), (vr 1345), (vi 2119), (vi 830), (vs "/claim/cut.py" 2120)])), #[]⟩
noncomputable def o1347 (P : Params) : Obj := ⟨(vy "function"), none, (.func (mkFd (fd1 40 3) "Agenda.put" (vr 1340) (vs "nltk.inference.tableau" 1690) none (vr 1346))), #[]⟩
noncomputable def o1349 (P : Params) : Obj := ⟨vz, none, (.fields (List.toArray [])), #[]⟩
noncomputable def o1353 (P : Params) : Obj := ⟨(vy "code"), none, (.fields (List.toArray [(vs "put_all" 2122), (vs "Agenda.put_all" 2123), (vs "/claim/cut.py" 2124), (vi 841), (vi 2), (vi 0), (vi 0), (vi 3), (vr 1348), vt, (vi 181), (vr 1349), vz, (vr 1350), (vr 1351), (vr 1352), (vi 2128), (vi 841), (vs "/claim/cut.py" 2129)])), #[]⟩
noncomputable def o1354 (P : Params) : Obj := ⟨(vy "function"), none, (.func (mkFd (fd1 40 4) "Agenda.put_all" vz (vs "nltk.inference.tableau" 1690) none (vr 1353))), #[]⟩
noncomputable def o1363 (P : Params) : Obj := ⟨vz, none, (.fields (List.toArray [])), #[]⟩
noncomputable def o1367 (P : Params) : Obj := ⟨(vy "code"), none, (.fields (List.toArray [(vs "pop_first" 2141), (vs "Agenda.pop_first" 2142), (vs "/claim/cut.py" 2143), (vi 852), (vi 1), (vi 0), (vi 0), (vi 3), (vr 1362), vt, (vi 181), (vr 1363), vz, (vr 1364), (vr 1365), (vr 1366), (vi 2149), (vi 852), (vs "/claim/cut.py" 2150)])), #[]⟩
noncomputable def o1368 (P : Params) : Obj := ⟨(vy "function"), none, (.func (mkFd (fd1 40 6) "Agenda.pop_first" vz (vs "nltk.inference.tableau" 1690) none (vr 1367))), #[]⟩
noncomputable def o1377 (P : Params) : Obj := ⟨vz, none, (.fields (List.toArray [])), #[]⟩
noncomputable def o1381 (P : Params) : Obj := ⟨(vy "code"), none, (.fields (List.toArray [(vs "mark_alls_fresh" 2164), (vs "Agenda.mark_alls_fresh" 2165), (vs "/claim/cut.py" 2166), (vi 871), (vi 1), (vi 0), (vi 0), (vi 3), (vr 1376), vt, (vi 181), (vr 1377), vz, (vr 1378), (vr 1379), (vr 1380), (vi 2170), (vi 871), (vs "/claim/cut.py" 2171)])), #[]⟩
noncomputable def o1382 (P : Params) : Obj := ⟨(vy "function"), none, (.func (mkFd (fd1 40 8) "Agenda.mark_alls_fresh" vz (vs "nltk.inference.tableau" 1690) none (vr 1381))), #[]⟩
noncomputable def o1391 (P : Params) : Obj := ⟨vz, none, (.fields (List.toArray [])), #[]⟩
noncomputable def o1395 (P : Params) : Obj := ⟨(vy "code"), none, (.fields (List.toArray [(vs "_categorize_expression" 2182), (vs "Agenda._categorize_expression" 2183), (vs "/claim/cut.py" 2184), (vi 879), (vi 2), (vi 0), (vi 0), (vi 3), (vr 1390), vt, (vi 181), (vr 1391), vz, (vr 1392), (vr 1393), (vr 1394), (vi 2187), (vi 879), (vs "/claim/cut.py" 2188)])), #[]⟩
noncomputable def o1396 (P : Params) : Obj := ⟨(vy "function"), none, (.func (mkFd (fd1 40 10) "Agenda._categorize_expression" vz (vs "nltk.inference.tableau" 1690) none (vr 1395))), #[]⟩
noncomputable def o1398 (P : Params) : Obj := ⟨vz, none, (.fields (List.toArray [])), #[]⟩
noncomputable def o1402 (P : Params) : Obj := ⟨(vy "code"), none, (.fields (List.toArray [(vs "_categorize_NegatedExpression" 2190), (vs "Agenda._categorize_NegatedExpression" 2191), (vs "/claim/cut.py" 2192), (vi 905), (vi 2), (vi 0), (vi 0), (vi 3), (vr 1397), vt, (vi 181), (vr 1398), vz, (vr 1399), (vr 1400), (vr 1401), (vi 2196), (vi 905), (vs "/claim/cut.py" 2197)])), #[]⟩
noncomputable def o1403 (P : Params) : Obj := ⟨(vy "function"), none, (.func (mkFd (fd1 40 11) "Agenda._categorize_NegatedExpression" vz (vs "nltk.inference.tableau" 1690) none (vr 1402))), #[]⟩
noncomputable def o1405 (P : Params) : Obj := ⟨(vy "dict"), none, (.dict (List.toArray [de P "__module__" 2087 (vs "nltk.inference.tableau" 1690), de P "__firstlineno__" 2091 (.int (806) 2090), de P "__init__" 2097 (vr 1327), de P "clone" 2103 (vr 1332), de P "__getitem__" 2111 (vr 1339), de P "put" 2121 (vr 1347), de P "put_all" 2130 (vr 1354), de P "put_atoms" 2140 (vr 1361), de P "pop_first" 2151 (vr 1368), de P "replace_all" 2163 (vr 1375), de P "mark_alls_fresh" 2172 (vr 1382), de P "mark_neqs_fresh" 2181 (vr 1389), de P "_categorize_expression" 2189 (vr 1396), de P "_categorize_NegatedExpression" 2198 (vr 1403), de P "__static_attributes__" 2200 (vr 1404), de P "__dict__" 2202 (vr 1407), de P "__weakref__" 2204 (vr 1408), de P "__doc__" 2205 vz]) 4), #[]⟩
noncomputable def o1406 (P : Params) : Obj := ⟨(vy "type"), none, (.cls (mkCl "Agenda" [(vy "object")] [(vr 1406), (vy "object")] 1405 [])), (List.toArray [none, none, some (vs "Agenda" 2080), some (vs "Agenda" 2088), some (vb "object.__new__"), some vt])⟩
noncomputable def o1418 (P : Params) : Obj := ⟨(vy "tuple"), none, (.seq (List.toArray [(.int (0) 2220)]) 0), #[]⟩
noncomputable def o1420 (P : Params) : Obj := ⟨vz, none, (.fields (List.toArray [])), #[]⟩
noncomputable def o1424 (P : Params) : Obj := ⟨(vy "code"), none, (.fields (List.toArray [(vs "__init__" 2221), (vs "Debug.__init__" 2222), (vs "/claim/cut.py" 2223), (vi 933), (vi 2), (vi 0), (vi 0), (vi 3), (vr 1419), vt, (vi 181), (vr 1420), vz, (vr 1421), (vr 1422), (vr 1423), (vi 2226), (vi 933), (vs "/claim/cut.py" 2227)])), #[]⟩
noncomputable def o1425 (P : Params) : Obj := ⟨(vy "function"), none, (.func (mkFd (fd1 41 0) "Debug.__init__" (vr 1418) (vs "nltk.inference.tableau" 1690) none (vr 1424))), #[]⟩
noncomputable def o1427 (P : Params) : Obj := ⟨vz, none, (.fields (List.toArray [])), #[]⟩
noncomputable def o1431 (P : Params) : Obj := ⟨(vy "code"), none, (.fields (List.toArray [(vs "__add__" 2229), (vs "Debug.__add__" 2230), (vs "/claim/cut.py" 2231), (vi 936), (vi 2), (vi 0), (vi 0), (vi 3), (vr 1426), vt, (vi 181), (vr 1427), vz, (vr 1428), (vr 1429), (vr 1430), (vi 2234), (vi 936), (vs "/claim/cut.py" 2235)])), #[]⟩
noncomputable def o1432 (P : Params) : Obj := ⟨(vy "function"), none, (.func (mkFd (fd1 41 1) "Debug.__add__" vz (vs "nltk.inference.tableau" 1690) none (vr 1431))), #[]⟩
noncomputable def o1434 (P : Params) : Obj := ⟨(vy "dict"), none, (.dict (List.toArray [de P "__module__" 2215 (vs "nltk.inference.tableau" 1690), de P "__firstlineno__" 2219 (.int (931) 2218), de P "__init__" 2228 (vr 1425), de P "__add__" 2236 (vr 1432), de P "__static_attributes__" 2238 (vr 1433), de P "__dict__" 2240 (vr 1436), de P "__weakref__" 2242 (vr 1437), de P "__doc__" 2243 vz]) 4), #[]⟩
noncomputable def o1435 (P : Params) : Obj := ⟨(vy "type"), none, (.cls (mkCl "Debug" [(vy "object")] [(vr 1435), (vy "object")] 1434 [])), (List.toArray [none, none, some (vs "Debug" 2208), some (vs "Debug" 2216), some (vb "object.__new__"), some vt])⟩
noncomputable def o1448 (P : Params) : Obj := ⟨(vy "dict"), none, (.dict (List.toArray [de P "__module__" 2253 (vs "nltk.inference.tableau" 1690), de P "__firstlineno__" 2257 (.int (938) 2256), de P "ATOM" 2259 (.int (0) 2258), de P "PROP" 2261 (.int (1) 2260), de P "N_ATOM" 2263 (.int (2) 2262), de P "N_PROP" 2265 (.int (3) 2264), de P "APP" 2267 (.int (4) 2266), de P "N_APP" 2269 (.int (5) 2268), de P "N_EQ" 2271 (.int (6) 2270), de P "D_NEG" 2273 (.int (7) 2272), de P "N_ALL" 2275 (.int (8) 2274), de P "N_EXISTS" 2277 (.int (9) 2276), de P "AND" 2279 (.int (10) 2278), de P "N_OR" 2281 (.int (11) 2280), de P "N_IMP" 2283 (.int (12) 2282), de P "OR" 2285 (.int (13) 2284), de P "IMP" 2287 (.int (14) 2286), de P "N_AND" 2289 (.int (15) 2288), de P "IFF" 2291 (.int (16) 2290), de P "N_IFF" 2293 (.int (17) 2292), de P "EQ" 2295 (.int (18) 2294), de P "EXISTS" 2297 (.int (19) 2296), de P "ALL" 2299 (.int (20) 2298), de P "__static_attributes__" 2300 (vr 1447), de P "__dict__" 2302 (vr 1450), de P "__weakref__" 2304 (vr 1451), de P "__doc__" 2305 vz]) 4), #[]⟩
noncomputable def o1449 (P : Params) : Obj := ⟨(vy "type"), none, (.cls (mkCl "Categories" [(vy "object")] [(vr 1449), (vy "object")] 1448 [])), (List.toArray [none, none, some (vs "Categories" 2246), some (vs "Categories" 2254), some (vb "object.__new__"), some vt])⟩
noncomputable def o1455 (P : Params) : Obj := ⟨vz, none, (.fields (List.toArray [])), #[]⟩
noncomputable def o1459 (P : Params) : Obj := ⟨(vy "code"), none, (.fields (List.toArray [(vs "_law_box" 2310), (vs "_law_box" 2311), (vs "/claim/cut.py" 2312), (vi 961), (vi 2), (vi 0), (vi 0), (vi 3), (vr 1454), vt, (vi 181), (vr 1455), vz, (vr 1456), (vr 1457), (vr 1458), (vi 2316), (vi 961), (vs "/claim/cut.py" 2317)])), #[]⟩
noncomputable def o1460 (P : Params) : Obj := ⟨(vy "function"), none, (.func (mkFd (fd0 44) "_law_box" vz (vs "law_au0015_02" 2308) none (vr 1459))), #[]⟩
noncomputable def o1462 (P : Params) : Obj := ⟨vz, none, (.fields (List.toArray [])), #[]⟩
noncomputable def o1466 (P : Params) : Obj := ⟨(vy "code"), none, (.fields (List.toArray [(vs "_law_take" 2319), (vs "_law_take" 2320), (vs "/claim/cut.py" 2321), (vi 966), (vi 2), (vi 0), (vi 0), (vi 3), (vr 1461), vt, (vi 181), (vr 1462), vz, (vr 1463), (vr 1464), (vr 1465), (vi 2325), (vi 966), (vs "/claim/cut.py" 2326)])), #[]⟩
noncomputable def o1467 (P : Params) : Obj := ⟨(vy "function"), none, (.func (mkFd (fd0 45) "_law_take" vz (vs "law_au0015_02" 2308) none (vr 1466))), #[]⟩
noncomputable def o1469 (P : Params) : Obj := ⟨vz, none, (.fields (List.toArray [])), #[]⟩
noncomputable def o1471 (P : Params) : Obj := ⟨(vy "code"), none, (.fields (List.toArray [(vs "_law_drawn" 2328), (vs "_law_drawn" 2329), (vs "/claim/cut.py" 2330), (vi 970), (vi 2), (vi 0), (vi 0), (vi 3), (vr 1468), vt, (vi 181), (vr 1469), vz, vz, vz, (vr 1470), (vi 2331), (vi 970), (vs "/claim/cut.py" 2332)])), #[]⟩
noncomputable def o1472 (P : Params) : Obj := ⟨(vy "function"), none, (.func (mkFd (fd0 46) "_law_drawn" vz (vs "law_au0015_02" 2308) none (vr 1471))), #[]⟩
noncomputable def o1474 (P : Params) : Obj := ⟨vz, none, (.fields (List.toArray [])), #[]⟩
noncomputable def o1476 (P : Params) : Obj := ⟨(vy "code"), none, (.fields (List.toArray [(vs "_law_part" 2334), (vs "_law_part" 2335), (vs "/claim/cut.py" 2336), (vi 976), (vi 2), (vi 0), (vi 0), (vi 3), (vr 1473), vt, (vi 181), (vr 1474), vz, vz, vz, (vr 1475), (vi 2337), (vi 976), (vs "/claim/cut.py" 2338)])), #[]⟩
noncomputable def o1477 (P : Params) : Obj := ⟨(vy "function"), none, (.func (mkFd (fd0 47) "_law_part" vz (vs "law_au0015_02" 2308) none (vr 1476))), #[]⟩
noncomputable def o1479 (P : Params) : Obj := ⟨vz, none, (.fields (List.toArray [])), #[]⟩
noncomputable def o1481 (P : Params) : Obj := ⟨(vy "code"), none, (.fields (List.toArray [(vs "_law_formula" 2340), (vs "_law_formula" 2341), (vs "/claim/cut.py" 2342), (vi 982), (vi 1), (vi 0), (vi 0), (vi 3), (vr 1478), vt, (vi 181), (vr 1479), vz, vz, vz, (vr 1480), (vi 2343), (vi 982), (vs "/claim/cut.py" 2344)])), #[]⟩
noncomputable def o1482 (P : Params) : Obj := ⟨(vy "function"), none, (.func (mkFd (fd0 48) "_law_formula" vz (vs "law_au0015_02" 2308) none (vr 1481))), #[]⟩
noncomputable def o1484 (P : Params) : Obj := ⟨vz, none, (.fields (List.toArray [])), #[]⟩
noncomputable def o1486 (P : Params) : Obj := ⟨(vy "code"), none, (.fields (List.toArray [(vs "_law_true" 2346), (vs "_law_true" 2347), (vs "/claim/cut.py" 2348), (vi 996), (vi 3), (vi 0), (vi 0), (vi 3), (vr 1483), vt, (vi 181), (vr 1484), vz, vz, vz, (vr 1485), (vi 2349), (vi 996), (vs "/claim/cut.py" 2350)])), #[]⟩
noncomputable def o1487 (P : Params) : Obj := ⟨(vy "function"), none, (.func (mkFd (fd0 49) "_law_true" vz (vs "law_au0015_02" 2308) none (vr 1486))), #[]⟩
noncomputable def o1489 (P : Params) : Obj := ⟨vz, none, (.fields (List.toArray [])), #[]⟩
noncomputable def o1491 (P : Params) : Obj := ⟨(vy "code"), none, (.fields (List.toArray [(vs "law" 2352), (vs "law" 2353), (vs "/claim/cut.py" 2354), (vi 1010), (vi 1), (vi 0), (vi 0), (vi 3), (vr 1488), vt, (vi 181), (vr 1489), vz, vz, vz, (vr 1490), (vi 2355), (vi 1010), (vs "/claim/cut.py" 2356)])), #[]⟩
noncomputable def o1492 (P : Params) : Obj := ⟨(vy "function"), none, (.func (mkFd (fd0 50) "law" vz (vs "law_au0015_02" 2308) none (vr 1491))), #[]⟩
noncomputable def o2_0 (P : Params) : Obj := ⟨vz, none, (.dict (List.toArray []) 0), #[]⟩
noncomputable def o3_0 (P : Params) : Obj := ⟨(vy "dict"), none, (.dict (List.toArray [de P "__name__" 165 (vs "__main__" 164), de P "__doc__" 166 vz, de P "__package__" 167 vz, de P "__loader__" 168 (vb "__main__.__loader__#opaque"), de P "__spec__" 169 vz, de P "__annotations__" 170 (vr 6), de P "__builtins__" 171 (vr 4), de P "__file__" 173 (vs "/claim/cut.py" 172), de P "__cached__" 174 vz]) 9), #[]⟩
noncomputable def o12_0 (P : Params) : Obj := ⟨vz, none, (.fields (List.toArray [])), #[]⟩
noncomputable def o3_1 (P : Params) : Obj := ⟨(vy "dict"), none, (.dict (List.toArray [de P "__name__" 165 (vs "nltk.sem.logic" 232), de P "__doc__" 166 vz, de P "__package__" 167 vz, de P "__loader__" 168 (vb "__main__.__loader__#opaque"), de P "__spec__" 169 vz, de P "__annotations__" 170 (vr 6), de P "__builtins__" 171 (vr 4), de P "__file__" 173 (vs "/claim/cut.py" 172), de P "__cached__" 174 vz, de P "_wall" 193 (vr 21), de P "Deadline" 231 (vr 45), de P "Counter" 270 (vr 74), de P "_union" 280 (vr 85), de P "Tokens" 457 (vr 112), de P "Variable" 510 (vr 154), de P "unique_variable" 521 (vr 166), de P "SubstituteBindingsI" 556 (vr 190), de P "Expression" 749 (vr 346)]) 18), #[]⟩
noncomputable def o12_1 (P : Params) : Obj := ⟨vz, none, (.fields (List.toArray [(vi 1), (vi 0), (vr 20), (vi 5), (vi 0), (vr 27), (vi 14), (vi 0), (vr 55), (vi 22), (vi 0), (vr 84), (vi 29), (vi 0), (vr 91), (vi 62), (vi 0), (vr 122), (vi 78), (vi 0), (vr 165), (vi 96), (vi 0), (vr 172), (vi 103), (vi 0), (vr 200)])), #[]⟩
noncomputable def o346_0 (P : Params) : Obj := ⟨(vy "type"), none, (.cls (mkCl "Expression" [(vr 190)] [(vr 346), (vr 190), (vy "object")] 345 [])), (List.toArray [some (vr 195), none, some (vs "Expression" 557), some (vs "Expression" 565), some (vb "object.__new__"), some vt])⟩
noncomputable def o3_2 (P : Params) : Obj := ⟨(vy "dict"), none, (.dict (List.toArray [de P "__name__" 165 (vs "nltk.sem.logic" 232), de P "__doc__" 166 vz, de P "__package__" 167 vz, de P "__loader__" 168 (vb "__main__.__loader__#opaque"), de P "__spec__" 169 vz, de P "__annotations__" 170 (vr 6), de P "__builtins__" 171 (vr 4), de P "__file__" 173 (vs "/claim/cut.py" 172), de P "__cached__" 174 vz, de P "_wall" 193 (vr 21), de P "Deadline" 231 (vr 45), de P "Counter" 270 (vr 74), de P "_union" 280 (vr 85), de P "Tokens" 457 (vr 112), de P "Variable" 510 (vr 154), de P "unique_variable" 521 (vr 166), de P "SubstituteBindingsI" 556 (vr 190), de P "Expression" 749 (vr 346), de P "MAX_SIMPLIFY_SIZE" 751 (.int (10000) 750), de P "_exceeds_size" 762 (vr 355), de P "ApplicationExpression" 885 (vr 451), de P "AbstractVariableExpression" 959 (vr 513), de P "IndividualVariableExpression" 989 (vr 539), de P "FunctionVariableExpression" 1019 (vr 565), de P "EventVariableExpression" 1035 (vr 577), de P "ConstantExpression" 1065 (vr 603), de P "VariableExpression" 1072 (vr 612)]) 27), #[]⟩
noncomputable def o12_2 (P : Params) : Obj := ⟨vz, none, (.fields (List.toArray [(vi 1), (vi 0), (vr 20), (vi 5), (vi 0), (vr 27), (vi 14), (vi 0), (vr 55), (vi 22), (vi 0), (vr 84), (vi 29), (vi 0), (vr 91), (vi 62), (vi 0), (vr 122), (vi 78), (vi 0), (vr 165), (vi 96), (vi 0), (vr 172), (vi 103), (vi 0), (vr 200), (vi 180), (vi 0), (vr 354), (vi 191), (vi 0), (vr 361), (vi 272), (vi 0), (vr 459), (vi 302), (vi 0), (vr 521), (vi 309), (vi 0), (vr 547), (vi 316), (vi 0), (vr 573), (vi 318), (vi 0), (vr 585), (vi 325), (vi 0), (vr 611)])), #[]⟩
noncomputable def o346_1 (P : Params) : Obj := ⟨(vy "type"), none, (.cls (mkCl "Expression" [(vr 190)] [(vr 346), (vr 190), (vy "object")] 345 [(vr 451), (vr 513)])), (List.toArray [some (vr 195), none, some (vs "Expression" 557), some (vs "Expression" 565), some (vb "object.__new__"), some vt])⟩
noncomputable def o3_3 (P : Params) : Obj := ⟨(vy "dict"), none, (.dict (List.toArray [de P "__name__" 165 (vs "nltk.sem.logic" 232), de P "__doc__" 166 vz, de P "__package__" 167 vz, de P "__loader__" 168 (vb "__main__.__loader__#opaque"), de P "__spec__" 169 vz, de P "__annotations__" 170 (vr 6), de P "__builtins__" 171 (vr 4), de P "__file__" 173 (vs "/claim/cut.py" 172), de P "__cached__" 174 vz, de P "_wall" 193 (vr 21), de P "Deadline" 231 (vr 45), de P "Counter" 270 (vr 74), de P "_union" 280 (vr 85), de P "Tokens" 457 (vr 112), de P "Variable" 510 (vr 154), de P "unique_variable" 521 (vr 166), de P "SubstituteBindingsI" 556 (vr 190), de P "Expression" 749 (vr 346), de P "MAX_SIMPLIFY_SIZE" 751 (.int (10000) 750), de P "_exceeds_size" 762 (vr 355), de P "ApplicationExpression" 885 (vr 451), de P "AbstractVariableExpression" 959 (vr 513), de P "IndividualVariableExpression" 989 (vr 539), de P "FunctionVariableExpression" 1019 (vr 565), de P "EventVariableExpression" 1035 (vr 577), de P "ConstantExpression" 1065 (vr 603), de P "VariableExpression" 1072 (vr 612), de P "VariableBinderExpression" 1153 (vr 670), de P "LambdaExpression" 1195 (vr 703), de P "QuantifiedExpression" 1220 (vr 722), de P "ExistsExpression" 1260 (vr 755), de P "AllExpression" 1302 (vr 788)]) 32), #[]⟩
noncomputable def o12_3 (P : Params) : Obj := ⟨vz, none, (.fields (List.toArray [(vi 1), (vi 0), (vr 20), (vi 5), (vi 0), (vr 27), (vi 14), (vi 0), (vr 55), (vi 22), (vi 0), (vr 84), (vi 29), (vi 0), (vr 91), (vi 62), (vi 0), (vr 122), (vi 78), (vi 0), (vr 165), (vi 96), (vi 0), (vr 172), (vi 103), (vi 0), (vr 200), (vi 180), (vi 0), (vr 354), (vi 191), (vi 0), (vr 361), (vi 272), (vi 0), (vr 459), (vi 302), (vi 0), (vr 521), (vi 309), (vi 0), (vr 547), (vi 316), (vi 0), (vr 573), (vi 318), (vi 0), (vr 585), (vi 325), (vi 0), (vr 611), (vi 335), (vi 0), (vr 618), (vi 381), (vi 0), (vr 678), (vi 396), (vi 0), (vr 711), (vi 405), (vi 0), (vr 730), (vi 415), (vi 0), (vr 763)])), #[]⟩
noncomputable def o346_2 (P : Params) : Obj := ⟨(vy "type"), none, (.cls (mkCl "Expression" [(vr 190)] [(vr 346), (vr 190), (vy "object")] 345 [(vr 451), (vr 513), (vr 670)])), (List.toArray [some (vr 195), none, some (vs "Expression" 557), some (vs "Expression" 565), some (vb "object.__new__"), some vt])⟩
noncomputable def o3_4 (P : Params) : Obj := ⟨(vy "dict"), none, (.dict (List.toArray [de P "__name__" 165 (vs "nltk.sem.logic" 232), de P "__doc__" 166 vz, de P "__package__" 167 vz, de P "__loader__" 168 (vb "__main__.__loader__#opaque"), de P "__spec__" 169 vz, de P "__annotations__" 170 (vr 6), de P "__builtins__" 171 (vr 4), de P "__file__" 173 (vs "/claim/cut.py" 172), de P "__cached__" 174 vz, de P "_wall" 193 (vr 21), de P "Deadline" 231 (vr 45), de P "Counter" 270 (vr 74), de P "_union" 280 (vr 85), de P "Tokens" 457 (vr 112), de P "Variable" 510 (vr 154), de P "unique_variable" 521 (vr 166), de P "SubstituteBindingsI" 556 (vr 190), de P "Expression" 749 (vr 346), de P "MAX_SIMPLIFY_SIZE" 751 (.int (10000) 750), de P "_exceeds_size" 762 (vr 355), de P "ApplicationExpression" 885 (vr 451), de P "AbstractVariableExpression" 959 (vr 513), de P "IndividualVariableExpression" 989 (vr 539), de P "FunctionVariableExpression" 1019 (vr 565), de P "EventVariableExpression" 1035 (vr 577), de P "ConstantExpression" 1065 (vr 603), de P "VariableExpression" 1072 (vr 612), de P "VariableBinderExpression" 1153 (vr 670), de P "LambdaExpression" 1195 (vr 703), de P "QuantifiedExpression" 1220 (vr 722), de P "ExistsExpression" 1260 (vr 755), de P "AllExpression" 1302 (vr 788), de P "NegatedExpression" 1368 (vr 842), de P "BinaryExpression" 1430 (vr 889), de P "BooleanExpression" 1446 (vr 901), de P "AndExpression" 1494 (vr 941), de P "OrExpression" 1542 (vr 981)]) 37), #[]⟩
noncomputable def o12_4 (P : Params) : Obj := ⟨vz, none, (.fields (List.toArray [(vi 1), (vi 0), (vr 20), (vi 5), (vi 0), (vr 27), (vi 14), (vi 0), (vr 55), (vi 22), (vi 0), (vr 84), (vi 29), (vi 0), (vr 91), (vi 62), (vi 0), (vr 122), (vi 78), (vi 0), (vr 165), (vi 96), (vi 0), (vr 172), (vi 103), (vi 0), (vr 200), (vi 180), (vi 0), (vr 354), (vi 191), (vi 0), (vr 361), (vi 272), (vi 0), (vr 459), (vi 302), (vi 0), (vr 521), (vi 309), (vi 0), (vr 547), (vi 316), (vi 0), (vr 573), (vi 318), (vi 0), (vr 585), (vi 325), (vi 0), (vr 611), (vi 335), (vi 0), (vr 618), (vi 381), (vi 0), (vr 678), (vi 396), (vi 0), (vr 711), (vi 405), (vi 0), (vr 730), (vi 415), (vi 0), (vr 763), (vi 427), (vi 0), (vr 796), (vi 448), (vi 0), (vr 850), (vi 469), (vi 0), (vr 897), (vi 471), (vi 0), (vr 909), (vi 487), (vi 0), (vr 949)])), #[]⟩
noncomputable def o346_3 (P : Params) : Obj := ⟨(vy "type"), none, (.cls (mkCl "Expression" [(vr 190)] [(vr 346), (vr 190), (vy "object")] 345 [(vr 451), (vr 513), (vr 670), (vr 842), (vr 889)])), (List.toArray [some (vr 195), none, some (vs "Expression" 557), some (vs "Expression" 565), some (vb "object.__new__"), some vt])⟩
noncomputable def o889_0 (P : Params) : Obj := ⟨(vy "type"), none, (.cls (mkCl "BinaryExpression" [(vr 346)] [(vr 889), (vr 346), (vr 190), (vy "object")] 888 [(vr 901)])), (List.toArray [some (vr 845), none, some (vs "BinaryExpression" 1369), some (vs "BinaryExpression" 1377), some (vb "object.__new__"), some vt])⟩
noncomputable def o901_0 (P : Params) : Obj := ⟨(vy "type"), none, (.cls (mkCl "BooleanExpression" [(vr 889)] [(vr 901), (vr 889), (vr 346), (vr 190), (vy "object")] 900 [(vr 941), (vr 981)])), (List.toArray [some (vr 892), none, some (vs "BooleanExpression" 1431), some (vs "BooleanExpression" 1439), some (vb "object.__new__"), some vt])⟩
noncomputable def o2_1 (P : Params) : Obj := ⟨vz, none, (.dict (List.toArray [de P "type.__subclasses__.Exception.0" 1708 (vi 1120), de P "type.__subclasses__.Exception.n" 1709 (vi 1)]) 2), #[]⟩
noncomputable def o3_5 (P : Params) : Obj := ⟨(vy "dict"), none, (.dict (List.toArray [de P "__name__" 165 (vs "nltk.inference.tableau" 1690), de P "__doc__" 166 vz, de P "__package__" 167 vz, de P "__loader__" 168 (vb "__main__.__loader__#opaque"), de P "__spec__" 169 vz, de P "__annotations__" 170 (vr 6), de P "__builtins__" 171 (vr 4), de P "__file__" 173 (vs "/claim/cut.py" 172), de P "__cached__" 174 vz, de P "_wall" 193 (vr 21), de P "Deadline" 231 (vr 45), de P "Counter" 270 (vr 74), de P "_union" 280 (vr 85), de P "Tokens" 457 (vr 112), de P "Variable" 510 (vr 154), de P "unique_variable" 521 (vr 166), de P "SubstituteBindingsI" 556 (vr 190), de P "Expression" 749 (vr 346), de P "MAX_SIMPLIFY_SIZE" 751 (.int (10000) 750), de P "_exceeds_size" 762 (vr 355), de P "ApplicationExpression" 885 (vr 451), de P "AbstractVariableExpression" 959 (vr 513), de P "IndividualVariableExpression" 989 (vr 539), de P "FunctionVariableExpression" 1019 (vr 565), de P "EventVariableExpression" 1035 (vr 577), de P "ConstantExpression" 1065 (vr 603), de P "VariableExpression" 1072 (vr 612), de P "VariableBinderExpression" 1153 (vr 670), de P "LambdaExpression" 1195 (vr 703), de P "QuantifiedExpression" 1220 (vr 722), de P "ExistsExpression" 1260 (vr 755), de P "AllExpression" 1302 (vr 788), de P "NegatedExpression" 1368 (vr 842), de P "BinaryExpression" 1430 (vr 889), de P "BooleanExpression" 1446 (vr 901), de P "AndExpression" 1494 (vr 941), de P "OrExpression" 1542 (vr 981), de P "ImpExpression" 1581 (vr 1014), de P "IffExpression" 1620 (vr 1047), de P "EqualityExpression" 1659 (vr 1080), de P "_is_letter_and_digits" 1668 (vr 1089), de P "is_indvar" 1675 (vr 1096), de P "is_funcvar" 1682 (vr 1103), de P "is_eventvar" 1689 (vr 1110), de P "ProverParseError" 1711 (vr 1120), de P "TableauProver" 2079 (vr 1311)]) 46), #[]⟩
noncomputable def o12_5 (P : Params) : Obj := ⟨vz, none, (.fields (List.toArray [(vi 1), (vi 0), (vr 20), (vi 5), (vi 0), (vr 27), (vi 14), (vi 0), (vr 55), (vi 22), (vi 0), (vr 84), (vi 29), (vi 0), (vr 91), (vi 62), (vi 0), (vr 122), (vi 78), (vi 0), (vr 165), (vi 96), (vi 0), (vr 172), (vi 103), (vi 0), (vr 200), (vi 180), (vi 0), (vr 354), (vi 191), (vi 0), (vr 361), (vi 272), (vi 0), (vr 459), (vi 302), (vi 0), (vr 521), (vi 309), (vi 0), (vr 547), (vi 316), (vi 0), (vr 573), (vi 318), (vi 0), (vr 585), (vi 325), (vi 0), (vr 611), (vi 335), (vi 0), (vr 618), (vi 381), (vi 0), (vr 678), (vi 396), (vi 0), (vr 711), (vi 405), (vi 0), (vr 730), (vi 415), (vi 0), (vr 763), (vi 427), (vi 0), (vr 796), (vi 448), (vi 0), (vr 850), (vi 469), (vi 0), (vr 897), (vi 471), (vi 0), (vr 909), (vi 487), (vi 0), (vr 949), (vi 503), (vi 0), (vr 989), (vi 513), (vi 0), (vr 1022), (vi 523), (vi 0), (vr 1055), (vi 533), (vi 0), (vr 1088), (vi 540), (vi 0), (vr 1095), (vi 543), (vi 0), (vr 1102), (vi 546), (vi 0), (vr 1109), (vi 550), (vi 0), (vr 1116), (vi 552), (vi 0), (vr 1129)])), #[]⟩
noncomputable def o889_1 (P : Params) : Obj := ⟨(vy "type"), none, (.cls (mkCl "BinaryExpression" [(vr 346)] [(vr 889), (vr 346), (vr 190), (vy "object")] 888 [(vr 901), (vr 1080)])), (List.toArray [some (vr 845), none, some (vs "BinaryExpression" 1369), some (vs "BinaryExpression" 1377), some (vb "object.__new__"), some vt])⟩
noncomputable def o901_1 (P : Params) : Obj := ⟨(vy "type"), none, (.cls (mkCl "BooleanExpression" [(vr 889)] [(vr 901), (vr 889), (vr 346), (vr 190), (vy "object")] 900 [(vr 941), (vr 981), (vr 1014), (vr 1047)])), (List.toArray [some (vr 892), none, some (vs "BooleanExpression" 1431), some (vs "BooleanExpression" 1439), some (vb "object.__new__"), some vt])⟩
noncomputable def o3_6 (P : Params) : Obj := ⟨(vy "dict"), none, (.dict (List.toArray [de P "__name__" 165 (vs "law_au0015_02" 2308), de P "__doc__" 166 vz, de P "__package__" 167 vz, de P "__loader__" 168 (vb "__main__.__loader__#opaque"), de P "__spec__" 169 vz, de P "__annotations__" 170 (vr 6), de P "__builtins__" 171 (vr 4), de P "__file__" 173 (vs "/claim/cut.py" 172), de P "__cached__" 174 vz, de P "_wall" 193 (vr 21), de P "Deadline" 231 (vr 45), de P "Counter" 270 (vr 74), de P "_union" 280 (vr 85), de P "Tokens" 457 (vr 112), de P "Variable" 510 (vr 154), de P "unique_variable" 521 (vr 166), de P "SubstituteBindingsI" 556 (vr 190), de P "Expression" 749 (vr 346), de P "MAX_SIMPLIFY_SIZE" 751 (.int (10000) 750), de P "_exceeds_size" 762 (vr 355), de P "ApplicationExpression" 885 (vr 451), de P "AbstractVariableExpression" 959 (vr 513), de P "IndividualVariableExpression" 989 (vr 539), de P "FunctionVariableExpression" 1019 (vr 565), de P "EventVariableExpression" 1035 (vr 577), de P "ConstantExpression" 1065 (vr 603), de P "VariableExpression" 1072 (vr 612), de P "VariableBinderExpression" 1153 (vr 670), de P "LambdaExpression" 1195 (vr 703), de P "QuantifiedExpression" 1220 (vr 722), de P "ExistsExpression" 1260 (vr 755), de P "AllExpression" 1302 (vr 788), de P "NegatedExpression" 1368 (vr 842), de P "BinaryExpression" 1430 (vr 889), de P "BooleanExpression" 1446 (vr 901), de P "AndExpression" 1494 (vr 941), de P "OrExpression" 1542 (vr 981), de P "ImpExpression" 1581 (vr 1014), de P "IffExpression" 1620 (vr 1047), de P "EqualityExpression" 1659 (vr 1080), de P "_is_letter_and_digits" 1668 (vr 1089), de P "is_indvar" 1675 (vr 1096), de P "is_funcvar" 1682 (vr 1103), de P "is_eventvar" 1689 (vr 1110), de P "ProverParseError" 1711 (vr 1120), de P "TableauProver" 2079 (vr 1311), de P "Agenda" 2207 (vr 1406), de P "Debug" 2245 (vr 1435), de P "Categories" 2307 (vr 1449), de P "_law_box" 2318 (vr 1460), de P "_law_take" 2327 (vr 1467), de P "_law_drawn" 2333 (vr 1472), de P "_law_part" 2339 (vr 1477), de P "_law_formula" 2345 (vr 1482), de P "_law_true" 2351 (vr 1487), de P "law" 2357 (vr 1492)]) 56), #[]⟩
noncomputable def o12_6 (P : Params) : Obj := ⟨vz, none, (.fields (List.toArray [(vi 1), (vi 0), (vr 20), (vi 5), (vi 0), (vr 27), (vi 14), (vi 0), (vr 55), (vi 22), (vi 0), (vr 84), (vi 29), (vi 0), (vr 91), (vi 62), (vi 0), (vr 122), (vi 78), (vi 0), (vr 165), (vi 96), (vi 0), (vr 172), (vi 103), (vi 0), (vr 200), (vi 180), (vi 0), (vr 354), (vi 191), (vi 0), (vr 361), (vi 272), (vi 0), (vr 459), (vi 302), (vi 0), (vr 521), (vi 309), (vi 0), (vr 547), (vi 316), (vi 0), (vr 573), (vi 318), (vi 0), (vr 585), (vi 325), (vi 0), (vr 611), (vi 335), (vi 0), (vr 618), (vi 381), (vi 0), (vr 678), (vi 396), (vi 0), (vr 711), (vi 405), (vi 0), (vr 730), (vi 415), (vi 0), (vr 763), (vi 427), (vi 0), (vr 796), (vi 448), (vi 0), (vr 850), (vi 469), (vi 0), (vr 897), (vi 471), (vi 0), (vr 909), (vi 487), (vi 0), (vr 949), (vi 503), (vi 0), (vr 989), (vi 513), (vi 0), (vr 1022), (vi 523), (vi 0), (vr 1055), (vi 533), (vi 0), (vr 1088), (vi 540), (vi 0), (vr 1095), (vi 543), (vi 0), (vr 1102), (vi 546), (vi 0), (vr 1109), (vi 550), (vi 0), (vr 1116), (vi 552), (vi 0), (vr 1129), (vi 806), (vi 0), (vr 1321), (vi 931), (vi 0), (vr 1416), (vi 938), (vi 0), (vr 1445), (vi 961), (vi 0), (vr 1459), (vi 966), (vi 0), (vr 1466), (vi 970), (vi 0), (vr 1471), (vi 976), (vi 0), (vr 1476), (vi 982), (vi 0), (vr 1481), (vi 996), (vi 0), (vr 1486), (vi 1010), (vi 0), (vr 1491)])), #[]⟩
noncomputable abbrev blk : List Stmt := behindTheImports pw
noncomputable def env0 : Env := { scope := pw.main.scope, locals := mainNs, globals := mainNs, cells := [], code := .ref 13, frame := some 14 }
noncomputable def cE : Code := .body blk env0
noncomputable abbrev B0 : List Frame := [topFrame ⟨0, 0, 0, 0⟩]
noncomputable abbrev twStep := @PySem.W.Fast.tw8437177126325714943
noncomputable abbrev twDen := @PySem.W.Fast.tw11892475500146522536
noncomputable abbrev twTree := @PySem.W.Fast.tw14364793385576792824
noncomputable abbrev twOk := @PySem.W.Fast.tw6613529449190102663
noncomputable abbrev twExecs := @PySem.W.Fast.tw12563942051412417395
noncomputable abbrev ts (w : World) : Shared → Thread → Step := twStep (twDen twTree) pw w
noncomputable abbrev tok : Thread → Bool := twOk 11 (some (.ref 6))
theorem ts_eq (w : World) : ts w = step (denote treeTable) pw w := by
  unfold ts twStep twDen twTree
  rw [← PySem.W.Fast.te8437177126325714943, ← PySem.W.Fast.te11892475500146522536, ← PySem.W.Fast.te14364793385576792824]
theorem tok_eq : tok = stepOk 11 (some (.ref 6)) := by
  unfold tok twOk
  rw [← PySem.W.Fast.te6613529449190102663]
noncomputable abbrev th (i k : Nat) (pos : Pos) : Thread := ⟨(twExecs ((blk.drop i).take k) env0).wrap doneF deadEnd id id, cE, pos, B0⟩
theorem th_eq (i k : Nat) (pos : Pos) : th i k pos = piecesOf ((blk.drop i).take k) env0 cE pos B0 := by
  unfold th twExecs
  rw [← PySem.W.Fast.te12563942051412417395]
noncomputable def V1 (P : Params) : List (Nat × Obj) := [(0, o0 P), (2, o2_0 P), (3, o3_0 P), (4, o4 P), (12, o12_0 P), (13, o13 P)]
noncomputable def S1 (P : Params) : List (Nat × Obj) := [(6, o6 P)]
noncomputable def N1 (P : Params) : List (Nat × Obj) := [(0, o0 P), (2, o2_0 P), (4, o4 P), (13, o13 P)]
noncomputable def U1 (P : Params) : List (Nat × Obj) := [(3, o3_0 P), (12, o12_0 P)]
noncomputable def GS1 (P : Params) : List (Nat × Obj) := [(30, o30 P), (34, o34 P), (35, o35 P), (37, o37 P), (41, o41 P), (42, o42 P), (44, o44 P), (45, o45 P), (57, o57 P), (59, o59 P), (63, o63 P), (64, o64 P), (66, o66 P), (70, o70 P), (71, o71 P), (73, o73 P), (74, o74 P), (80, o80 P), (84, o84 P), (85, o85 P), (125, o125 P), (129, o129 P), (130, o130 P), (132, o132 P), (136, o136 P), (137, o137 P), (153, o153 P), (154, o154 P), (159, o159 P), (161, o161 P), (165, o165 P), (166, o166 P), (227, o227 P), (231, o231 P), (232, o232 P), (282, o282 P), (284, o284 P), (288, o288 P), (289, o289 P), (298, o298 P), (302, o302 P), (303, o303 P)]
noncomputable def GD1 (P : Params) : List (Nat × Obj) := [(189, o189 P), (190, o190 P), (345, o345 P), (346, o346_0 P)]
noncomputable def V2 (P : Params) : List (Nat × Obj) := [(0, o0 P), (2, o2_0 P), (3, o3_1 P), (4, o4 P), (12, o12_1 P), (13, o13 P), (189, o189 P), (190, o190 P), (345, o345 P), (346, o346_0 P)]
noncomputable def S2 (P : Params) : List (Nat × Obj) := S1 P ++ GS1 P
theorem eq1 (w : World) (os : OsState) : obsP [15, 19, 20, 22, 26, 27, 29, 30, 42, 44, 48, 49, 51, 55, 56, 58, 59, 65, 69, 70, 110, 114, 115, 117, 121, 122, 138, 139, 144, 146, 150, 151, 212, 216, 217, 267, 269, 273, 274, 283, 287, 288, 174, 175, 330, 331] [3, 12] (runP (ts w) tok (KT.of (N1 w.params)) 15 1 2843 ⟨.nil, 0, U1 w.params, #[], boot_drawn, 187, os⟩ (th 0 11 ⟨0, 0, 0, 0⟩)) =
    some (.next, cE, ⟨103, 0, 178, 16⟩, 334, #[], boot_drawn, 750, os, [o30 w.params, o34 w.params, o35 w.params, o37 w.params, o41 w.params, o42 w.params, o44 w.params, o45 w.params, o57 w.params, o59 w.params, o63 w.params, o64 w.params, o66 w.params, o70 w.params, o71 w.params, o73 w.params, o74 w.params, o80 w.params, o84 w.params, o85 w.params, o125 w.params, o129 w.params, o130 w.params, o132 w.params, o136 w.params, o137 w.params, o153 w.params, o154 w.params, o159 w.params, o161 w.params, o165 w.params, o166 w.params, o227 w.params, o231 w.params, o232 w.params, o282 w.params, o284 w.params, o288 w.params, o289 w.params, o298 w.params, o302 w.params, o303 w.params, o189 w.params, o190 w.params, o345 w.params, o346_0 w.params].map some, [o3_1 w.params, o12_1 w.params].map some) := by kernel_rfl
theorem ck1 (w : World) (os : OsState) (h : Heap) (hs : h.objs.size = 15) (S : Hs (S1 w.params) h) (V : Hs (V1 w.params) h) :
    ∃ h' : Heap, h'.objs.size = 349 ∧ Hs (S2 w.params) h' ∧ Hs (V2 w.params) h' ∧ segRun treeTable pw w 11 (some (.ref 6)) 1 2843 ⟨h, #[], boot_drawn, 187, os⟩ (piecesOf ((blk.drop 0).take 11) env0 cE ⟨0, 0, 0, 0⟩ B0) = some (.next, ⟨h', #[], boot_drawn, 750, os⟩, cE, ⟨103, 0, 178, 16⟩) := by
  have hN : Hs (N1 w.params) h := Hs.cons (V.at 0 rfl) (Hs.cons (V.at 1 rfl) (Hs.cons (V.at 3 rfl) (Hs.cons (V.at 5 rfl) (Hs.nil))))
  have hU : Hs (U1 w.params) h := Hs.cons (V.at 2 rfl) (Hs.cons (V.at 4 rfl) (Hs.nil))
  have e := eq1 w os
  rw [ts_eq, tok_eq, th_eq] at e
  obtain ⟨h', z1, z2, zG, zU, z5⟩ := chunk_at hs hN hU e (G := GS1 w.params ++ GD1 w.params) rfl
  exact ⟨h', z1, Hs.app (S.kept z2 (by kernel_rfl)) (fun p hp => zG p (List.mem_append_left _ hp)), Hs.cons (z2 _ _ (V.at 0 rfl) rfl) (Hs.cons (z2 _ _ (V.at 1 rfl) rfl) (Hs.cons (zU.at 0 rfl) (Hs.cons (z2 _ _ (V.at 3 rfl) rfl) (Hs.cons (zU.at 1 rfl) (Hs.cons (z2 _ _ (V.at 5 rfl) rfl) (Hs.cons (zG.at 42 rfl) (Hs.cons (zG.at 43 rfl) (Hs.cons (zG.at 44 rfl) (Hs.cons (zG.at 45 rfl) (Hs.nil)))))))))), z5⟩
noncomputable def N2 (P : Params) : List (Nat × Obj) := [(0, o0 P), (2, o2_0 P), (4, o4 P), (13, o13 P), (189, o189 P), (190, o190 P), (345, o345 P)]
noncomputable def U2 (P : Params) : List (Nat × Obj) := [(3, o3_1 P), (12, o12_1 P), (346, o346_0 P)]
noncomputable def GS2 (P : Params) : List (Nat × Obj) := [(364, o364 P), (368, o368 P), (369, o369 P), (378, o378 P), (382, o382 P), (383, o383 P), (399, o399 P), (403, o403 P), (404, o404 P), (406, o406 P), (410, o410 P), (411, o411 P), (420, o420 P), (424, o424 P), (425, o425 P), (433, o433 P), (435, o435 P), (439, o439 P), (440, o440 P), (441, o441 P), (450, o450 P), (451, o451 P), (462, o462 P), (466, o466 P), (467, o467 P), (475, o475 P), (477, o477 P), (481, o481 P), (482, o482 P), (491, o491 P), (495, o495 P), (496, o496 P), (512, o512 P), (513, o513 P), (524, o524 P), (528, o528 P), (529, o529 P), (538, o538 P), (539, o539 P), (564, o564 P), (565, o565 P), (576, o576 P), (577, o577 P), (588, o588 P), (592, o592 P), (593, o593 P), (602, o602 P), (603, o603 P), (607, o607 P), (611, o611 P), (612, o612 P)]
noncomputable def GD2 (P : Params) : List (Nat × Obj) := []
noncomputable def V3 (P : Params) : List (Nat × Obj) := [(0, o0 P), (2, o2_0 P), (3, o3_2 P), (4, o4 P), (12, o12_2 P), (13, o13 P), (189, o189 P), (190, o190 P), (345, o345 P), (346, o346_1 P)]
noncomputable def S3 (P : Params) : List (Nat × Obj) := S2 P ++ GS2 P
theorem eq2 (w : World) (os : OsState) : obsP [15, 19, 20, 29, 33, 34, 50, 54, 55, 57, 61, 62, 71, 75, 76, 84, 86, 90, 91, 92, 101, 102, 113, 117, 118, 126, 128, 132, 133, 142, 146, 147, 163, 164, 175, 179, 180, 189, 190, 215, 216, 227, 228, 239, 243, 244, 253, 254, 258, 262, 263] [3, 12, 346] (runP (ts w) tok (KT.of (N2 w.params)) 349 1 2431 ⟨.nil, 0, U2 w.params, #[], boot_drawn, 750, os⟩ (th 11 9 ⟨103, 0, 178, 16⟩)) =
    some (.next, cE, ⟨325, 0, 334, 43⟩, 264, #[], boot_drawn, 1073, os, [o364 w.params, o368 w.params, o369 w.params, o378 w.params, o382 w.params, o383 w.params, o399 w.params, o403 w.params, o404 w.params, o406 w.params, o410 w.params, o411 w.params, o420 w.params, o424 w.params, o425 w.params, o433 w.params, o435 w.params, o439 w.params, o440 w.params, o441 w.params, o450 w.params, o451 w.params, o462 w.params, o466 w.params, o467 w.params, o475 w.params, o477 w.params, o481 w.params, o482 w.params, o491 w.params, o495 w.params, o496 w.params, o512 w.params, o513 w.params, o524 w.params, o528 w.params, o529 w.params, o538 w.params, o539 w.params, o564 w.params, o565 w.params, o576 w.params, o577 w.params, o588 w.params, o592 w.params, o593 w.params, o602 w.params, o603 w.params, o607 w.params, o611 w.params, o612 w.params].map some, [o3_2 w.params, o12_2 w.params, o346_1 w.params].map some) := by kernel_rfl
theorem ck2 (w : World) (os : OsState) (h : Heap) (hs : h.objs.size = 349) (S : Hs (S2 w.params) h) (V : Hs (V2 w.params) h) :
    ∃ h' : Heap, h'.objs.size = 613 ∧ Hs (S3 w.params) h' ∧ Hs (V3 w.params) h' ∧ segRun treeTable pw w 11 (some (.ref 6)) 1 2431 ⟨h, #[], boot_drawn, 750, os⟩ (piecesOf ((blk.drop 11).take 9) env0 cE ⟨103, 0, 178, 16⟩ B0) = some (.next, ⟨h', #[], boot_drawn, 1073, os⟩, cE, ⟨325, 0, 334, 43⟩) := by
  have hN : Hs (N2 w.params) h := Hs.cons (V.at 0 rfl) (Hs.cons (V.at 1 rfl) (Hs.cons (V.at 3 rfl) (Hs.cons (V.at 5 rfl) (Hs.cons (V.at 6 rfl) (Hs.cons (V.at 7 rfl) (Hs.cons (V.at 8 rfl) (Hs.nil)))))))
  have hU : Hs (U2 w.params) h := Hs.cons (V.at 2 rfl) (Hs.cons (V.at 4 rfl) (Hs.cons (V.at 9 rfl) (Hs.nil)))
  have e := eq2 w os
  rw [ts_eq, tok_eq, th_eq] at e
  obtain ⟨h', z1, z2, zG, zU, z5⟩ := chunk_at hs hN hU e (G := GS2 w.params ++ GD2 w.params) rfl
  exact ⟨h', z1, Hs.app (S.kept z2 (by kernel_rfl)) (fun p hp => zG p (List.mem_append_left _ hp)), Hs.cons (z2 _ _ (V.at 0 rfl) rfl) (Hs.cons (z2 _ _ (V.at 1 rfl) rfl) (Hs.cons (zU.at 0 rfl) (Hs.cons (z2 _ _ (V.at 3 rfl) rfl) (Hs.cons (zU.at 1 rfl) (Hs.cons (z2 _ _ (V.at 5 rfl) rfl) (Hs.cons (z2 _ _ (V.at 6 rfl) rfl) (Hs.cons (z2 _ _ (V.at 7 rfl) rfl) (Hs.cons (z2 _ _ (V.at 8 rfl) rfl) (Hs.cons (zU.at 2 rfl) (Hs.nil)))))))))), z5⟩
noncomputable def N3 (P : Params) : List (Nat × Obj) := [(0, o0 P), (2, o2_0 P), (4, o4 P), (13, o13 P), (189, o189 P), (190, o190 P), (345, o345 P)]
noncomputable def U3 (P : Params) : List (Nat × Obj) := [(3, o3_2 P), (12, o12_2 P), (346, o346_1 P)]
noncomputable def GS3 (P : Params) : List (Nat × Obj) := [(621, o621 P), (625, o625 P), (626, o626 P), (627, o627 P), (629, o629 P), (633, o633 P), (634, o634 P), (669, o669 P), (670, o670 P), (702, o702 P), (703, o703 P), (721, o721 P), (722, o722 P), (733, o733 P), (737, o737 P), (738, o738 P), (754, o754 P), (755, o755 P), (766, o766 P), (770, o770 P), (771, o771 P), (787, o787 P), (788, o788 P)]
noncomputable def GD3 (P : Params) : List (Nat × Obj) := []
noncomputable def V4 (P : Params) : List (Nat × Obj) := [(0, o0 P), (2, o2_0 P), (3, o3_3 P), (4, o4 P), (12, o12_3 P), (13, o13 P), (189, o189 P), (190, o190 P), (345, o345 P), (346, o346_2 P)]
noncomputable def S4 (P : Params) : List (Nat × Obj) := S3 P ++ GS3 P
theorem eq3 (w : World) (os : OsState) : obsP [8, 12, 13, 14, 16, 20, 21, 56, 57, 89, 90, 108, 109, 120, 124, 125, 141, 142, 153, 157, 158, 174, 175] [3, 12, 346] (runP (ts w) tok (KT.of (N3 w.params)) 613 1 1793 ⟨.nil, 0, U3 w.params, #[], boot_drawn, 1073, os⟩ (th 20 5 ⟨325, 0, 334, 43⟩)) =
    some (.next, cE, ⟨415, 0, 426, 25⟩, 178, #[], boot_drawn, 1303, os, [o621 w.params, o625 w.params, o626 w.params, o627 w.params, o629 w.params, o633 w.params, o634 w.params, o669 w.params, o670 w.params, o702 w.params, o703 w.params, o721 w.params, o722 w.params, o733 w.params, o737 w.params, o738 w.params, o754 w.params, o755 w.params, o766 w.params, o770 w.params, o771 w.params, o787 w.params, o788 w.params].map some, [o3_3 w.params, o12_3 w.params, o346_2 w.params].map some) := by kernel_rfl
theorem ck3 (w : World) (os : OsState) (h : Heap) (hs : h.objs.size = 613) (S : Hs (S3 w.params) h) (V : Hs (V3 w.params) h) :
    ∃ h' : Heap, h'.objs.size = 791 ∧ Hs (S4 w.params) h' ∧ Hs (V4 w.params) h' ∧ segRun treeTable pw w 11 (some (.ref 6)) 1 1793 ⟨h, #[], boot_drawn, 1073, os⟩ (piecesOf ((blk.drop 20).take 5) env0 cE ⟨325, 0, 334, 43⟩ B0) = some (.next, ⟨h', #[], boot_drawn, 1303, os⟩, cE, ⟨415, 0, 426, 25⟩) := by
  have hN : Hs (N3 w.params) h := Hs.cons (V.at 0 rfl) (Hs.cons (V.at 1 rfl) (Hs.cons (V.at 3 rfl) (Hs.cons (V.at 5 rfl) (Hs.cons (V.at 6 rfl) (Hs.cons (V.at 7 rfl) (Hs.cons (V.at 8 rfl) (Hs.nil)))))))
  have hU : Hs (U3 w.params) h := Hs.cons (V.at 2 rfl) (Hs.cons (V.at 4 rfl) (Hs.cons (V.at 9 rfl) (Hs.nil)))
  have e := eq3 w os
  rw [ts_eq, tok_eq, th_eq] at e
  obtain ⟨h', z1, z2, zG, zU, z5⟩ := chunk_at hs hN hU e (G := GS3 w.params ++ GD3 w.params) rfl
  exact ⟨h', z1, Hs.app (S.kept z2 (by kernel_rfl)) (fun p hp => zG p (List.mem_append_left _ hp)), Hs.cons (z2 _ _ (V.at 0 rfl) rfl) (Hs.cons (z2 _ _ (V.at 1 rfl) rfl) (Hs.cons (zU.at 0 rfl) (Hs.cons (z2 _ _ (V.at 3 rfl) rfl) (Hs.cons (zU.at 1 rfl) (Hs.cons (z2 _ _ (V.at 5 rfl) rfl) (Hs.cons (z2 _ _ (V.at 6 rfl) rfl) (Hs.cons (z2 _ _ (V.at 7 rfl) rfl) (Hs.cons (z2 _ _ (V.at 8 rfl) rfl) (Hs.cons (zU.at 2 rfl) (Hs.nil)))))))))), z5⟩
noncomputable def N4 (P : Params) : List (Nat × Obj) := [(0, o0 P), (2, o2_0 P), (4, o4 P), (13, o13 P), (189, o189 P), (190, o190 P), (345, o345 P)]
noncomputable def U4 (P : Params) : List (Nat × Obj) := [(3, o3_3 P), (12, o12_3 P), (346, o346_2 P)]
noncomputable def GS4 (P : Params) : List (Nat × Obj) := [(799, o799 P), (803, o803 P), (804, o804 P), (806, o806 P), (810, o810 P), (811, o811 P), (813, o813 P), (817, o817 P), (818, o818 P), (841, o841 P), (842, o842 P), (853, o853 P), (857, o857 P), (858, o858 P), (860, o860 P), (864, o864 P), (865, o865 P), (912, o912 P), (916, o916 P), (917, o917 P), (940, o940 P), (941, o941 P), (952, o952 P), (956, o956 P), (957, o957 P), (980, o980 P), (981, o981 P)]
noncomputable def GD4 (P : Params) : List (Nat × Obj) := [(888, o888 P), (900, o900 P), (889, o889_0 P), (901, o901_0 P)]
noncomputable def V5 (P : Params) : List (Nat × Obj) := [(0, o0 P), (2, o2_0 P), (3, o3_4 P), (4, o4 P), (12, o12_4 P), (13, o13 P), (189, o189 P), (190, o190 P), (345, o345 P), (346, o346_3 P), (888, o888 P), (889, o889_0 P), (900, o900 P), (901, o901_0 P)]
noncomputable def S5 (P : Params) : List (Nat × Obj) := S4 P ++ GS4 P
theorem eq4 (w : World) (os : OsState) : obsP [8, 12, 13, 15, 19, 20, 22, 26, 27, 50, 51, 62, 66, 67, 69, 73, 74, 121, 125, 126, 149, 150, 161, 165, 166, 189, 190, 97, 109, 98, 110] [3, 12, 346] (runP (ts w) tok (KT.of (N4 w.params)) 791 1 1836 ⟨.nil, 0, U4 w.params, #[], boot_drawn, 1303, os⟩ (th 25 5 ⟨415, 0, 426, 25⟩)) =
    some (.next, cE, ⟨487, 0, 502, 16⟩, 193, #[], boot_drawn, 1543, os, [o799 w.params, o803 w.params, o804 w.params, o806 w.params, o810 w.params, o811 w.params, o813 w.params, o817 w.params, o818 w.params, o841 w.params, o842 w.params, o853 w.params, o857 w.params, o858 w.params, o860 w.params, o864 w.params, o865 w.params, o912 w.params, o916 w.params, o917 w.params, o940 w.params, o941 w.params, o952 w.params, o956 w.params, o957 w.params, o980 w.params, o981 w.params, o888 w.params, o900 w.params, o889_0 w.params, o901_0 w.params].map some, [o3_4 w.params, o12_4 w.params, o346_3 w.params].map some) := by kernel_rfl
theorem ck4 (w : World) (os : OsState) (h : Heap) (hs : h.objs.size = 791) (S : Hs (S4 w.params) h) (V : Hs (V4 w.params) h) :
    ∃ h' : Heap, h'.objs.size = 984 ∧ Hs (S5 w.params) h' ∧ Hs (V5 w.params) h' ∧ segRun treeTable pw w 11 (some (.ref 6)) 1 1836 ⟨h, #[], boot_drawn, 1303, os⟩ (piecesOf ((blk.drop 25).take 5) env0 cE ⟨415, 0, 426, 25⟩ B0) = some (.next, ⟨h', #[], boot_drawn, 1543, os⟩, cE, ⟨487, 0, 502, 16⟩) := by
  have hN : Hs (N4 w.params) h := Hs.cons (V.at 0 rfl) (Hs.cons (V.at 1 rfl) (Hs.cons (V.at 3 rfl) (Hs.cons (V.at 5 rfl) (Hs.cons (V.at 6 rfl) (Hs.cons (V.at 7 rfl) (Hs.cons (V.at 8 rfl) (Hs.nil)))))))
  have hU : Hs (U4 w.params) h := Hs.cons (V.at 2 rfl) (Hs.cons (V.at 4 rfl) (Hs.cons (V.at 9 rfl) (Hs.nil)))
  have e := eq4 w os
  rw [ts_eq, tok_eq, th_eq] at e
  obtain ⟨h', z1, z2, zG, zU, z5⟩ := chunk_at hs hN hU e (G := GS4 w.params ++ GD4 w.params) rfl
  exact ⟨h', z1, Hs.app (S.kept z2 (by kernel_rfl)) (fun p hp => zG p (List.mem_append_left _ hp)), Hs.cons (z2 _ _ (V.at 0 rfl) rfl) (Hs.cons (z2 _ _ (V.at 1 rfl) rfl) (Hs.cons (zU.at 0 rfl) (Hs.cons (z2 _ _ (V.at 3 rfl) rfl) (Hs.cons (zU.at 1 rfl) (Hs.cons (z2 _ _ (V.at 5 rfl) rfl) (Hs.cons (z2 _ _ (V.at 6 rfl) rfl) (Hs.cons (z2 _ _ (V.at 7 rfl) rfl) (Hs.cons (z2 _ _ (V.at 8 rfl) rfl) (Hs.cons (zU.at 2 rfl) (Hs.cons (zG.at 27 rfl) (Hs.cons (zG.at 29 rfl) (Hs.cons (zG.at 28 rfl) (Hs.cons (zG.at 30 rfl) (Hs.nil)))))))))))))), z5⟩
noncomputable def N5 (P : Params) : List (Nat × Obj) := [(0, o0 P), (4, o4 P), (13, o13 P), (189, o189 P), (190, o190 P), (345, o345 P), (346, o346_3 P), (888, o888 P), (900, o900 P)]
noncomputable def U5 (P : Params) : List (Nat × Obj) := [(2, o2_0 P), (3, o3_4 P), (12, o12_4 P), (889, o889_0 P), (901, o901_0 P)]
noncomputable def GS5 (P : Params) : List (Nat × Obj) := [(992, o992 P), (996, o996 P), (997, o997 P), (1013, o1013 P), (1014, o1014 P), (1046, o1046 P), (1047, o1047 P), (1079, o1079 P), (1080, o1080 P), (1084, o1084 P), (1088, o1088 P), (1089, o1089 P), (1091, o1091 P), (1095, o1095 P), (1096, o1096 P), (1098, o1098 P), (1102, o1102 P), (1103, o1103 P), (1105, o1105 P), (1109, o1109 P), (1110, o1110 P), (1131, o1131 P), (1133, o1133 P), (1137, o1137 P), (1138, o1138 P), (1139, o1139 P), (1141, o1141 P), (1145, o1145 P), (1146, o1146 P), (1148, o1148 P), (1152, o1152 P), (1153, o1153 P), (1155, o1155 P), (1159, o1159 P), (1160, o1160 P), (1162, o1162 P), (1166, o1166 P), (1167, o1167 P), (1204, o1204 P), (1208, o1208 P), (1209, o1209 P), (1211, o1211 P), (1215, o1215 P), (1216, o1216 P), (1218, o1218 P), (1222, o1222 P), (1223, o1223 P), (1225, o1225 P), (1229, o1229 P), (1230, o1230 P), (1232, o1232 P), (1236, o1236 P), (1237, o1237 P), (1239, o1239 P), (1243, o1243 P), (1244, o1244 P), (1246, o1246 P), (1250, o1250 P), (1251, o1251 P), (1253, o1253 P), (1257, o1257 P), (1258, o1258 P), (1260, o1260 P), (1264, o1264 P), (1265, o1265 P), (1288, o1288 P), (1292, o1292 P), (1293, o1293 P), (1295, o1295 P), (1297, o1297 P), (1298, o1298 P), (1300, o1300 P), (1304, o1304 P), (1305, o1305 P), (1306, o1306 P), (1307, o1307 P), (1308, o1308 P), (1310, o1310 P), (1311, o1311 P)]
noncomputable def GD5 (P : Params) : List (Nat × Obj) := []
noncomputable def V6 (P : Params) : List (Nat × Obj) := [(0, o0 P), (2, o2_1 P), (3, o3_5 P), (4, o4 P), (12, o12_5 P), (13, o13 P), (189, o189 P), (190, o190 P), (345, o345 P), (346, o346_3 P), (888, o888 P), (889, o889_1 P), (900, o900 P), (901, o901_1 P)]
noncomputable def S6 (P : Params) : List (Nat × Obj) := S5 P ++ GS5 P
theorem eq5 (w : World) (os : OsState) : obsP [8, 12, 13, 29, 30, 62, 63, 95, 96, 100, 104, 105, 107, 111, 112, 114, 118, 119, 121, 125, 126, 147, 149, 153, 154, 155, 157, 161, 162, 164, 168, 169, 171, 175, 176, 178, 182, 183, 220, 224, 225, 227, 231, 232, 234, 238, 239, 241, 245, 246, 248, 252, 253, 255, 259, 260, 262, 266, 267, 269, 273, 274, 276, 280, 281, 304, 308, 309, 311, 313, 314, 316, 320, 321, 322, 323, 324, 326, 327] [2, 3, 12, 889, 901] (runP (ts w) tok (KT.of (N5 w.params)) 984 1 2630 ⟨.nil, 0, U5 w.params, #[], boot_drawn, 1543, os⟩ (th 30 10 ⟨487, 0, 502, 16⟩)) =
    some (.next, cE, ⟨552, 0, 805, 24⟩, 332, #[], boot_drawn, 2080, os, [o992 w.params, o996 w.params, o997 w.params, o1013 w.params, o1014 w.params, o1046 w.params, o1047 w.params, o1079 w.params, o1080 w.params, o1084 w.params, o1088 w.params, o1089 w.params, o1091 w.params, o1095 w.params, o1096 w.params, o1098 w.params, o1102 w.params, o1103 w.params, o1105 w.params, o1109 w.params, o1110 w.params, o1131 w.params, o1133 w.params, o1137 w.params, o1138 w.params, o1139 w.params, o1141 w.params, o1145 w.params, o1146 w.params, o1148 w.params, o1152 w.params, o1153 w.params, o1155 w.params, o1159 w.params, o1160 w.params, o1162 w.params, o1166 w.params, o1167 w.params, o1204 w.params, o1208 w.params, o1209 w.params, o1211 w.params, o1215 w.params, o1216 w.params, o1218 w.params, o1222 w.params, o1223 w.params, o1225 w.params, o1229 w.params, o1230 w.params, o1232 w.params, o1236 w.params, o1237 w.params, o1239 w.params, o1243 w.params, o1244 w.params, o1246 w.params, o1250 w.params, o1251 w.params, o1253 w.params, o1257 w.params, o1258 w.params, o1260 w.params, o1264 w.params, o1265 w.params, o1288 w.params, o1292 w.params, o1293 w.params, o1295 w.params, o1297 w.params, o1298 w.params, o1300 w.params, o1304 w.params, o1305 w.params, o1306 w.params, o1307 w.params, o1308 w.params, o1310 w.params, o1311 w.params].map some, [o2_1 w.params, o3_5 w.params, o12_5 w.params, o889_1 w.params, o901_1 w.params].map some) := by kernel_rfl
theorem ck5 (w : World) (os : OsState) (h : Heap) (hs : h.objs.size = 984) (S : Hs (S5 w.params) h) (V : Hs (V5 w.params) h) :
    ∃ h' : Heap, h'.objs.size = 1316 ∧ Hs (S6 w.params) h' ∧ Hs (V6 w.params) h' ∧ segRun treeTable pw w 11 (some (.ref 6)) 1 2630 ⟨h, #[], boot_drawn, 1543, os⟩ (piecesOf ((blk.drop 30).take 10) env0 cE ⟨487, 0, 502, 16⟩ B0) = some (.next, ⟨h', #[], boot_drawn, 2080, os⟩, cE, ⟨552, 0, 805, 24⟩) := by
  have hN : Hs (N5 w.params) h := Hs.cons (V.at 0 rfl) (Hs.cons (V.at 3 rfl) (Hs.cons (V.at 5 rfl) (Hs.cons (V.at 6 rfl) (Hs.cons (V.at 7 rfl) (Hs.cons (V.at 8 rfl) (Hs.cons (V.at 9 rfl) (Hs.cons (V.at 10 rfl) (Hs.cons (V.at 12 rfl) (Hs.nil)))))))))
  have hU : Hs (U5 w.params) h := Hs.cons (V.at 1 rfl) (Hs.cons (V.at 2 rfl) (Hs.cons (V.at 4 rfl) (Hs.cons (V.at 11 rfl) (Hs.cons (V.at 13 rfl) (Hs.nil)))))
  have e := eq5 w os
  rw [ts_eq, tok_eq, th_eq] at e
  obtain ⟨h', z1, z2, zG, zU, z5⟩ := chunk_at hs hN hU e (G := GS5 w.params ++ GD5 w.params) rfl
  exact ⟨h', z1, Hs.app (S.kept z2 (by kernel_rfl)) (fun p hp => zG p (List.mem_append_left _ hp)), Hs.cons (z2 _ _ (V.at 0 rfl) rfl) (Hs.cons (zU.at 0 rfl) (Hs.cons (zU.at 1 rfl) (Hs.cons (z2 _ _ (V.at 3 rfl) rfl) (Hs.cons (zU.at 2 rfl) (Hs.cons (z2 _ _ (V.at 5 rfl) rfl) (Hs.cons (z2 _ _ (V.at 6 rfl) rfl) (Hs.cons (z2 _ _ (V.at 7 rfl) rfl) (Hs.cons (z2 _ _ (V.at 8 rfl) rfl) (Hs.cons (z2 _ _ (V.at 9 rfl) rfl) (Hs.cons (z2 _ _ (V.at 10 rfl) rfl) (Hs.cons (zU.at 3 rfl) (Hs.cons (z2 _ _ (V.at 12 rfl) rfl) (Hs.cons (zU.at 4 rfl) (Hs.nil)))))))))))))), z5⟩
noncomputable def N6 (P : Params) : List (Nat × Obj) := [(0, o0 P), (2, o2_1 P), (4, o4 P), (13, o13 P), (189, o189 P), (190, o190 P), (345, o345 P), (346, o346_3 P), (888, o888 P), (889, o889_1 P), (900, o900 P), (901, o901_1 P)]
noncomputable def U6 (P : Params) : List (Nat × Obj) := [(3, o3_5 P), (12, o12_5 P)]
noncomputable def GS6 (P : Params) : List (Nat × Obj) := [(1324, o1324 P), (1326, o1326 P), (1327, o1327 P), (1329, o1329 P), (1331, o1331 P), (1332, o1332 P), (1334, o1334 P), (1338, o1338 P), (1339, o1339 P), (1340, o1340 P), (1342, o1342 P), (1346, o1346 P), (1347, o1347 P), (1349, o1349 P), (1353, o1353 P), (1354, o1354 P), (1363, o1363 P), (1367, o1367 P), (1368, o1368 P), (1377, o1377 P), (1381, o1381 P), (1382, o1382 P), (1391, o1391 P), (1395, o1395 P), (1396, o1396 P), (1398, o1398 P), (1402, o1402 P), (1403, o1403 P), (1405, o1405 P), (1406, o1406 P), (1418, o1418 P), (1420, o1420 P), (1424, o1424 P), (1425, o1425 P), (1427, o1427 P), (1431, o1431 P), (1432, o1432 P), (1434, o1434 P), (1435, o1435 P), (1448, o1448 P), (1449, o1449 P), (1455, o1455 P), (1459, o1459 P), (1460, o1460 P), (1462, o1462 P), (1466, o1466 P), (1467, o1467 P), (1469, o1469 P), (1471, o1471 P), (1472, o1472 P), (1474, o1474 P), (1476, o1476 P), (1477, o1477 P), (1479, o1479 P), (1481, o1481 P), (1482, o1482 P), (1484, o1484 P), (1486, o1486 P), (1487, o1487 P), (1489, o1489 P), (1491, o1491 P), (1492, o1492 P)]
noncomputable def GD6 (P : Params) : List (Nat × Obj) := []
noncomputable def V7 (P : Params) : List (Nat × Obj) := [(0, o0 P), (2, o2_1 P), (3, o3_6 P), (4, o4 P), (12, o12_6 P), (13, o13 P), (189, o189 P), (190, o190 P), (345, o345 P), (346, o346_3 P), (888, o888 P), (889, o889_1 P), (900, o900 P), (901, o901_1 P)]
noncomputable def S7 (P : Params) : List (Nat × Obj) := S6 P ++ GS6 P
theorem eq6 (w : World) (os : OsState) : obsP [8, 10, 11, 13, 15, 16, 18, 22, 23, 24, 26, 30, 31, 33, 37, 38, 47, 51, 52, 61, 65, 66, 75, 79, 80, 82, 86, 87, 89, 90, 102, 104, 108, 109, 111, 115, 116, 118, 119, 132, 133, 139, 143, 144, 146, 150, 151, 153, 155, 156, 158, 160, 161, 163, 165, 166, 168, 170, 171, 173, 175, 176] [3, 12] (runP (ts w) tok (KT.of (N6 w.params)) 1316 1 1439 ⟨.nil, 0, U6 w.params, #[], boot_drawn, 2080, os⟩ (th 40 11 ⟨552, 0, 805, 24⟩)) =
    some (.next, cE, ⟨1010, 0, 1027, 15⟩, 177, #[], boot_drawn, 2358, os, [o1324 w.params, o1326 w.params, o1327 w.params, o1329 w.params, o1331 w.params, o1332 w.params, o1334 w.params, o1338 w.params, o1339 w.params, o1340 w.params, o1342 w.params, o1346 w.params, o1347 w.params, o1349 w.params, o1353 w.params, o1354 w.params, o1363 w.params, o1367 w.params, o1368 w.params, o1377 w.params, o1381 w.params, o1382 w.params, o1391 w.params, o1395 w.params, o1396 w.params, o1398 w.params, o1402 w.params, o1403 w.params, o1405 w.params, o1406 w.params, o1418 w.params, o1420 w.params, o1424 w.params, o1425 w.params, o1427 w.params, o1431 w.params, o1432 w.params, o1434 w.params, o1435 w.params, o1448 w.params, o1449 w.params, o1455 w.params, o1459 w.params, o1460 w.params, o1462 w.params, o1466 w.params, o1467 w.params, o1469 w.params, o1471 w.params, o1472 w.params, o1474 w.params, o1476 w.params, o1477 w.params, o1479 w.params, o1481 w.params, o1482 w.params, o1484 w.params, o1486 w.params, o1487 w.params, o1489 w.params, o1491 w.params, o1492 w.params].map some, [o3_6 w.params, o12_6 w.params].map some) := by kernel_rfl
theorem ck6 (w : World) (os : OsState) (h : Heap) (hs : h.objs.size = 1316) (S : Hs (S6 w.params) h) (V : Hs (V6 w.params) h) :
    ∃ h' : Heap, h'.objs.size = 1493 ∧ Hs (S7 w.params) h' ∧ Hs (V7 w.params) h' ∧ segRun treeTable pw w 11 (some (.ref 6)) 1 1439 ⟨h, #[], boot_drawn, 2080, os⟩ (piecesOf ((blk.drop 40).take 11) env0 cE ⟨552, 0, 805, 24⟩ B0) = some (.next, ⟨h', #[], boot_drawn, 2358, os⟩, cE, ⟨1010, 0, 1027, 15⟩) := by
  have hN : Hs (N6 w.params) h := Hs.cons (V.at 0 rfl) (Hs.cons (V.at 1 rfl) (Hs.cons (V.at 3 rfl) (Hs.cons (V.at 5 rfl) (Hs.cons (V.at 6 rfl) (Hs.cons (V.at 7 rfl) (Hs.cons (V.at 8 rfl) (Hs.cons (V.at 9 rfl) (Hs.cons (V.at 10 rfl) (Hs.cons (V.at 11 rfl) (Hs.cons (V.at 12 rfl) (Hs.cons (V.at 13 rfl) (Hs.nil))))))))))))
  have hU : Hs (U6 w.params) h := Hs.cons (V.at 2 rfl) (Hs.cons (V.at 4 rfl) (Hs.nil))
  have e := eq6 w os
  rw [ts_eq, tok_eq, th_eq] at e
  obtain ⟨h', z1, z2, zG, zU, z5⟩ := chunk_at hs hN hU e (G := GS6 w.params ++ GD6 w.params) rfl
  exact ⟨h', z1, Hs.app (S.kept z2 (by kernel_rfl)) (fun p hp => zG p (List.mem_append_left _ hp)), Hs.cons (z2 _ _ (V.at 0 rfl) rfl) (Hs.cons (z2 _ _ (V.at 1 rfl) rfl) (Hs.cons (zU.at 0 rfl) (Hs.cons (z2 _ _ (V.at 3 rfl) rfl) (Hs.cons (zU.at 1 rfl) (Hs.cons (z2 _ _ (V.at 5 rfl) rfl) (Hs.cons (z2 _ _ (V.at 6 rfl) rfl) (Hs.cons (z2 _ _ (V.at 7 rfl) rfl) (Hs.cons (z2 _ _ (V.at 8 rfl) rfl) (Hs.cons (z2 _ _ (V.at 9 rfl) rfl) (Hs.cons (z2 _ _ (V.at 10 rfl) rfl) (Hs.cons (z2 _ _ (V.at 11 rfl) rfl) (Hs.cons (z2 _ _ (V.at 12 rfl) rfl) (Hs.cons (z2 _ _ (V.at 13 rfl) rfl) (Hs.nil)))))))))))))), z5⟩
theorem eqpre (w : World) (os : OsState) : (@PySem.W.Fast.tw15667345088766844465 twTree pw w 11 (some (.ref 6)) 12 ⟨boot_heap w.params, #[], boot_drawn, boot_toks, os⟩ (topStub pw)).map (fun x => (x.1.heap.objs.size, x.1.gens, x.1.drawn, x.1.toks, x.1.os, x.2, [0, 2, 3, 4, 12, 13, 6].map x.1.heap.get?)) =
    some (15, #[], boot_drawn, 187, os, ⟨twDen twTree cE, cE, ⟨0, 0, 0, 0⟩, B0⟩, [o0 w.params, o2_0 w.params, o3_0 w.params, o4 w.params, o12_0 w.params, o13 w.params, o6 w.params].map some) := by kernel_rfl
theorem pre_run (w : World) (os : OsState) : ∃ h' : Heap, h'.objs.size = 15 ∧ Hs (S1 w.params) h' ∧ Hs (V1 w.params) h' ∧ topGo treeTable pw w 11 (some (.ref 6)) 12 ⟨boot_heap w.params, #[], boot_drawn, boot_toks, os⟩ (topStub pw) = some (⟨h', #[], boot_drawn, 187, os⟩, ⟨denote treeTable cE, cE, ⟨0, 0, 0, 0⟩, B0⟩) := by
  have e := eqpre w os
  rw [show twTree = treeTable from PySem.W.Fast.te14364793385576792824.symm, show twDen = denote from PySem.W.Fast.te11892475500146522536.symm, ← PySem.W.Fast.te15667345088766844465] at e
  obtain ⟨⟨⟨h', g', d', k', os'⟩, t'⟩, e1, e2⟩ := Option.map_eq_some_iff.mp e
  simp only [Prod.mk.injEq] at e2
  obtain ⟨a1, rfl, rfl, rfl, rfl, rfl, a2⟩ := e2
  have z := hs_of_map0 a2
  exact ⟨h', a1, Hs.cons (z.at 6 rfl) Hs.nil, Hs.cons (z.at 0 rfl) (Hs.cons (z.at 1 rfl) (Hs.cons (z.at 2 rfl) (Hs.cons (z.at 3 rfl) (Hs.cons (z.at 4 rfl) (Hs.cons (z.at 5 rfl) Hs.nil))))), e1⟩
theorem blk_run (w : World) (s : Shared) : segRun treeTable pw w 11 (some (.ref 6)) 1 1 s (blockOf blk env0 cE ⟨0, 0, 0, 0⟩ B0) = some (.next, s, cE, ⟨0, 0, 0, 0⟩) := by kernel_rfl
theorem fin_run (w : World) (s : Shared) : topRun treeTable pw w 11 (some (.ref 6)) 2 s ⟨doneF .next, cE, ⟨1010, 0, 1027, 15⟩, B0⟩ = some s := by kernel_rfl
theorem blk_end : blk.drop 51 = [] := by kernel_rfl
theorem piece_take {w : World} {i k n N : Nat} {s s' x : Shared} {pos p' : Pos} (h : segRun treeTable pw w 11 (some (.ref 6)) 1 n s (piecesOf ((blk.drop i).take k) env0 cE pos B0) = some (.next, s', cE, p'))
    (r : topRun treeTable pw w 11 (some (.ref 6)) N s' (restOf (blk.drop (i + k)) env0 cE p' B0) = some x) : topRun treeTable pw w 11 (some (.ref 6)) (n + N) s (restOf (blk.drop i) env0 cE pos B0) = some x := by
  have e := piece_app (rest := blk.drop (i + k)) h r
  rw [← List.drop_drop, List.take_append_drop] at e
  exact e
theorem top_run (w : World) (os : OsState) : ∃ M, ∃ h' : Heap, h'.objs.size = 1493 ∧ Hs (S7 w.params) h' ∧ Hs (V7 w.params) h' ∧ topRun treeTable pw w 11 (some (.ref 6)) M ⟨boot_heap w.params, #[], boot_drawn, boot_toks, os⟩ (topStub pw) = some ⟨h', #[], boot_drawn, 2358, os⟩ := by
  obtain ⟨h0, a0, s0, v0, r0⟩ := pre_run w os
  obtain ⟨h1, a1, s1, v1, r1⟩ := ck1 w os h0 a0 s0 v0
  obtain ⟨h2, a2, s2, v2, r2⟩ := ck2 w os h1 a1 s1 v1
  obtain ⟨h3, a3, s3, v3, r3⟩ := ck3 w os h2 a2 s2 v2
  obtain ⟨h4, a4, s4, v4, r4⟩ := ck4 w os h3 a3 s3 v3
  obtain ⟨h5, a5, s5, v5, r5⟩ := ck5 w os h4 a4 s4 v4
  obtain ⟨h6, a6, s6, v6, r6⟩ := ck6 w os h5 a5 s5 v5
  have q6 := piece_nil (env := env0) (fin_run w ⟨h6, #[], boot_drawn, 2358, os⟩)
  rw [← blk_end] at q6
  have q5 := piece_take (i := 40) (k := 11) r6 q6
  have q4 := piece_take (i := 30) (k := 10) r5 q5
  have q3 := piece_take (i := 25) (k := 5) r4 q4
  have q2 := piece_take (i := 20) (k := 5) r3 q3
  have q1 := piece_take (i := 11) (k := 9) r2 q2
  have q0 := piece_take (i := 0) (k := 11) r1 q1
  exact ⟨_, h6, a6, s6, v6, go_top r0 (piece_block (blk_run w _) q0)⟩
section
variable {h h' : Heap} {a : Addr}
theorem isNs_congr (e : h.get? a = h'.get? a) : h.isNs a = h'.isNs a := by unfold Heap.isNs; rw [e]
theorem nsMap_congr (e : h.get? a = h'.get? a) : h.nsMap a = h'.nsMap a := by funext x; unfold Heap.nsMap; rw [e]
theorem nsKeys_congr (e : h.get? a = h'.get? a) : h.nsKeys a = h'.nsKeys a := by unfold Heap.nsKeys; rw [e]
theorem nsPairs_congr (e : h.get? a = h'.get? a) : h.nsPairs a = h'.nsPairs a := by unfold Heap.nsPairs; rw [e]
end
noncomputable def hF (P : Params) : Heap := ⟨#[o0 P, o6 P, o2_1 P, o3_6 P, o4 P], {}⟩
noncomputable def mods0 : List Str := importedModules pw.main.body
theorem good0 (P : Params) : ((hF P).isNs 0, (hF P).isNs 2, (hF P).isNs 3) = (true, true, true) := by kernel_rfl
theorem good1 (P : Params) : (hF P).bltView = bltViewBooted := by kernel_rfl
theorem good2 (P : Params) : ((hF P).accountedOkI mods0, staticsOk mods0 (boot_heap P) (hF P), namesBound pw (hF P), laidKept (boot_heap P) (hF P)) = (true, true, true, true) := by kernel_rfl
theorem good3 (P : Params) : ((boot_heap P).objs.size, (boot_heap P).nsMap mainGlobals "__annotations__", (boot_heap P).isNs mainGlobals, (hF P).nsMap mainGlobals "__builtins__") = (11, some (.ref 6), true, some (.ref 4)) := by kernel_rfl
theorem good4 : opening pw = plainProg pw.main.scope.names := by kernel_rfl
theorem good5 (s : Shared) : fenceModules? pw s = some s := by kernel_rfl
theorem get_F {h : Heap} {P : Params} (V : Hs (V7 P) h) : h.get? 0 = (hF P).get? 0 ∧ h.get? 2 = (hF P).get? 2 ∧ h.get? 3 = (hF P).get? 3 :=
  ⟨(V.at 0 rfl).trans (by kernel_rfl), (V.at 1 rfl).trans (by kernel_rfl), (V.at 2 rfl).trans (by kernel_rfl)⟩
theorem top_behind (w : World) : (∃ s, AfterRun (opening pw) w s) ∧ ∀ s, AfterRun (opening pw) w s → ∃ s₀, fenceModules? pw s = some s₀ ∧ s₀.gens = #[] ∧ ∃ s₁ : Shared, TopRan pw w s₀ s₁ ∧ s₁.asleep ∧ s₁.gens = #[] ∧
    s₁.heap.isNs mainGlobals = true ∧ s₁.heap.objs.size = 1493 ∧ Hs (S7 w.params) s₁.heap ∧ Hs (V7 w.params) s₁.heap ∧ s₁.toks = 2358 := by
  have hb := boot_open (p := pw) (N := 600) good4 rfl good5 w
  rw [← table_eq_tree] at hb
  obtain ⟨s₀, h2, h3⟩ := Option.map_eq_some_iff.mp hb
  obtain ⟨s, h4, h5⟩ := Option.bind_eq_some_iff.mp h2
  have A := AfterImport.of_importEnds h4
  refine ⟨⟨s, A⟩, fun s' hs' => ?_⟩
  obtain rfl : s' = s := AfterImport.unique hs' A
  have z : s₀.asleep := Shared.asleep_of_life (fence_lifeW h5) A.life
  obtain ⟨H, gs, dr, tk, os⟩ := s₀
  simp only [Prod.mk.injEq] at h3
  obtain ⟨rfl, rfl, rfl, rfl⟩ := h3
  obtain ⟨M, h', a1, a2, a3, a4⟩ := top_run w os
  rw [← table_eq_tree] at a4
  obtain ⟨c1, c2, c3, c4⟩ := topRun_spec _ _ _ _ z a4
  have g3 := good3 w.params
  simp only [Prod.mk.injEq] at g3
  obtain ⟨g31, g32, g33, g34⟩ := g3
  obtain ⟨f0, f2, f3⟩ := get_F a3
  have g0 := good0 w.params
  simp only [Prod.mk.injEq] at g0
  obtain ⟨g00, g02, g03⟩ := g0
  have n0 : h'.isNs builtinsNs = true := (isNs_congr f0).trans g00
  have n2 : h'.isNs cStatics = true := (isNs_congr f2).trans g02
  have n3 : h'.isNs mainGlobals = true := (isNs_congr f3).trans g03
  have gv : h'.bltView = bltViewBooted := by
    have e : h'.bltView = (hF w.params).bltView := by unfold Heap.bltView; rw [show h'.nsPairs builtinsNs = (hF w.params).nsPairs builtinsNs from nsPairs_congr f0]
    exact e.trans (good1 _)
  have g2 := good2 w.params
  simp only [Prod.mk.injEq] at g2
  obtain ⟨g21, g22, g23, g24⟩ := g2
  have m2 : h'.nsMap cStatics = (hF w.params).nsMap cStatics := nsMap_congr f2
  have m3 : h'.nsMap mainGlobals = (hF w.params).nsMap mainGlobals := nsMap_congr f3
  have k2 : h'.nsKeys cStatics = (hF w.params).nsKeys cStatics := nsKeys_congr f2
  have k3 : h'.nsKeys mainGlobals = (hF w.params).nsKeys mainGlobals := nsKeys_congr f3
  have i2 : h'.isNs cStatics = (hF w.params).isNs cStatics := isNs_congr f2
  have i3 : h'.isNs mainGlobals = (hF w.params).isNs mainGlobals := isNs_congr f3
  have q1 : h'.accountedOkI mods0 = true := by
    unfold Heap.accountedOkI at g21 ⊢
    rw [i2, k2, m2]; exact g21
  have q2 : staticsOk mods0 (boot_heap w.params) h' = true := by
    unfold staticsOk at g22 ⊢
    rw [i2, k2, m2]; exact g22
  have q3 : namesBound pw h' = true := by
    unfold namesBound at g23 ⊢
    rw [i3, k3]; exact g23
  have q4 : laidKept (boot_heap w.params) h' = true := by
    unfold laidKept at g24 ⊢
    rw [i3, m3]; exact g24
  refine ⟨_, h5, rfl, ⟨h', #[], boot_drawn, 2358, os⟩, ⟨c1, c2, Shared.rest_eq c3, fun b o hb hn => c4 b o (g31 ▸ Heap.lt_size hb) (fun q => hn (.inl q)) (fun q => hn (.inr (.inl q))) (fun q => hn (.inr (.inr ?_))) hb,
    Heap.accountedI_of_ok q1, statics_of_ok q2, Pin.keysAreStrs_of n3, fun x hx => (Pin.builtinOf_eq n0 x).trans (Heap.of_bltView n0 gv x hx), ?_, fun g hg => by simp at hg, names_of_bound q3, laid_of_kept q4⟩, Shared.asleep_of_life c2 z, rfl, n3, a1, a2, a3, rfl⟩
  · exact ((Pin.globalOf_eq g33 _).trans g32).trans q
  · refine ⟨4, o4 w.params, (Pin.globalOf_eq n3 _).trans ((congrFun m3 _).trans g34), a3.at 3 rfl, ?_, ?_⟩ <;> kernel_rfl
abbrev lw : OpenLaw := PySem.Challenge.rw_au0015_02
noncomputable def prmOf : Stmt → Arguments
  | .FunctionDef _ a _ _ _ _ _ _ _ _ => a
  | _ => default
noncomputable def scpOf : Stmt → Scope
  | .FunctionDef _ _ _ _ _ _ s _ _ _ => s
  | _ => default
abbrev lawSt : Stmt := fd0 50
theorem law_get {h : Heap} {P : Params} (S : Hs (S7 P) h) : h.get? 1492 = some (o1492 P) := S (1492, o1492 P) (List.mem_append_right _ (List.mem_of_getElem? (i := 61) rfl))
theorem the_def (w : World) (s : Shared) (hg : s.heap.isNs mainGlobals = true) (S : Hs (S7 w.params) s.heap) (V : Hs (V7 w.params) s.heap) : isTheDefsW lw.row.prog s.heap lw.row.name := by
  obtain ⟨f0, f2, f3⟩ := get_F V
  refine ⟨1492, o1492 w.params, mkFd lawSt "law" vz (vs "law_au0015_02" 2308) none (vr 1491), prmOf lawSt, bodyOf lawSt, scpOf lawSt, (Pin.globalOf_eq hg _).trans ((congrFun (nsMap_congr f3) _).trans (by kernel_rfl)), law_get S, by kernel_rfl, by kernel_rfl, by kernel_rfl, by kernel_rfl, by kernel_rfl, by kernel_rfl, by kernel_rfl, by kernel_rfl, by kernel_rfl, by kernel_rfl, .inl ⟨by kernel_rfl, by kernel_rfl⟩, [], by kernel_rfl, .inl ⟨rfl, by kernel_rfl⟩⟩
theorem law_row (k1 : lw.row.wellSaid = true) (hw : lw.row.toRowW.promised)
    (call : ∀ (w : World) (s₀ s₁ : Shared) (args : List WData) (vals : List Value) (as : List Addr), s₀.heap.objs.size = 1493 → Hs (S7 w.params) s₁.heap → Hs (V7 w.params) s₁.heap → lw.row.toRowW.claim.pre args = true → WData.layableAll args = true → Laid lw.row.toRowW.claim.records w s₀ s₁ args vals as →
      wpAny (model pw w) callerA (PySem.call (.ref 1492) vals) (fun v s' => GoodWG lw.row.toRowW.claim (classAt s₀.heap) (ExcName.means s₀.heap) args s₁ (.ok (.ret v)) s')
          (fun e s' => GoodWG lw.row.toRowW.claim (classAt s₀.heap) (ExcName.means s₀.heap) args s₁ (.error e) s') s₁) : lw.row.Holds := by
  refine ⟨k1, hw, ⟨⟨⟨rfl, rfl, rfl, rfl, rfl, by decide +kernel⟩, by kernel_rfl, rfl⟩, hw.witness, fun w => ⟨(top_behind w).1, fun s' hs' => ?_⟩⟩⟩
  obtain ⟨s₀, h5, hg0, s, hT, hz, hgens, hg, a1, S, V, ht⟩ := (top_behind w).2 s' hs'
  refine ⟨s₀, h5, hg0, s, hT, fun n hn => ?_, (fun x hx => nomatch hx), (fun x hx => nomatch hx), ?_⟩
  · obtain rfl := List.mem_singleton.mp hn
    exact the_def w s hg S V
  refine ClaimW.callFrom_of_specG (c := lw.row.toRowW.claim) (tree := fun vs => do match ← nsGet mainNs lw.row.name with
      | some f => do ret (← PySem.call f vs)
      | none => unsupported "claim.caller:no-such-global") hz hgens fun args hpre hlay ord hord => ?_
  obtain ⟨⟨vs, s₁⟩, hlaid⟩ := Option.isSome_iff_exists.mp (layAllW_isSome (R := lw.row.toRowW.claim.records) (cl := classAt s.heap) (P := w.params) (ord := ord) (fun c hc => nomatch hc) args lw.row.args s (pre_splitW (r := lw.row.toRowW) hpre).1)
  have keeps := layAllW_keeps _ _ _ hlaid
  have hal := layAllW_rest _ _ _ hlaid
  obtain ⟨as, hrd, hin, hold⟩ := reads_layAllW hord _ _ _ hlaid hlay s₁.heap (fun _ _ e => e)
  have L : Laid lw.row.toRowW.claim.records w s s₁ args vs as := ⟨⟨ord, hord, hlaid⟩, hrd, hin, hold, keeps, hal.1.trans hgens, hal.2.2.1⟩
  have S₁ : Hs (S7 w.params) s₁.heap := fun p hp => keeps _ _ (S p hp)
  have V₁ : Hs (V7 w.params) s₁.heap := fun p hp => keeps _ _ (V p hp)
  have hi := ident_freeW (r := lw.row.toRowW) rfl rfl rfl
  obtain ⟨f0, f2, f3⟩ := get_F V₁
  have hg₁ : s₁.heap.Ns mainGlobals (s₁.heap.nsMap mainGlobals) := Heap.Ns.of_isNs ((isNs_congr f3).trans (by have g0 := good0 w.params; simp only [Prod.mk.injEq] at g0; exact g0.2.2))
  have hm : s₁.heap.nsMap mainGlobals lw.row.name = some (.ref 1492) := (congrFun (nsMap_congr f3) _).trans (by kernel_rfl)
  have key := call w s s₁ args vs as a1 S₁ V₁ hpre hlay L
  refine ⟨vs, s₁, hlaid, wpAny_bind (wpAny_nsGet hg₁ ?_)⟩
  rw [hm]
  refine wpAny_bind (wpAny_mono key (fun v s' g => wpAny_pure ⟨_, rfl, ?_⟩) fun e s' g => ?_)
  all_goals (have z := g.laid (c := lw.row.toRowW.claim) rfl rfl hi L; exact ⟨z.1, z.2.1, z.2.2, fun q => nomatch q⟩)
theorem fw1 : namesResolve lw.row.prog = true := by kernel_rfl
theorem fw2 : noRoadLSs { strict := !(importedModules lw.row.prog.main.body).all cThrough.contains, foot := none, bare := (["vars", "dir", "locals"] : List Str).filter (readsOut lw.row.prog lw.row.prog.main.body) } lw.row.prog.main.body = true := by kernel_rfl
theorem fw3 : (namesMeet lw.row.prog lw.row.prog.main.body fun _ n => attrL n) = true := by kernel_rfl
theorem fw4 : looksOpen lw.row.prog = true := by unfold looksOpen; rw [fw1, fw2, fw3]; kernel_rfl
theorem fw5 : lw.row.wellSaid = true := by unfold OpenRow.wellSaid OpenRow.partSaid; rw [fw4]; kernel_rfl
theorem fw6 : (namesMeet lw.prog lw.above fun _ n => !lw.own.contains n) = true := by kernel_rfl
theorem law_ws : lw.wellSaid = true := by unfold OpenLaw.wellSaid; rw [fw5, fw6]; kernel_rfl
theorem law_said (h : lw.row.wellSaid = true → lw.row.Holds) : PySem.Challenge.rw_au0015_02.Holds := by
  w_on
  exact holds_law law_ws h
theorem law_wit : lw.row.toRowW.promised := by w_witness2
open PySem.Calls
theorem mem_of_lookup {a : Nat} {o : Obj} : ∀ {K : Frag}, K.lookup a = some o → (a, o) ∈ K
  | p :: l, e => by
    obtain ⟨b, x⟩ := p
    rw [List.lookup_cons] at e
    by_cases h : (a == b) = true
    · rw [h] at e; cases e; rw [beq_iff_eq.mp h]; exact .head _
    · rw [Bool.not_eq_true] at h; rw [h] at e; exact .tail _ (mem_of_lookup e)
noncomputable def GS1a (P : Params) : Frag := [(30, o30 P), (34, o34 P), (35, o35 P), (37, o37 P), (41, o41 P), (42, o42 P), (44, o44 P), (45, o45 P), (57, o57 P), (59, o59 P), (63, o63 P), (64, o64 P), (66, o66 P), (70, o70 P), (71, o71 P), (73, o73 P), (74, o74 P), (80, o80 P), (84, o84 P), (85, o85 P), (125, o125 P), (129, o129 P), (130, o130 P), (132, o132 P), (136, o136 P), (137, o137 P), (153, o153 P), (154, o154 P), (159, o159 P), (161, o161 P), (165, o165 P), (166, o166 P), (227, o227 P), (231, o231 P), (232, o232 P), (282, o282 P)]
noncomputable def GS1b (P : Params) : Frag := [(288, o288 P), (289, o289 P)]
noncomputable def GS1c (P : Params) : Frag := [(302, o302 P), (303, o303 P)]
theorem gs1_eq (P : Params) : GS1 P = GS1a P ++ (284, o284 P) :: (GS1b P ++ (298, o298 P) :: GS1c P) := rfl
noncomputable def KK (P : Params) : Frag := V7 P ++ (S1 P ++ (GS1a P ++ (GS1b P ++ (GS1c P ++ (GS2 P ++ (GS3 P ++ (GS4 P ++ (GS5 P ++ GS6 P))))))))
theorem kk_hs {P : Params} {h : Heap} (S : Hs (S7 P) h) (V : Hs (V7 P) h) : Hs (KK P) h := by
  have G1 : Hs (GS1 P) h := fun p hp => S p (by simp only [S7, S6, S5, S4, S3, S2, List.mem_append]; simp only [hp, true_or, or_true])
  refine V.app (Hs.app (fun p hp => S p (by simp only [S7, S6, S5, S4, S3, S2, List.mem_append]; simp only [hp, true_or, or_true])) ?_)
  refine Hs.app (fun p hp => G1 p (by rw [gs1_eq]; simp only [List.mem_append, List.mem_cons, hp, true_or, or_true])) ?_
  refine Hs.app (fun p hp => G1 p (by rw [gs1_eq]; simp only [List.mem_append, List.mem_cons, hp, true_or, or_true])) ?_
  refine Hs.app (fun p hp => G1 p (by rw [gs1_eq]; simp only [List.mem_append, List.mem_cons, hp, true_or, or_true])) ?_
  refine Hs.app (fun p hp => S p (by simp only [S7, S6, S5, S4, S3, S2, List.mem_append]; simp only [hp, true_or, or_true])) ?_
  refine Hs.app (fun p hp => S p (by simp only [S7, S6, S5, S4, S3, S2, List.mem_append]; simp only [hp, true_or, or_true])) ?_
  refine Hs.app (fun p hp => S p (by simp only [S7, S6, S5, S4, S3, S2, List.mem_append]; simp only [hp, true_or, or_true])) ?_
  refine Hs.app (fun p hp => S p (by simp only [S7, S6, S5, S4, S3, S2, List.mem_append]; simp only [hp, true_or, or_true])) ?_
  exact fun p hp => S p (by simp only [S7, S6, S5, S4, S3, S2, List.mem_append]; simp only [hp, true_or, or_true])
theorem hs_in {K : Frag} {h : Heap} (H : Hs K h) : K.In h := fun a o e => H (a, o) (mem_of_lookup e)
theorem kk_off {P : Params} : ((KK P).map (·.1)).all (fun a => a != 284 && a != 298) = true := by kernel_rfl
inductive E where
  | con (x : Str) | iv (x : Str) | app (f a : E) | neg (t : E) | and (a b : E) | or (a b : E) | imp (a b : E) | all (x : Str) (t : E) | ex (x : Str) (t : E)
noncomputable abbrev PM := Nat → Option Obj
noncomputable def Ge (g g' : PM) : Prop := ∀ a o, g a = some o → g' a = some o
theorem Ge.refl (g : PM) : Ge g g := fun _ _ e => e
theorem Ge.trans {g g' g'' : PM} (x : Ge g g') (y : Ge g' g'') : Ge g g'' := fun a o e => y a o (x a o e)
noncomputable abbrev Flds := List (Str × Tok × Value)
noncomputable def mkEs (P : Params) (l : Flds) : List DictEntry := l.map fun p => ⟨PyData.keyHash P p.1, .str p.1 p.2.1, p.2.2⟩
noncomputable def mkD (P : Params) (l : Flds) : Obj := dictOf (mkEs P l) l.length
inductive AV where
  | e (x : E) | var (x : Str) | int (i : Int) | bool (b : Bool) | none | str (s : Str) | tup (l : List AV) | lst (l : List AV)
noncomputable def tupObj (vs : List Value) : Obj := { cls := .type "tuple", data := .seq vs.toArray }
section
variable (P : Params) (g : PM)
noncomputable def InsF (a C : Addr) (l : Flds) : Prop := ∃ d, g a = some (instObj C d) ∧ g d = some (mkD P l)
noncomputable def IsVar (a : Addr) (x : Str) : Prop := ∃ t t', InsF P g a 154 [("name", t, .str x t')]
inductive Ji1 (a C : Addr) (n : Str) (p : Addr → Prop) : Prop | mk (t : Tok) (v : Addr) (x : InsF P g a C [(n, t, .ref v)]) (y : p v)
inductive Ji2 (a C : Addr) (n m : Str) (p q : Addr → Prop) : Prop | mk (t u : Tok) (v w : Addr) (x : InsF P g a C [(n, t, .ref v), (m, u, .ref w)]) (y : p v) (z : q w)
noncomputable def IsE : E → Addr → Prop
  | .con x, a => Ji1 P g a 603 "variable" fun v => IsVar P g v x
  | .iv x, a => Ji1 P g a 539 "variable" fun v => IsVar P g v x
  | .app f x, a => Ji2 P g a 451 "function" "argument" (fun v => IsE f v) fun w => IsE x w
  | .neg f, a => Ji1 P g a 842 "term" fun v => IsE f v
  | .and f x, a => Ji2 P g a 941 "first" "second" (fun v => IsE f v) fun w => IsE x w
  | .or f x, a => Ji2 P g a 981 "first" "second" (fun v => IsE f v) fun w => IsE x w
  | .imp f x, a => Ji2 P g a 1014 "first" "second" (fun v => IsE f v) fun w => IsE x w
  | .all x f, a => Ji2 P g a 788 "variable" "term" (fun v => IsVar P g v x) fun w => IsE f w
  | .ex x f, a => Ji2 P g a 755 "variable" "term" (fun v => IsVar P g v x) fun w => IsE f w
mutual
noncomputable def RelV : AV → Value → Prop
  | .e x, v => ∃ a, v = .ref a ∧ IsE P g x a
  | .var x, v => ∃ a, v = .ref a ∧ IsVar P g a x
  | .int i, v => ∃ t, v = .int i t
  | .bool b, v => v = .bool b
  | .none, v => v = .none
  | .str s, v => ∃ t, v = .str s t
  | .tup l, v => ∃ a vs, v = .ref a ∧ g a = some (tupObj vs) ∧ RelL l vs
  | .lst l, v => ∃ a vs n, v = .ref a ∧ g a = some (W.listOf vs.toArray n) ∧ RelL l vs
noncomputable def RelL : List AV → List Value → Prop
  | [], vs => vs = []
  | x :: xs, vs => ∃ v r, vs = v :: r ∧ RelV x v ∧ RelL xs r
end
end
section
variable {P : Params} {g g' : PM}
theorem InsF.mono (k : Ge g g') {a C : Addr} {l : Flds} : InsF P g a C l → InsF P g' a C l := fun ⟨d, x, y⟩ => ⟨d, k _ _ x, k _ _ y⟩
theorem IsVar.mono (k : Ge g g') {a : Addr} {x : Str} : IsVar P g a x → IsVar P g' a x := fun ⟨t, t', y⟩ => ⟨t, t', y.mono k⟩
theorem Ji1.mono (k : Ge g g') {a C : Addr} {n : Str} {p p' : Addr → Prop} (h : ∀ v, p v → p' v) : Ji1 P g a C n p → Ji1 P g' a C n p' := fun ⟨t, v, x, y⟩ => ⟨t, v, x.mono k, h v y⟩
theorem Ji2.mono (k : Ge g g') {a C : Addr} {n m : Str} {p p' q q' : Addr → Prop} (h : ∀ v, p v → p' v) (h' : ∀ v, q v → q' v) : Ji2 P g a C n m p q → Ji2 P g' a C n m p' q' := fun ⟨t, u, v, w, x, y, z⟩ => ⟨t, u, v, w, x.mono k, h v y, h' w z⟩
theorem IsE.mono (k : Ge g g') {x : E} : ∀ {a : Addr}, IsE P g x a → IsE P g' x a := by
  induction x with
  | con n => exact fun h => Ji1.mono k (fun _ => IsVar.mono k) h
  | iv n => exact fun h => Ji1.mono k (fun _ => IsVar.mono k) h
  | neg _ i => exact fun h => Ji1.mono k (fun _ => i) h
  | all _ _ i => exact fun h => Ji2.mono k (fun _ => IsVar.mono k) (fun _ => i) h
  | ex _ _ i => exact fun h => Ji2.mono k (fun _ => IsVar.mono k) (fun _ => i) h
  | _ _ _ i i' => exact fun h => Ji2.mono k (fun _ => i) (fun _ => i') h
mutual
theorem RelV.mono (k : Ge g g') : ∀ {x : AV} {v : Value}, RelV P g x v → RelV P g' x v
  | .e _, _, h => Exists.elim h fun a q => Exists.intro a ⟨q.1, q.2.mono k⟩
  | .var _, _, h => Exists.elim h fun a q => Exists.intro a ⟨q.1, q.2.mono k⟩
  | .int _, _, h => h
  | .bool _, _, h => h
  | .none, _, h => h
  | .str _, _, h => h
  | .tup _, _, h => Exists.elim h fun a q => Exists.elim q fun vs q => Exists.intro a ⟨vs, q.1, k _ _ q.2.1, RelL.mono k q.2.2⟩
  | .lst _, _, h => Exists.elim h fun a q => Exists.elim q fun vs q => Exists.elim q fun n q => Exists.intro a ⟨vs, n, q.1, k _ _ q.2.1, RelL.mono k q.2.2⟩
theorem RelL.mono (k : Ge g g') : ∀ {x : List AV} {v : List Value}, RelL P g x v → RelL P g' x v
  | [], _, h => h
  | _ :: _, _, h => Exists.elim h fun v q => Exists.elim q fun r q => Exists.intro v ⟨r, q.1, RelV.mono k q.2.1, RelL.mono k q.2.2⟩
end
end
inductive Cell where
  | ns (a : Addr) (m : List (Str × Value)) | li (a : Addr) (vs : List Value) | di (a : Addr) (l : Flds) | ob (a : Addr) (o : Obj) | pr (a : Addr) (q : Obj → Prop)
@[reducible] noncomputable def Cell.a : Cell → Addr
  | .ns a _ => a | .li a _ => a | .di a _ => a | .ob a _ => a | .pr a _ => a
noncomputable def Cell.ok (P : Params) (h : Heap) : Cell → Prop
  | .ns a m => h.Ns a (fun x => m.lookup x)
  | .li a vs => h.PlainList a vs.toArray
  | .di a l => h.get? a = some (mkD P l)
  | .ob a o => h.get? a = some o
  | .pr a q => ∃ o, h.get? a = some o ∧ q o
inductive Fact where
  | v (v : Value) (a : AV) | l (vs : List Value) (as : List AV) | ins (a C : Addr) (l : Flds) | ob (a : Addr) (o : Obj) | li (a : Addr) (vs : List Value) | di (a : Addr) (l : Flds)
noncomputable def Fact.ok (P : Params) (g : PM) : Fact → Prop
  | .v x y => RelV P g y x
  | .l xs ys => RelL P g ys xs
  | .ins x C r => InsF P g x C r
  | .ob x o => g x = some o
  | .li x xs => ∃ n, g x = some (W.listOf xs.toArray n)
  | .di x r => g x = some (mkD P r)
theorem Fact.mono {P : Params} {g g' : PM} (k : Ge g g') : ∀ {f : Fact}, f.ok P g → f.ok P g'
  | .v _ _, h => RelV.mono k h
  | .l _ _, h => RelL.mono k h
  | .ins _ _ _, h => InsF.mono k h
  | .ob _ _, h => k _ _ h
  | .li _ _, ⟨n, h⟩ => ⟨n, k _ _ h⟩
  | .di _ _, h => k _ _ h
theorem Cell.lt {P : Params} {h : Heap} : ∀ {c : Cell}, c.ok P h → c.a < h.objs.size
  | .ns _ _, x => x.lt
  | .li _ _, ⟨_, x⟩ => Heap.lt_size x
  | .di _ _, x => Heap.lt_size x
  | .ob _ _, x => Heap.lt_size x
  | .pr _ _, ⟨_, x, _⟩ => Heap.lt_size x
theorem Cell.keep {P : Params} {h h' : Heap} : ∀ {c : Cell}, (∀ o, h.get? c.a = some o → h'.get? c.a = some o) → c.ok P h → c.ok P h'
  | .ns _ _, k, ⟨o, es, ep, x, r⟩ => ⟨o, es, ep, k _ x, r⟩
  | .li _ _, k, ⟨n, x⟩ => ⟨n, k _ x⟩
  | .di _ _, k, x => k _ x
  | .ob _ _, k, x => k _ x
  | .pr _ _, k, ⟨o, x, y⟩ => ⟨o, k _ x, y⟩
noncomputable def volA (a : Addr) : Bool := a == 284 || a == 298
structure Vol where
  t : Addr
  pos : Pos
  q : Str
noncomputable def Vol.ok (h : Heap) (g : PM) (v : Vol) : Prop := ∃ ps : Array Value, h.get? v.t = some (tabObj ps) ∧ TriplesOk ps.toList ∧
  (codeAmong v.pos ps.toList = none ∨ ∃ c' o vs tk, codeAmong v.pos ps.toList = some (.ref c') ∧ g c' = some o ∧ o.data = .fields vs ∧ vs[1]? = some (.str v.q tk))
theorem Vol.ok.keep {h h' : Heap} {g g' : PM} {v : Vol} (k : Ge g g') (e : ∀ o, h.get? v.t = some o → h'.get? v.t = some o) : v.ok h g → v.ok h' g'
  | ⟨ps, a, b, c⟩ => ⟨ps, e _ a, b, c.imp id fun ⟨c', o, vs, tk, x, y, z⟩ => ⟨c', o, vs, tk, x, k _ _ y, z⟩⟩
noncomputable def vols : List Vol := [⟨284, ⟨154, 37, 154, 108⟩, "Expression.replace.<locals>.<lambda>"⟩, ⟨298, ⟨160, 36, 160, 67⟩, "Expression.visit_structured.<locals>.<lambda>"⟩]
theorem vols_vol : ∀ v ∈ vols, volA v.t = true := by intro v hv; simp only [vols, List.mem_cons, List.not_mem_nil, or_false] at hv; rcases hv with rfl | rfl <;> rfl
structure Stg (w : World) (S₀ : Shared) (g : PM) (cs : List Cell) (s : Shared) : Prop where
  hs : Hs (KK w.params) S₀.heap
  sh : s = { S₀ with heap := s.heap, toks := s.toks }
  base : ∀ a o, S₀.heap.get? a = some o → volA a = false → g a = some o
  sub : ∀ a o, g a = some o → s.heap.get? a = some o
  gv : ∀ a, volA a = true → g a = none
  cells : ∀ c ∈ cs, c.ok w.params s.heap
  off : ∀ c ∈ cs, g c.a = none ∧ volA c.a = false
  nod : (cs.map Cell.a).Nodup
  tab : ∀ v ∈ vols, v.ok s.heap g
  up : ∀ c ∈ cs, S₀.heap.objs.size ≤ c.a
  big : S₀.heap.objs.size ≤ s.heap.objs.size
noncomputable def St (w : World) (S₀ : Shared) (cs : List Cell) (fs : List Fact) (s : Shared) : Prop := ∃ g, Stg w S₀ g cs s ∧ ∀ f ∈ fs, f.ok w.params g
section
variable {w : World} {S₀ s : Shared} {g : PM} {cs cs' : List Cell} {fs : List Fact}
theorem vol_lt {h : Heap} (t : ∀ v ∈ vols, v.ok h g) {a : Addr} (ha : volA a = true) : a < h.objs.size := by
  unfold volA at ha
  rcases Bool.or_eq_true_iff.mp ha with q | q
  · obtain ⟨ps, e, _⟩ := t _ (.head _)
    rw [beq_iff_eq.mp q]; exact Heap.lt_size e
  · obtain ⟨ps, e, _⟩ := t _ (.tail _ (.head _))
    rw [beq_iff_eq.mp q]; exact Heap.lt_size e
theorem Stg.fresh (X : Stg w S₀ g cs s) {a : Addr} (ha : s.heap.objs.size ≤ a) : g a = none ∧ volA a = false ∧ ∀ c ∈ cs, c.a ≠ a := by
  refine ⟨?_, ?_, fun c hc e => ?_⟩
  · cases q : g a with
    | none => rfl
    | some o => exact absurd (Heap.lt_size (X.sub _ _ q)) (Nat.not_lt.mpr ha)
  · cases q : volA a with
    | false => rfl
    | true => exact absurd (vol_lt X.tab q) (Nat.not_lt.mpr ha)
  · exact absurd (Cell.lt (X.cells c hc)) (Nat.not_lt.mpr (e ▸ ha))
theorem Stg.grow (X : Stg w S₀ g cs s) {h' : Heap} {tk : Tok} (k : ∀ b o, s.heap.get? b = some o → h'.get? b = some o) (z : s.heap.objs.size ≤ h'.objs.size) : Stg w S₀ g cs { s with heap := h', toks := tk } :=
  ⟨X.hs, by have := X.sh; rw [this], X.base, fun a o e => k _ _ (X.sub a o e), X.gv, fun c hc => Cell.keep (fun o e => k _ o e) (X.cells c hc), X.off, X.nod, fun v hv => Vol.ok.keep (Ge.refl _) (fun o e => k _ o e) (X.tab v hv), X.up, Nat.le_trans X.big z⟩
noncomputable def pPut (g : PM) (a : Addr) (o : Obj) : PM := fun b => if b = a then some o else g b
theorem Stg.addF (X : Stg w S₀ g cs s) {a : Addr} {o : Obj} (ha : s.heap.get? a = some o) (hv : volA a = false) (hc : ∀ c ∈ cs, c.a ≠ a) : Stg w S₀ (pPut g a o) cs s ∧ Ge g (pPut g a o) ∧ pPut g a o a = some o := by
  have k : Ge g (pPut g a o) := fun b o' e => by
    unfold pPut
    by_cases h : b = a
    · subst h; rw [if_pos rfl]; rw [X.sub _ _ e] at ha; exact ha.symm
    · rw [if_neg h]; exact e
  refine ⟨⟨X.hs, X.sh, fun b o' e v => k _ _ (X.base b o' e v), fun b o' e => ?_, fun b v => ?_, X.cells, fun c h => ⟨?_, (X.off c h).2⟩, X.nod, fun v h => Vol.ok.keep k (fun _ e => e) (X.tab v h), X.up, X.big⟩, k, if_pos rfl⟩
  · unfold pPut at e
    by_cases h : b = a
    · subst h; rw [if_pos rfl] at e; cases e; exact ha
    · rw [if_neg h] at e; exact X.sub _ _ e
  · unfold pPut
    by_cases h : b = a
    · subst h; rw [v] at hv; cases hv
    · rw [if_neg h]; exact X.gv _ v
  · unfold pPut; rw [if_neg (hc c h)]; exact (X.off c h).1
theorem Stg.addC (X : Stg w S₀ g cs s) {c : Cell} (h : c.ok w.params s.heap) (h1 : g c.a = none) (h2 : volA c.a = false) (h3 : ∀ d ∈ cs, d.a ≠ c.a) (h4 : S₀.heap.objs.size ≤ c.a) : Stg w S₀ g (c :: cs) s :=
  ⟨X.hs, X.sh, X.base, X.sub, X.gv, fun d hd => (List.mem_cons.mp hd).elim (fun q => q ▸ h) (X.cells d), fun d hd => (List.mem_cons.mp hd).elim (fun q => q ▸ ⟨h1, h2⟩) (X.off d),
    by rw [List.map_cons, List.nodup_cons]; exact ⟨fun q => by obtain ⟨d, hd, e⟩ := List.mem_map.mp q; exact h3 d hd e, X.nod⟩, X.tab,
    fun d hd => (List.mem_cons.mp hd).elim (fun q => q ▸ h4) (X.up d), X.big⟩
theorem Stg.weak (X : Stg w S₀ g cs s) (h : cs'.Sublist cs) : Stg w S₀ g cs' s :=
  ⟨X.hs, X.sh, X.base, X.sub, X.gv, fun c hc => X.cells c (h.subset hc), fun c hc => X.off c (h.subset hc), (h.map _).nodup X.nod, X.tab, fun c hc => X.up c (h.subset hc), X.big⟩
theorem Stg.perm (X : Stg w S₀ g cs s) (h : cs'.Perm cs) : Stg w S₀ g cs' s :=
  ⟨X.hs, X.sh, X.base, X.sub, X.gv, fun c hc => X.cells c (h.subset hc), fun c hc => X.off c (h.subset hc), (h.map _).nodup_iff.mpr X.nod, X.tab, fun c hc => X.up c (h.subset hc), X.big⟩
inductive Upd : Cell → Cell → List Cell → List Cell → Prop where
  | head {c c' cs} : Upd c c' (c :: cs) (c' :: cs)
  | tail {c c' d cs cs'} : Upd c c' cs cs' → Upd c c' (d :: cs) (d :: cs')
theorem Upd.mem {c c' : Cell} {cs cs' : List Cell} (U : Upd c c' cs cs') : c ∈ cs := by
  induction U with
  | head => exact .head _
  | tail _ ih => exact .tail _ ih
theorem Upd.addr {c c' : Cell} {cs cs' : List Cell} (U : Upd c c' cs cs') (e : c'.a = c.a) : cs'.map Cell.a = cs.map Cell.a := by
  induction U with
  | head => rw [List.map_cons, List.map_cons, e]
  | tail _ ih => rw [List.map_cons, List.map_cons, ih]
theorem Upd.each {c c' : Cell} {cs cs' : List Cell} (U : Upd c c' cs cs') (n : (cs.map Cell.a).Nodup) : ∀ d ∈ cs', d = c' ∨ (d ∈ cs ∧ d.a ≠ c.a) := by
  induction U with
  | head =>
    intro d hd
    rcases List.mem_cons.mp hd with rfl | hd
    · exact .inl rfl
    · refine .inr ⟨.tail _ hd, fun q => ?_⟩
      rw [List.map_cons, List.nodup_cons] at n
      exact n.1 (q ▸ List.mem_map_of_mem hd)
  | tail U ih =>
    intro d hd
    rw [List.map_cons, List.nodup_cons] at n
    rcases List.mem_cons.mp hd with rfl | hd
    · exact .inr ⟨.head _, fun q => n.1 (q ▸ List.mem_map_of_mem U.mem)⟩
    · exact (ih n.2 d hd).imp id fun z => ⟨.tail _ z.1, z.2⟩
theorem Stg.upd (X : Stg w S₀ g cs s) {c c' : Cell} (U : Upd c c' cs cs') {h' : Heap} {tk : Tok} (hb : Heap.SameBut c.a s.heap h') (e : c'.a = c.a) (ok : c'.ok w.params h') : Stg w S₀ g cs' { s with heap := h', toks := tk } := by
  have ho := X.off c U.mem
  have ne : ∀ {b o}, g b = some o → b ≠ c.a := fun e q => by rw [q, ho.1] at e; cases e
  refine ⟨X.hs, by have := X.sh; rw [this], X.base, fun a o z => (hb.2 a (ne z)).trans (X.sub a o z), X.gv, fun d hd => ?_, fun d hd => ?_, (U.addr e) ▸ X.nod, fun v hv => Vol.ok.keep (Ge.refl _) (fun o z => (hb.2 _ fun q => ?_).trans z) (X.tab v hv), fun d hd => ?_, by show _ ≤ h'.objs.size; rw [hb.1]; exact X.big⟩
  · rcases U.each X.nod d hd with rfl | ⟨h1, h2⟩
    · exact ok
    · exact Cell.keep (fun o z => (hb.2 _ h2).trans z) (X.cells d h1)
  · rcases U.each X.nod d hd with rfl | ⟨h1, h2⟩
    · rw [e]; exact ho
    · exact X.off d h1
  · have := vols_vol v hv; rw [q, ho.2] at this; cases this
  · rcases U.each X.nod d hd with rfl | ⟨h1, h2⟩
    · rw [e]; exact X.up _ U.mem
    · exact X.up d h1
theorem Stg.kin (X : Stg w S₀ g cs s) : (KK w.params).In s.heap := fun a o e => X.sub _ _ (X.base _ _ (hs_in X.hs a o e) (by
  have z := List.all_eq_true.mp (kk_off (P := w.params)) a (List.mem_map_of_mem (mem_of_lookup e))
  unfold volA
  cases h1 : a == 284 <;> cases h2 : a == 298 <;> first | rfl | (simp [bne, h1, h2] at z)))
theorem St.kin (C : St w S₀ cs fs s) : (KK w.params).In s.heap := let ⟨_, X, _⟩ := C; X.kin
theorem St.fact (C : St w S₀ cs fs s) {f : Fact} (h : ∀ g, (∀ f ∈ fs, f.ok w.params g) → f.ok w.params g) : St w S₀ cs (f :: fs) s :=
  let ⟨g, X, Y⟩ := C; ⟨g, X, fun f hf => (List.mem_cons.mp hf).elim (fun q => q ▸ h g Y) (Y f)⟩
theorem St.weakF {fs' : List Fact} (C : St w S₀ cs fs s) (h : ∀ f ∈ fs', f ∈ fs) : St w S₀ cs fs' s := let ⟨g, X, Y⟩ := C; ⟨g, X, fun f hf => Y f (h f hf)⟩
theorem St.weakC (C : St w S₀ cs fs s) (h : cs'.Sublist cs) : St w S₀ cs' fs s := let ⟨g, X, Y⟩ := C; ⟨g, X.weak h, Y⟩
theorem St.permC (C : St w S₀ cs fs s) (h : cs'.Perm cs) : St w S₀ cs' fs s := let ⟨g, X, Y⟩ := C; ⟨g, X.perm h, Y⟩
theorem St.drop {c : Cell} (C : St w S₀ (c :: cs) fs s) : St w S₀ cs fs s := C.weakC (List.sublist_cons_self _ _)
theorem St.cell (C : St w S₀ cs fs s) {c : Cell} (h : c ∈ cs) : c.ok w.params s.heap := let ⟨_, X, _⟩ := C; X.cells c h
theorem St.grow (C : St w S₀ cs fs s) {h' : Heap} {tk : Tok} (k : ∀ b o, s.heap.get? b = some o → h'.get? b = some o) (z : s.heap.objs.size ≤ h'.objs.size) : St w S₀ cs fs { s with heap := h', toks := tk } :=
  let ⟨g, X, Y⟩ := C; ⟨g, X.grow k z, Y⟩
theorem St.tick (C : St w S₀ cs fs s) {tk : Tok} : St w S₀ cs fs { s with toks := tk } := C.grow (h' := s.heap) (fun _ _ e => e) (Nat.le_refl _)
theorem St.upd (C : St w S₀ cs fs s) {c c' : Cell} (U : Upd c c' cs cs') {h' : Heap} {tk : Tok} (hb : Heap.SameBut c.a s.heap h') (e : c'.a = c.a) (ok : c'.ok w.params h') : St w S₀ cs' fs { s with heap := h', toks := tk } :=
  let ⟨g, X, Y⟩ := C; ⟨g, X.upd U hb e ok, Y⟩
theorem St.pushF (C : St w S₀ cs fs s) (o : Obj) (hf : o.isFreed = false) {tk : Tok} : St w S₀ cs (.ob s.heap.objs.size o :: fs) { s with heap := s.heap.push o, toks := tk } := by
  obtain ⟨g, X, Y⟩ := C
  have F := X.fresh (Nat.le_refl _)
  obtain ⟨Z, k, e⟩ := (X.grow (h' := s.heap.push o) (tk := tk) (fun b ob z => Heap.get?_push_of_some _ z) (by rw [Heap.size_push]; exact Nat.le_succ _)).addF (a := s.heap.objs.size) (o := o) (Heap.get?_push_size _ hf) F.2.1 F.2.2
  exact ⟨_, Z, fun f hf => (List.mem_cons.mp hf).elim (fun q => q ▸ e) fun hf => Fact.mono k (Y f hf)⟩
theorem St.pushC (C : St w S₀ cs fs s) (c : Cell) (o : Obj) (ha : c.a = s.heap.objs.size) (ok : c.ok w.params (s.heap.push o)) {tk : Tok} : St w S₀ (c :: cs) fs { s with heap := s.heap.push o, toks := tk } := by
  obtain ⟨g, X, Y⟩ := C
  have F := X.fresh (a := c.a) (Nat.le_of_eq ha.symm)
  exact ⟨g, (X.grow (h' := s.heap.push o) (tk := tk) (fun b ob z => Heap.get?_push_of_some _ z) (by rw [Heap.size_push]; exact Nat.le_succ _)).addC ok F.1 F.2.1 F.2.2 (ha ▸ X.big), Y⟩
theorem St.freeze {c : Cell} {a : Addr} {o : Obj} (C : St w S₀ (c :: cs) fs s) (ha : c.a = a) (e : s.heap.get? a = some o) : St w S₀ cs (.ob a o :: fs) s := by
  obtain ⟨g, X, Y⟩ := C
  subst ha
  have hn := X.nod
  rw [List.map_cons, List.nodup_cons] at hn
  obtain ⟨Z, k, z⟩ := (X.weak (List.sublist_cons_self _ _)).addF e (X.off c (.head _)).2 fun d hd q => hn.1 (q ▸ List.mem_map_of_mem hd)
  exact ⟨_, Z, fun f hf => (List.mem_cons.mp hf).elim (fun q => q ▸ z) fun hf => Fact.mono k (Y f hf)⟩
theorem St.freezeD {a : Addr} {l : Flds} (C : St w S₀ (.di a l :: cs) fs s) : St w S₀ cs (.di a l :: fs) s := by
  obtain ⟨g, X, Y⟩ := C.freeze rfl (C.cell (.head _))
  have e : g a = some (mkD w.params l) := Y _ (.head _)
  exact ⟨g, X, fun f hf => (List.mem_cons.mp hf).elim (fun q => q ▸ e) fun hf => Y f (.tail _ hf)⟩
theorem St.freezeL {a : Addr} {vs : List Value} (C : St w S₀ (.li a vs :: cs) fs s) : St w S₀ cs (.li a vs :: fs) s := by
  obtain ⟨n, e⟩ := C.cell (.head _)
  obtain ⟨g, X, Y⟩ := C.freeze rfl e
  exact ⟨g, X, fun f hf => (List.mem_cons.mp hf).elim (fun q => q ▸ ⟨n, Y _ (.head _)⟩) fun hf => Y f (.tail _ hf)⟩
end
noncomputable def H₀ (S₀ : Shared) : Heap := hideAll S₀.heap [284, 298]
section
variable {w : World} {S₀ s : Shared} {g : PM} {cs cs' : List Cell} {fs : List Fact} {L : Addr} {m : List (Str × Value)}
theorem Stg.kin0 (X : Stg w S₀ g cs s) : (KK w.params).In (H₀ S₀) := fun a o e => hideAll_get _ (hs_in X.hs a o e) (by
  have z := List.all_eq_true.mp (kk_off (P := w.params)) a (List.mem_map_of_mem (mem_of_lookup e))
  rw [Bool.and_eq_true, bne_iff_ne, bne_iff_ne] at z
  intro q
  simp only [List.mem_cons, List.not_mem_nil, or_false] at q
  exact q.elim z.1 z.2)
theorem Stg.fr (X : Stg w S₀ g cs s) (h : Cell.ns L m ∈ cs) : Fr (H₀ S₀) L s.heap (fun x => m.lookup x) := by
  refine ⟨X.cells _ h, fun b o e => ?_, ?_⟩
  · refine X.sub _ _ (X.base _ _ (of_hideAll _ e) ?_)
    cases q : volA b with
    | false => rfl
    | true =>
      have : (hideAll S₀.heap [284, 298]).get? b = none := hideAll_none _ (by
        unfold volA at q
        rcases Bool.or_eq_true_iff.mp q with q | q
        · rw [beq_iff_eq.mp q]; exact .head _
        · rw [beq_iff_eq.mp q]; exact .tail _ (.head _))
      unfold H₀ at e; rw [this] at e; cases e
  · show (hideAll S₀.heap [284, 298]).objs.size ≤ L
    rw [hideAll_size]; exact X.up _ h
theorem St.kin0 (C : St w S₀ cs fs s) : (KK w.params).In (H₀ S₀) := let ⟨_, X, _⟩ := C; X.kin0
theorem St.fr (C : St w S₀ cs fs s) (h : Cell.ns L m ∈ cs) : Fr (H₀ S₀) L s.heap (fun x => m.lookup x) := let ⟨_, X, _⟩ := C; X.fr h
end
noncomputable abbrev FnAtB (P : Params) (f : Addr) (fd : FuncData) : Prop := some ⟨.type "function", none, .func fd, #[]⟩ = (KK P).lookup f
noncomputable abbrev FnChk (P : Params) (f : Addr) (fd : FuncData) : Prop := true = (codeIn (KK P) fd.code fd.qualname && keepIn (KK P) (.ref f) && (typeIn (KK P) (.ref f) == some (.type "function")))
noncomputable abbrev FnFl (fd : FuncData) : Prop := true = (!fd.scope.isCoroutine && !fd.scope.isGenerator && fd.scope.kind == .function)
noncomputable abbrev FnBody (fd : FuncData) (body : List Stmt) : Prop := .stmts body = fd.body
structure FnOk (f : Addr) (fd : FuncData) (body : List Stmt) : Prop where
  at0 : ∀ P, FnAtB P f fd
  chk : ∀ P, FnChk P f fd
  fl : FnFl fd
  bod : FnBody fd body
section
variable {f : Addr} {fd : FuncData} {bdy : List Stmt}
theorem FnOk.all (o : FnOk f fd bdy) (P : Params) : ((codeIn (KK P) fd.code fd.qualname = true) ∧ keepIn (KK P) (.ref f) = true) ∧ typeIn (KK P) (.ref f) = some (.type "function") := by
  have h := (o.chk P).symm
  simpa only [Bool.and_eq_true, beq_iff_eq] using h
theorem FnOk.fla (o : FnOk f fd bdy) : (fd.scope.isCoroutine = false ∧ fd.scope.isGenerator = false) ∧ fd.scope.kind = .function := by
  have h := o.fl.symm
  simpa only [Bool.and_eq_true, beq_iff_eq, Bool.not_eq_true'] using h
theorem FnOk.at_ (o : FnOk f fd bdy) (P : Params) : ∃ oc od sl, (KK P).lookup f = some ⟨oc, od, .func fd, sl⟩ := ⟨_, _, _, (o.at0 P).symm⟩
theorem FnOk.code (o : FnOk f fd bdy) (P : Params) : codeIn (KK P) fd.code fd.qualname = true := (o.all P).1.1
theorem FnOk.body (o : FnOk f fd bdy) : fd.body = .stmts bdy := o.bod.symm
theorem FnOk.keep (o : FnOk f fd bdy) (P : Params) : keepIn (KK P) (.ref f) = true := (o.all P).1.2
theorem FnOk.typ (o : FnOk f fd bdy) (P : Params) : typeIn (KK P) (.ref f) = some (.type "function") := (o.all P).2
theorem FnOk.flags (o : FnOk f fd bdy) : (fd.scope.isCoroutine, fd.scope.isGenerator) = (false, false) := by rw [o.fla.1.1, o.fla.1.2]
theorem FnOk.kind (o : FnOk f fd bdy) : fd.scope.kind = .function := o.fla.2
end
noncomputable def F35 : FuncData := mkFd (fd1 2 0) "Deadline.__init__" vz (vs "nltk.inference.resolution" 194) none (vr 34)
theorem ok35 : FnOk 35 F35 (bodyOf (fd1 2 0)) := ⟨fun P => by kernel_rfl, fun P => by kernel_rfl, by kernel_rfl, by kernel_rfl⟩ -- Deadline.__init__
noncomputable def F42 : FuncData := mkFd (fd1 2 1) "Deadline.passed" vz (vs "nltk.inference.resolution" 194) none (vr 41)
theorem ok42 : FnOk 42 F42 (bodyOf (fd1 2 1)) := ⟨fun P => by kernel_rfl, fun P => by kernel_rfl, by kernel_rfl, by kernel_rfl⟩ -- Deadline.passed
noncomputable def F64 : FuncData := mkFd (fd1 4 0) "Counter.__init__" (vr 57) (vs "nltk.sem.logic" 232) none (vr 63)
theorem ok64 : FnOk 64 F64 (bodyOf (fd1 4 0)) := ⟨fun P => by kernel_rfl, fun P => by kernel_rfl, by kernel_rfl, by kernel_rfl⟩ -- Counter.__init__
noncomputable def F71 : FuncData := mkFd (fd1 4 1) "Counter.get" vz (vs "nltk.sem.logic" 232) none (vr 70)
theorem ok71 : FnOk 71 F71 (bodyOf (fd1 4 1)) := ⟨fun P => by kernel_rfl, fun P => by kernel_rfl, by kernel_rfl, by kernel_rfl⟩ -- Counter.get
noncomputable def F85 : FuncData := mkFd (fd0 5) "_union" vz (vs "nltk.sem.logic" 232) none (vr 84)
theorem ok85 : FnOk 85 F85 (bodyOf (fd0 5)) := ⟨fun P => by kernel_rfl, fun P => by kernel_rfl, by kernel_rfl, by kernel_rfl⟩ -- _union
noncomputable def F130 : FuncData := mkFd (fd1 7 0) "Variable.__init__" vz (vs "nltk.sem.logic" 232) none (vr 129)
theorem ok130 : FnOk 130 F130 (bodyOf (fd1 7 0)) := ⟨fun P => by kernel_rfl, fun P => by kernel_rfl, by kernel_rfl, by kernel_rfl⟩ -- Variable.__init__
noncomputable def F137 : FuncData := mkFd (fd1 7 1) "Variable.__eq__" vz (vs "nltk.sem.logic" 232) none (vr 136)
theorem ok137 : FnOk 137 F137 (bodyOf (fd1 7 1)) := ⟨fun P => by kernel_rfl, fun P => by kernel_rfl, by kernel_rfl, by kernel_rfl⟩ -- Variable.__eq__
noncomputable def F166 : FuncData := mkFd (fd0 8) "unique_variable" (vr 159) (vs "nltk.sem.logic" 232) none (vr 165)
theorem ok166 : FnOk 166 F166 (bodyOf (fd0 8)) := ⟨fun P => by kernel_rfl, fun P => by kernel_rfl, by kernel_rfl, by kernel_rfl⟩ -- unique_variable
noncomputable def F232 : FuncData := mkFd (fd1 10 3) "Expression.__neg__" vz (vs "nltk.sem.logic" 232) none (vr 231)
theorem ok232 : FnOk 232 F232 (bodyOf (fd1 10 3)) := ⟨fun P => by kernel_rfl, fun P => by kernel_rfl, by kernel_rfl, by kernel_rfl⟩ -- Expression.__neg__
noncomputable def F289 : FuncData := mkFd (fd1 10 11) "Expression.replace" (vr 282) (vs "nltk.sem.logic" 232) none (vr 288)
theorem ok289 : FnOk 289 F289 (bodyOf (fd1 10 11)) := ⟨fun P => by kernel_rfl, fun P => by kernel_rfl, by kernel_rfl, by kernel_rfl⟩ -- Expression.replace
noncomputable def F303 : FuncData := mkFd (fd1 10 13) "Expression.visit_structured" vz (vs "nltk.sem.logic" 232) none (vr 302)
theorem ok303 : FnOk 303 F303 (bodyOf (fd1 10 13)) := ⟨fun P => by kernel_rfl, fun P => by kernel_rfl, by kernel_rfl, by kernel_rfl⟩ -- Expression.visit_structured
noncomputable def F369 : FuncData := mkFd (fd1 13 0) "ApplicationExpression.__init__" vz (vs "nltk.sem.logic" 232) none (vr 368)
theorem ok369 : FnOk 369 F369 (bodyOf (fd1 13 0)) := ⟨fun P => by kernel_rfl, fun P => by kernel_rfl, by kernel_rfl, by kernel_rfl⟩ -- ApplicationExpression.__init__
noncomputable def F383 : FuncData := mkFd (fd1 13 2) "ApplicationExpression._made" vz (vs "nltk.sem.logic" 232) none (vr 382)
theorem ok383 : FnOk 383 F383 (bodyOf (fd1 13 2)) := ⟨fun P => by kernel_rfl, fun P => by kernel_rfl, by kernel_rfl, by kernel_rfl⟩ -- ApplicationExpression._made
noncomputable def F404 : FuncData := mkFd (fd1 13 5) "ApplicationExpression.visit" vz (vs "nltk.sem.logic" 232) none (vr 403)
theorem ok404 : FnOk 404 F404 (bodyOf (fd1 13 5)) := ⟨fun P => by kernel_rfl, fun P => by kernel_rfl, by kernel_rfl, by kernel_rfl⟩ -- ApplicationExpression.visit
noncomputable def F411 : FuncData := mkFd (fd1 13 6) "ApplicationExpression.__eq__" vz (vs "nltk.sem.logic" 232) none (vr 410)
theorem ok411 : FnOk 411 F411 (bodyOf (fd1 13 6)) := ⟨fun P => by kernel_rfl, fun P => by kernel_rfl, by kernel_rfl, by kernel_rfl⟩ -- ApplicationExpression.__eq__
noncomputable def F425 : FuncData := mkFd (fd1 13 8) "ApplicationExpression.uncurry" vz (vs "nltk.sem.logic" 232) none (vr 424)
theorem ok425 : FnOk 425 F425 (bodyOf (fd1 13 8)) := ⟨fun P => by kernel_rfl, fun P => by kernel_rfl, by kernel_rfl, by kernel_rfl⟩ -- ApplicationExpression.uncurry
noncomputable def F440 : FuncData := mkFd (fd1 13 10) "ApplicationExpression.args" vz (vs "nltk.sem.logic" 232) none (vr 439)
theorem ok440 : FnOk 440 F440 (bodyOf (fd1 13 10)) := ⟨fun P => by kernel_rfl, fun P => by kernel_rfl, by kernel_rfl, by kernel_rfl⟩ -- ApplicationExpression.args
noncomputable def F467 : FuncData := mkFd (fd1 14 0) "AbstractVariableExpression.__init__" vz (vs "nltk.sem.logic" 232) none (vr 466)
theorem ok467 : FnOk 467 F467 (bodyOf (fd1 14 0)) := ⟨fun P => by kernel_rfl, fun P => by kernel_rfl, by kernel_rfl, by kernel_rfl⟩ -- AbstractVariableExpression.__init__
noncomputable def F482 : FuncData := mkFd (fd1 14 2) "AbstractVariableExpression.replace" (vr 475) (vs "nltk.sem.logic" 232) none (vr 481)
theorem ok482 : FnOk 482 F482 (bodyOf (fd1 14 2)) := ⟨fun P => by kernel_rfl, fun P => by kernel_rfl, by kernel_rfl, by kernel_rfl⟩ -- AbstractVariableExpression.replace
noncomputable def F496 : FuncData := mkFd (fd1 14 4) "AbstractVariableExpression.__eq__" vz (vs "nltk.sem.logic" 232) none (vr 495)
theorem ok496 : FnOk 496 F496 (bodyOf (fd1 14 4)) := ⟨fun P => by kernel_rfl, fun P => by kernel_rfl, by kernel_rfl, by kernel_rfl⟩ -- AbstractVariableExpression.__eq__
noncomputable def F529 : FuncData := mkFd (fd1 15 0) "IndividualVariableExpression.free" vz (vs "nltk.sem.logic" 232) none (vr 528)
theorem ok529 : FnOk 529 F529 (bodyOf (fd1 15 0)) := ⟨fun P => by kernel_rfl, fun P => by kernel_rfl, by kernel_rfl, by kernel_rfl⟩ -- IndividualVariableExpression.free
noncomputable def F593 : FuncData := mkFd (fd1 18 0) "ConstantExpression.free" vz (vs "nltk.sem.logic" 232) none (vr 592)
theorem ok593 : FnOk 593 F593 (bodyOf (fd1 18 0)) := ⟨fun P => by kernel_rfl, fun P => by kernel_rfl, by kernel_rfl, by kernel_rfl⟩ -- ConstantExpression.free
noncomputable def F612 : FuncData := mkFd (fd0 19) "VariableExpression" vz (vs "nltk.sem.logic" 232) none (vr 611)
theorem ok612 : FnOk 612 F612 (bodyOf (fd0 19)) := ⟨fun P => by kernel_rfl, fun P => by kernel_rfl, by kernel_rfl, by kernel_rfl⟩ -- VariableExpression
noncomputable def F626 : FuncData := mkFd (fd1 20 0) "VariableBinderExpression.__init__" vz (vs "nltk.sem.logic" 232) none (vr 625)
theorem ok626 : FnOk 626 F626 (bodyOf (fd1 20 0)) := ⟨fun P => by kernel_rfl, fun P => by kernel_rfl, by kernel_rfl, by kernel_rfl⟩ -- VariableBinderExpression.__init__
noncomputable def F634 : FuncData := mkFd (fd1 20 1) "VariableBinderExpression.replace" (vr 627) (vs "nltk.sem.logic" 232) none (vr 633)
theorem ok634 : FnOk 634 F634 (bodyOf (fd1 20 1)) := ⟨fun P => by kernel_rfl, fun P => by kernel_rfl, by kernel_rfl, by kernel_rfl⟩ -- VariableBinderExpression.replace
noncomputable def F738 : FuncData := mkFd (fd1 23 0) "ExistsExpression._binder" vz (vs "nltk.sem.logic" 232) none (vr 737)
theorem ok738 : FnOk 738 F738 (bodyOf (fd1 23 0)) := ⟨fun P => by kernel_rfl, fun P => by kernel_rfl, by kernel_rfl, by kernel_rfl⟩ -- ExistsExpression._binder
noncomputable def F771 : FuncData := mkFd (fd1 24 2) "AllExpression._binder" vz (vs "nltk.sem.logic" 232) none (vr 770)
theorem ok771 : FnOk 771 F771 (bodyOf (fd1 24 2)) := ⟨fun P => by kernel_rfl, fun P => by kernel_rfl, by kernel_rfl, by kernel_rfl⟩ -- AllExpression._binder
noncomputable def F804 : FuncData := mkFd (fd1 25 1) "NegatedExpression.__init__" vz (vs "nltk.sem.logic" 232) none (vr 803)
theorem ok804 : FnOk 804 F804 (bodyOf (fd1 25 1)) := ⟨fun P => by kernel_rfl, fun P => by kernel_rfl, by kernel_rfl, by kernel_rfl⟩ -- NegatedExpression.__init__
noncomputable def F811 : FuncData := mkFd (fd1 25 2) "NegatedExpression._made" vz (vs "nltk.sem.logic" 232) none (vr 810)
theorem ok811 : FnOk 811 F811 (bodyOf (fd1 25 2)) := ⟨fun P => by kernel_rfl, fun P => by kernel_rfl, by kernel_rfl, by kernel_rfl⟩ -- NegatedExpression._made
noncomputable def F818 : FuncData := mkFd (fd1 25 3) "NegatedExpression.visit" vz (vs "nltk.sem.logic" 232) none (vr 817)
theorem ok818 : FnOk 818 F818 (bodyOf (fd1 25 3)) := ⟨fun P => by kernel_rfl, fun P => by kernel_rfl, by kernel_rfl, by kernel_rfl⟩ -- NegatedExpression.visit
noncomputable def F858 : FuncData := mkFd (fd1 26 0) "BinaryExpression.__init__" vz (vs "nltk.sem.logic" 232) none (vr 857)
theorem ok858 : FnOk 858 F858 (bodyOf (fd1 26 0)) := ⟨fun P => by kernel_rfl, fun P => by kernel_rfl, by kernel_rfl, by kernel_rfl⟩ -- BinaryExpression.__init__
noncomputable def F865 : FuncData := mkFd (fd1 26 1) "BinaryExpression.visit" vz (vs "nltk.sem.logic" 232) none (vr 864)
theorem ok865 : FnOk 865 F865 (bodyOf (fd1 26 1)) := ⟨fun P => by kernel_rfl, fun P => by kernel_rfl, by kernel_rfl, by kernel_rfl⟩ -- BinaryExpression.visit
noncomputable def F917 : FuncData := mkFd (fd1 28 0) "AndExpression._made" vz (vs "nltk.sem.logic" 232) none (vr 916)
theorem ok917 : FnOk 917 F917 (bodyOf (fd1 28 0)) := ⟨fun P => by kernel_rfl, fun P => by kernel_rfl, by kernel_rfl, by kernel_rfl⟩ -- AndExpression._made
noncomputable def F957 : FuncData := mkFd (fd1 29 0) "OrExpression._made" vz (vs "nltk.sem.logic" 232) none (vr 956)
theorem ok957 : FnOk 957 F957 (bodyOf (fd1 29 0)) := ⟨fun P => by kernel_rfl, fun P => by kernel_rfl, by kernel_rfl, by kernel_rfl⟩ -- OrExpression._made
noncomputable def F997 : FuncData := mkFd (fd1 30 0) "ImpExpression._made" vz (vs "nltk.sem.logic" 232) none (vr 996)
theorem ok997 : FnOk 997 F997 (bodyOf (fd1 30 0)) := ⟨fun P => by kernel_rfl, fun P => by kernel_rfl, by kernel_rfl, by kernel_rfl⟩ -- ImpExpression._made
noncomputable def F1089 : FuncData := mkFd (fd0 33) "_is_letter_and_digits" vz (vs "nltk.sem.logic" 232) none (vr 1088)
theorem ok1089 : FnOk 1089 F1089 (bodyOf (fd0 33)) := ⟨fun P => by kernel_rfl, fun P => by kernel_rfl, by kernel_rfl, by kernel_rfl⟩ -- _is_letter_and_digits
noncomputable def F1096 : FuncData := mkFd (fd0 34) "is_indvar" vz (vs "nltk.sem.logic" 232) none (vr 1095)
theorem ok1096 : FnOk 1096 F1096 (bodyOf (fd0 34)) := ⟨fun P => by kernel_rfl, fun P => by kernel_rfl, by kernel_rfl, by kernel_rfl⟩ -- is_indvar
noncomputable def F1103 : FuncData := mkFd (fd0 35) "is_funcvar" vz (vs "nltk.sem.logic" 232) none (vr 1102)
theorem ok1103 : FnOk 1103 F1103 (bodyOf (fd0 35)) := ⟨fun P => by kernel_rfl, fun P => by kernel_rfl, by kernel_rfl, by kernel_rfl⟩ -- is_funcvar
noncomputable def F1110 : FuncData := mkFd (fd0 36) "is_eventvar" vz (vs "nltk.sem.logic" 232) none (vr 1109)
theorem ok1110 : FnOk 1110 F1110 (bodyOf (fd0 36)) := ⟨fun P => by kernel_rfl, fun P => by kernel_rfl, by kernel_rfl, by kernel_rfl⟩ -- is_eventvar
noncomputable def F1138 : FuncData := mkFd (fd1 39 2) "TableauProver.__init__" (vr 1131) (vs "nltk.inference.tableau" 1690) none (vr 1137)
theorem ok1138 : FnOk 1138 F1138 (bodyOf (fd1 39 2)) := ⟨fun P => by kernel_rfl, fun P => by kernel_rfl, by kernel_rfl, by kernel_rfl⟩ -- TableauProver.__init__
noncomputable def F1146 : FuncData := mkFd (fd1 39 3) "TableauProver._prove" (vr 1139) (vs "nltk.inference.tableau" 1690) none (vr 1145)
theorem ok1146 : FnOk 1146 F1146 (bodyOf (fd1 39 3)) := ⟨fun P => by kernel_rfl, fun P => by kernel_rfl, by kernel_rfl, by kernel_rfl⟩ -- TableauProver._prove
noncomputable def F1153 : FuncData := mkFd (fd1 39 4) "TableauProver._attempt_proof" vz (vs "nltk.inference.tableau" 1690) none (vr 1152)
theorem ok1153 : FnOk 1153 F1153 (bodyOf (fd1 39 4)) := ⟨fun P => by kernel_rfl, fun P => by kernel_rfl, by kernel_rfl, by kernel_rfl⟩ -- TableauProver._attempt_proof
noncomputable def F1160 : FuncData := mkFd (fd1 39 5) "TableauProver._attempt_proof_atom" vz (vs "nltk.inference.tableau" 1690) none (vr 1159)
theorem ok1160 : FnOk 1160 F1160 (bodyOf (fd1 39 5)) := ⟨fun P => by kernel_rfl, fun P => by kernel_rfl, by kernel_rfl, by kernel_rfl⟩ -- TableauProver._attempt_proof_atom
noncomputable def F1167 : FuncData := mkFd (fd1 39 6) "TableauProver._attempt_proof_n_atom" vz (vs "nltk.inference.tableau" 1690) none (vr 1166)
theorem ok1167 : FnOk 1167 F1167 (bodyOf (fd1 39 6)) := ⟨fun P => by kernel_rfl, fun P => by kernel_rfl, by kernel_rfl, by kernel_rfl⟩ -- TableauProver._attempt_proof_n_atom
noncomputable def F1209 : FuncData := mkFd (fd1 39 12) "TableauProver._attempt_proof_d_neg" vz (vs "nltk.inference.tableau" 1690) none (vr 1208)
theorem ok1209 : FnOk 1209 F1209 (bodyOf (fd1 39 12)) := ⟨fun P => by kernel_rfl, fun P => by kernel_rfl, by kernel_rfl, by kernel_rfl⟩ -- TableauProver._attempt_proof_d_neg
noncomputable def F1216 : FuncData := mkFd (fd1 39 13) "TableauProver._attempt_proof_n_all" vz (vs "nltk.inference.tableau" 1690) none (vr 1215)
theorem ok1216 : FnOk 1216 F1216 (bodyOf (fd1 39 13)) := ⟨fun P => by kernel_rfl, fun P => by kernel_rfl, by kernel_rfl, by kernel_rfl⟩ -- TableauProver._attempt_proof_n_all
noncomputable def F1223 : FuncData := mkFd (fd1 39 14) "TableauProver._attempt_proof_n_some" vz (vs "nltk.inference.tableau" 1690) none (vr 1222)
theorem ok1223 : FnOk 1223 F1223 (bodyOf (fd1 39 14)) := ⟨fun P => by kernel_rfl, fun P => by kernel_rfl, by kernel_rfl, by kernel_rfl⟩ -- TableauProver._attempt_proof_n_some
noncomputable def F1230 : FuncData := mkFd (fd1 39 15) "TableauProver._attempt_proof_and" vz (vs "nltk.inference.tableau" 1690) none (vr 1229)
theorem ok1230 : FnOk 1230 F1230 (bodyOf (fd1 39 15)) := ⟨fun P => by kernel_rfl, fun P => by kernel_rfl, by kernel_rfl, by kernel_rfl⟩ -- TableauProver._attempt_proof_and
noncomputable def F1237 : FuncData := mkFd (fd1 39 16) "TableauProver._attempt_proof_n_or" vz (vs "nltk.inference.tableau" 1690) none (vr 1236)
theorem ok1237 : FnOk 1237 F1237 (bodyOf (fd1 39 16)) := ⟨fun P => by kernel_rfl, fun P => by kernel_rfl, by kernel_rfl, by kernel_rfl⟩ -- TableauProver._attempt_proof_n_or
noncomputable def F1244 : FuncData := mkFd (fd1 39 17) "TableauProver._attempt_proof_n_imp" vz (vs "nltk.inference.tableau" 1690) none (vr 1243)
theorem ok1244 : FnOk 1244 F1244 (bodyOf (fd1 39 17)) := ⟨fun P => by kernel_rfl, fun P => by kernel_rfl, by kernel_rfl, by kernel_rfl⟩ -- TableauProver._attempt_proof_n_imp
noncomputable def F1251 : FuncData := mkFd (fd1 39 18) "TableauProver._attempt_proof_or" vz (vs "nltk.inference.tableau" 1690) none (vr 1250)
theorem ok1251 : FnOk 1251 F1251 (bodyOf (fd1 39 18)) := ⟨fun P => by kernel_rfl, fun P => by kernel_rfl, by kernel_rfl, by kernel_rfl⟩ -- TableauProver._attempt_proof_or
noncomputable def F1258 : FuncData := mkFd (fd1 39 19) "TableauProver._attempt_proof_imp" vz (vs "nltk.inference.tableau" 1690) none (vr 1257)
theorem ok1258 : FnOk 1258 F1258 (bodyOf (fd1 39 19)) := ⟨fun P => by kernel_rfl, fun P => by kernel_rfl, by kernel_rfl, by kernel_rfl⟩ -- TableauProver._attempt_proof_imp
noncomputable def F1265 : FuncData := mkFd (fd1 39 20) "TableauProver._attempt_proof_n_and" vz (vs "nltk.inference.tableau" 1690) none (vr 1264)
theorem ok1265 : FnOk 1265 F1265 (bodyOf (fd1 39 20)) := ⟨fun P => by kernel_rfl, fun P => by kernel_rfl, by kernel_rfl, by kernel_rfl⟩ -- TableauProver._attempt_proof_n_and
noncomputable def F1293 : FuncData := mkFd (fd1 39 24) "TableauProver._attempt_proof_some" vz (vs "nltk.inference.tableau" 1690) none (vr 1292)
theorem ok1293 : FnOk 1293 F1293 (bodyOf (fd1 39 24)) := ⟨fun P => by kernel_rfl, fun P => by kernel_rfl, by kernel_rfl, by kernel_rfl⟩ -- TableauProver._attempt_proof_some
noncomputable def F1298 : FuncData := mkFd (fd1 39 25) "TableauProver._attempt_proof_all" vz (vs "nltk.inference.tableau" 1690) none (vr 1297)
theorem ok1298 : FnOk 1298 F1298 (bodyOf (fd1 39 25)) := ⟨fun P => by kernel_rfl, fun P => by kernel_rfl, by kernel_rfl, by kernel_rfl⟩ -- TableauProver._attempt_proof_all
noncomputable def F1305 : FuncData := mkFd (fd1 39 26) "TableauProver.is_atom" vz (vs "nltk.inference.tableau" 1690) (some 1308) (vr 1304)
theorem ok1305 : FnOk 1305 F1305 (bodyOf (fd1 39 26)) := ⟨fun P => by kernel_rfl, fun P => by kernel_rfl, by kernel_rfl, by kernel_rfl⟩ -- TableauProver.is_atom
noncomputable def F1327 : FuncData := mkFd (fd1 40 0) "Agenda.__init__" vz (vs "nltk.inference.tableau" 1690) none (vr 1326)
theorem ok1327 : FnOk 1327 F1327 (bodyOf (fd1 40 0)) := ⟨fun P => by kernel_rfl, fun P => by kernel_rfl, by kernel_rfl, by kernel_rfl⟩ -- Agenda.__init__
noncomputable def F1332 : FuncData := mkFd (fd1 40 1) "Agenda.clone" vz (vs "nltk.inference.tableau" 1690) none (vr 1331)
theorem ok1332 : FnOk 1332 F1332 (bodyOf (fd1 40 1)) := ⟨fun P => by kernel_rfl, fun P => by kernel_rfl, by kernel_rfl, by kernel_rfl⟩ -- Agenda.clone
noncomputable def F1339 : FuncData := mkFd (fd1 40 2) "Agenda.__getitem__" vz (vs "nltk.inference.tableau" 1690) none (vr 1338)
theorem ok1339 : FnOk 1339 F1339 (bodyOf (fd1 40 2)) := ⟨fun P => by kernel_rfl, fun P => by kernel_rfl, by kernel_rfl, by kernel_rfl⟩ -- Agenda.__getitem__
noncomputable def F1347 : FuncData := mkFd (fd1 40 3) "Agenda.put" (vr 1340) (vs "nltk.inference.tableau" 1690) none (vr 1346)
theorem ok1347 : FnOk 1347 F1347 (bodyOf (fd1 40 3)) := ⟨fun P => by kernel_rfl, fun P => by kernel_rfl, by kernel_rfl, by kernel_rfl⟩ -- Agenda.put
noncomputable def F1354 : FuncData := mkFd (fd1 40 4) "Agenda.put_all" vz (vs "nltk.inference.tableau" 1690) none (vr 1353)
theorem ok1354 : FnOk 1354 F1354 (bodyOf (fd1 40 4)) := ⟨fun P => by kernel_rfl, fun P => by kernel_rfl, by kernel_rfl, by kernel_rfl⟩ -- Agenda.put_all
noncomputable def F1368 : FuncData := mkFd (fd1 40 6) "Agenda.pop_first" vz (vs "nltk.inference.tableau" 1690) none (vr 1367)
theorem ok1368 : FnOk 1368 F1368 (bodyOf (fd1 40 6)) := ⟨fun P => by kernel_rfl, fun P => by kernel_rfl, by kernel_rfl, by kernel_rfl⟩ -- Agenda.pop_first
noncomputable def F1382 : FuncData := mkFd (fd1 40 8) "Agenda.mark_alls_fresh" vz (vs "nltk.inference.tableau" 1690) none (vr 1381)
theorem ok1382 : FnOk 1382 F1382 (bodyOf (fd1 40 8)) := ⟨fun P => by kernel_rfl, fun P => by kernel_rfl, by kernel_rfl, by kernel_rfl⟩ -- Agenda.mark_alls_fresh
noncomputable def F1396 : FuncData := mkFd (fd1 40 10) "Agenda._categorize_expression" vz (vs "nltk.inference.tableau" 1690) none (vr 1395)
theorem ok1396 : FnOk 1396 F1396 (bodyOf (fd1 40 10)) := ⟨fun P => by kernel_rfl, fun P => by kernel_rfl, by kernel_rfl, by kernel_rfl⟩ -- Agenda._categorize_expression
noncomputable def F1403 : FuncData := mkFd (fd1 40 11) "Agenda._categorize_NegatedExpression" vz (vs "nltk.inference.tableau" 1690) none (vr 1402)
theorem ok1403 : FnOk 1403 F1403 (bodyOf (fd1 40 11)) := ⟨fun P => by kernel_rfl, fun P => by kernel_rfl, by kernel_rfl, by kernel_rfl⟩ -- Agenda._categorize_NegatedExpression
noncomputable def F1425 : FuncData := mkFd (fd1 41 0) "Debug.__init__" (vr 1418) (vs "nltk.inference.tableau" 1690) none (vr 1424)
theorem ok1425 : FnOk 1425 F1425 (bodyOf (fd1 41 0)) := ⟨fun P => by kernel_rfl, fun P => by kernel_rfl, by kernel_rfl, by kernel_rfl⟩ -- Debug.__init__
noncomputable def F1432 : FuncData := mkFd (fd1 41 1) "Debug.__add__" vz (vs "nltk.inference.tableau" 1690) none (vr 1431)
theorem ok1432 : FnOk 1432 F1432 (bodyOf (fd1 41 1)) := ⟨fun P => by kernel_rfl, fun P => by kernel_rfl, by kernel_rfl, by kernel_rfl⟩ -- Debug.__add__
noncomputable def F1460 : FuncData := mkFd (fd0 44) "_law_box" vz (vs "law_au0015_02" 2308) none (vr 1459)
theorem ok1460 : FnOk 1460 F1460 (bodyOf (fd0 44)) := ⟨fun P => by kernel_rfl, fun P => by kernel_rfl, by kernel_rfl, by kernel_rfl⟩ -- _law_box
noncomputable def F1467 : FuncData := mkFd (fd0 45) "_law_take" vz (vs "law_au0015_02" 2308) none (vr 1466)
theorem ok1467 : FnOk 1467 F1467 (bodyOf (fd0 45)) := ⟨fun P => by kernel_rfl, fun P => by kernel_rfl, by kernel_rfl, by kernel_rfl⟩ -- _law_take
noncomputable def F1472 : FuncData := mkFd (fd0 46) "_law_drawn" vz (vs "law_au0015_02" 2308) none (vr 1471)
theorem ok1472 : FnOk 1472 F1472 (bodyOf (fd0 46)) := ⟨fun P => by kernel_rfl, fun P => by kernel_rfl, by kernel_rfl, by kernel_rfl⟩ -- _law_drawn
noncomputable def F1477 : FuncData := mkFd (fd0 47) "_law_part" vz (vs "law_au0015_02" 2308) none (vr 1476)
theorem ok1477 : FnOk 1477 F1477 (bodyOf (fd0 47)) := ⟨fun P => by kernel_rfl, fun P => by kernel_rfl, by kernel_rfl, by kernel_rfl⟩ -- _law_part
noncomputable def F1482 : FuncData := mkFd (fd0 48) "_law_formula" vz (vs "law_au0015_02" 2308) none (vr 1481)
theorem ok1482 : FnOk 1482 F1482 (bodyOf (fd0 48)) := ⟨fun P => by kernel_rfl, fun P => by kernel_rfl, by kernel_rfl, by kernel_rfl⟩ -- _law_formula
noncomputable def F1487 : FuncData := mkFd (fd0 49) "_law_true" vz (vs "law_au0015_02" 2308) none (vr 1486)
theorem ok1487 : FnOk 1487 F1487 (bodyOf (fd0 49)) := ⟨fun P => by kernel_rfl, fun P => by kernel_rfl, by kernel_rfl, by kernel_rfl⟩ -- _law_true
noncomputable def F1492 : FuncData := mkFd (fd0 50) "law" vz (vs "law_au0015_02" 2308) none (vr 1491)
theorem ok1492 : FnOk 1492 F1492 (bodyOf (fd0 50)) := ⟨fun P => by kernel_rfl, fun P => by kernel_rfl, by kernel_rfl, by kernel_rfl⟩ -- law
noncomputable def gTab : List (Str × Value) := [(Str.ofString "_union", Value.ref 85), (Str.ofString "unique_variable", Value.ref 166), (Str.ofString "VariableExpression", Value.ref 612), (Str.ofString "_is_letter_and_digits", Value.ref 1089), (Str.ofString "is_indvar", Value.ref 1096), (Str.ofString "is_funcvar", Value.ref 1103), (Str.ofString "is_eventvar", Value.ref 1110), (Str.ofString "_law_box", Value.ref 1460), (Str.ofString "_law_take", Value.ref 1467), (Str.ofString "_law_drawn", Value.ref 1472), (Str.ofString "_law_part", Value.ref 1477), (Str.ofString "_law_formula", Value.ref 1482), (Str.ofString "_law_true", Value.ref 1487), (Str.ofString "law", Value.ref 1492), (Str.ofString "Deadline", Value.ref 45), (Str.ofString "Counter", Value.ref 74), (Str.ofString "Variable", Value.ref 154), (Str.ofString "SubstituteBindingsI", Value.ref 190), (Str.ofString "Expression", Value.ref 346), (Str.ofString "ApplicationExpression", Value.ref 451), (Str.ofString "AbstractVariableExpression", Value.ref 513), (Str.ofString "IndividualVariableExpression", Value.ref 539), (Str.ofString "FunctionVariableExpression", Value.ref 565), (Str.ofString "EventVariableExpression", Value.ref 577), (Str.ofString "ConstantExpression", Value.ref 603), (Str.ofString "VariableBinderExpression", Value.ref 670), (Str.ofString "LambdaExpression", Value.ref 703), (Str.ofString "QuantifiedExpression", Value.ref 722), (Str.ofString "ExistsExpression", Value.ref 755), (Str.ofString "AllExpression", Value.ref 788), (Str.ofString "NegatedExpression", Value.ref 842), (Str.ofString "BinaryExpression", Value.ref 889), (Str.ofString "BooleanExpression", Value.ref 901), (Str.ofString "AndExpression", Value.ref 941), (Str.ofString "OrExpression", Value.ref 981), (Str.ofString "ImpExpression", Value.ref 1014), (Str.ofString "IffExpression", Value.ref 1047), (Str.ofString "EqualityExpression", Value.ref 1080), (Str.ofString "TableauProver", Value.ref 1311), (Str.ofString "Agenda", Value.ref 1406), (Str.ofString "Debug", Value.ref 1435), (Str.ofString "Categories", Value.ref 1449)]
theorem gTab_ok (P : Params) : (gTab.all fun p => nsIn (KK P) 3 p.1 == some (some p.2)) = true := by kernel_rfl
noncomputable def bTab : List (Str × Value) := [(Str.ofString "isinstance", Value.builtin "isinstance"), (Str.ofString "len", Value.builtin "len"), (Str.ofString "range", Value.type "range"), (Str.ofString "abs", Value.builtin "abs"), (Str.ofString "enumerate", Value.type "enumerate"), (Str.ofString "all", Value.builtin "all"), (Str.ofString "any", Value.builtin "any"), (Str.ofString "bool", Value.type "bool"), (Str.ofString "int", Value.type "int"), (Str.ofString "sorted", Value.builtin "sorted"), (Str.ofString "set", Value.type "set"), (Str.ofString "max", Value.builtin "max"), (Str.ofString "str", Value.type "str")]
theorem bTab_ok (P : Params) : (bTab.all fun p => nsIn (KK P) 3 p.1 == some none && nsIn (KK P) 0 p.1 == some (some p.2)) = true := by kernel_rfl
theorem g__union : gTab.lookup (Str.ofString "_union") = some (.ref 85) := by kernel_rfl
theorem g_unique_variable : gTab.lookup (Str.ofString "unique_variable") = some (.ref 166) := by kernel_rfl
theorem g_VariableExpression : gTab.lookup (Str.ofString "VariableExpression") = some (.ref 612) := by kernel_rfl
theorem g__is_letter_and_digits : gTab.lookup (Str.ofString "_is_letter_and_digits") = some (.ref 1089) := by kernel_rfl
theorem g_is_indvar : gTab.lookup (Str.ofString "is_indvar") = some (.ref 1096) := by kernel_rfl
theorem g_is_funcvar : gTab.lookup (Str.ofString "is_funcvar") = some (.ref 1103) := by kernel_rfl
theorem g_is_eventvar : gTab.lookup (Str.ofString "is_eventvar") = some (.ref 1110) := by kernel_rfl
theorem g__law_box : gTab.lookup (Str.ofString "_law_box") = some (.ref 1460) := by kernel_rfl
theorem g__law_take : gTab.lookup (Str.ofString "_law_take") = some (.ref 1467) := by kernel_rfl
theorem g__law_drawn : gTab.lookup (Str.ofString "_law_drawn") = some (.ref 1472) := by kernel_rfl
theorem g__law_part : gTab.lookup (Str.ofString "_law_part") = some (.ref 1477) := by kernel_rfl
theorem g__law_formula : gTab.lookup (Str.ofString "_law_formula") = some (.ref 1482) := by kernel_rfl
theorem g__law_true : gTab.lookup (Str.ofString "_law_true") = some (.ref 1487) := by kernel_rfl
theorem g_law : gTab.lookup (Str.ofString "law") = some (.ref 1492) := by kernel_rfl
theorem g_Deadline : gTab.lookup (Str.ofString "Deadline") = some (.ref 45) := by kernel_rfl
theorem g_Counter : gTab.lookup (Str.ofString "Counter") = some (.ref 74) := by kernel_rfl
theorem g_Variable : gTab.lookup (Str.ofString "Variable") = some (.ref 154) := by kernel_rfl
theorem g_SubstituteBindingsI : gTab.lookup (Str.ofString "SubstituteBindingsI") = some (.ref 190) := by kernel_rfl
theorem g_Expression : gTab.lookup (Str.ofString "Expression") = some (.ref 346) := by kernel_rfl
theorem g_ApplicationExpression : gTab.lookup (Str.ofString "ApplicationExpression") = some (.ref 451) := by kernel_rfl
theorem g_AbstractVariableExpression : gTab.lookup (Str.ofString "AbstractVariableExpression") = some (.ref 513) := by kernel_rfl
theorem g_IndividualVariableExpression : gTab.lookup (Str.ofString "IndividualVariableExpression") = some (.ref 539) := by kernel_rfl
theorem g_FunctionVariableExpression : gTab.lookup (Str.ofString "FunctionVariableExpression") = some (.ref 565) := by kernel_rfl
theorem g_EventVariableExpression : gTab.lookup (Str.ofString "EventVariableExpression") = some (.ref 577) := by kernel_rfl
theorem g_ConstantExpression : gTab.lookup (Str.ofString "ConstantExpression") = some (.ref 603) := by kernel_rfl
theorem g_VariableBinderExpression : gTab.lookup (Str.ofString "VariableBinderExpression") = some (.ref 670) := by kernel_rfl
theorem g_LambdaExpression : gTab.lookup (Str.ofString "LambdaExpression") = some (.ref 703) := by kernel_rfl
theorem g_QuantifiedExpression : gTab.lookup (Str.ofString "QuantifiedExpression") = some (.ref 722) := by kernel_rfl
theorem g_ExistsExpression : gTab.lookup (Str.ofString "ExistsExpression") = some (.ref 755) := by kernel_rfl
theorem g_AllExpression : gTab.lookup (Str.ofString "AllExpression") = some (.ref 788) := by kernel_rfl
theorem g_NegatedExpression : gTab.lookup (Str.ofString "NegatedExpression") = some (.ref 842) := by kernel_rfl
theorem g_BinaryExpression : gTab.lookup (Str.ofString "BinaryExpression") = some (.ref 889) := by kernel_rfl
theorem g_BooleanExpression : gTab.lookup (Str.ofString "BooleanExpression") = some (.ref 901) := by kernel_rfl
theorem g_AndExpression : gTab.lookup (Str.ofString "AndExpression") = some (.ref 941) := by kernel_rfl
theorem g_OrExpression : gTab.lookup (Str.ofString "OrExpression") = some (.ref 981) := by kernel_rfl
theorem g_ImpExpression : gTab.lookup (Str.ofString "ImpExpression") = some (.ref 1014) := by kernel_rfl
theorem g_IffExpression : gTab.lookup (Str.ofString "IffExpression") = some (.ref 1047) := by kernel_rfl
theorem g_EqualityExpression : gTab.lookup (Str.ofString "EqualityExpression") = some (.ref 1080) := by kernel_rfl
theorem g_TableauProver : gTab.lookup (Str.ofString "TableauProver") = some (.ref 1311) := by kernel_rfl
theorem g_Agenda : gTab.lookup (Str.ofString "Agenda") = some (.ref 1406) := by kernel_rfl
theorem g_Debug : gTab.lookup (Str.ofString "Debug") = some (.ref 1435) := by kernel_rfl
theorem g_Categories : gTab.lookup (Str.ofString "Categories") = some (.ref 1449) := by kernel_rfl
noncomputable def keeps : List Addr := [35, 42, 64, 71, 85, 130, 137, 166, 232, 289, 303, 369, 383, 404, 411, 425, 440, 467, 482, 496, 529, 593, 612, 626, 634, 738, 771, 804, 811, 818, 858, 865, 917, 957, 997, 1089, 1096, 1103, 1110, 1138, 1146, 1153, 1160, 1167, 1209, 1216, 1223, 1230, 1237, 1244, 1251, 1258, 1265, 1293, 1298, 1305, 1327, 1332, 1339, 1347, 1354, 1368, 1382, 1396, 1403, 1425, 1432, 1460, 1467, 1472, 1477, 1482, 1487, 1492]
theorem keeps_ok (P : Params) : (keeps.all fun a => keepIn (KK P) (.ref a)) = true := by kernel_rfl
theorem b_isinstance : bTab.lookup (Str.ofString "isinstance") = some (.builtin "isinstance") := by kernel_rfl
theorem b_len : bTab.lookup (Str.ofString "len") = some (.builtin "len") := by kernel_rfl
theorem b_range : bTab.lookup (Str.ofString "range") = some (.type "range") := by kernel_rfl
theorem b_abs : bTab.lookup (Str.ofString "abs") = some (.builtin "abs") := by kernel_rfl
theorem b_enumerate : bTab.lookup (Str.ofString "enumerate") = some (.type "enumerate") := by kernel_rfl
theorem b_all : bTab.lookup (Str.ofString "all") = some (.builtin "all") := by kernel_rfl
theorem b_any : bTab.lookup (Str.ofString "any") = some (.builtin "any") := by kernel_rfl
theorem b_bool : bTab.lookup (Str.ofString "bool") = some (.type "bool") := by kernel_rfl
theorem b_int : bTab.lookup (Str.ofString "int") = some (.type "int") := by kernel_rfl
theorem b_sorted : bTab.lookup (Str.ofString "sorted") = some (.builtin "sorted") := by kernel_rfl
theorem b_set : bTab.lookup (Str.ofString "set") = some (.type "set") := by kernel_rfl
theorem b_max : bTab.lookup (Str.ofString "max") = some (.builtin "max") := by kernel_rfl
theorem b_str : bTab.lookup (Str.ofString "str") = some (.type "str") := by kernel_rfl
noncomputable def cTab : List Addr := [45, 74, 154, 451, 539, 603, 755, 788, 842, 941, 981, 1014, 1311, 1406, 1435]
theorem cTab_ok (P : Params) : (cTab.all fun D => plainGet (KK P) D "" && hasDictIn (KK P) D && makesIn (KK P) D && plainOver (KK P) D && keepIn (KK P) (.ref D) && (findIn (KK P) (.ref D) "__setattr__" == some (some (.builtin "object.__setattr__")))
  && (findIn (KK P) (.ref D) "__bool__" == some none) && ((D == 1406) || (findIn (KK P) (.ref D) "__len__" == some none)) && (findIn (KK P) (.ref D) "__class__" == some (some (.builtin "object.__class__"))) && (mroIn (KK P) D (.type "object") == some true)) = true := by kernel_rfl
noncomputable def dTab : List ((Addr × Str) × Option Value) := [((45, "looks"), none), ((74, "_value"), none), ((154, "name"), none), ((451, "function"), none), ((451, "argument"), none), ((539, "variable"), none), ((603, "variable"), none),
  ((755, "variable"), none), ((755, "term"), none), ((788, "variable"), none), ((788, "term"), none), ((788, "_used_vars"), some vz), ((788, "_exhausted"), some vf), ((842, "term"), none),
  ((941, "first"), none), ((941, "second"), none), ((981, "first"), none), ((981, "second"), none), ((1014, "first"), none), ((1014, "second"), none),
  ((1311, "TIMEOUT"), none), ((1311, "_counter"), none), ((1311, "_deadline"), some vz), ((1311, "MAX_TABLEAU_DEPTH"), some (.int 200 1725)), ((1406, "sets"), none), ((1435, "indent"), none)]
theorem dTab_ok (P : Params) : (dTab.all fun p => findIn (KK P) (.ref p.1.1) p.1.2 == some p.2 && noGet (KK P) p.2 && (takerIn (KK P) p.1.1 p.1.2 == some none)) = true := by kernel_rfl
noncomputable def mt (D : Addr) (n : Str) (f : Addr) : (Addr × Str) × Addr := ((D, n), f)
noncomputable def mTab : List ((Addr × Str) × Addr) := [mt 45 "passed" 42, mt 74 "get" 71, mt 451 "replace" 289, mt 842 "replace" 289, mt 941 "replace" 289, mt 981 "replace" 289, mt 1014 "replace" 289, mt 539 "replace" 482, mt 603 "replace" 482, mt 755 "replace" 634, mt 788 "replace" 634, mt 451 "visit_structured" 303, mt 842 "visit_structured" 303, mt 941 "visit_structured" 303, mt 981 "visit_structured" 303, mt 1014 "visit_structured" 303, mt 451 "visit" 404, mt 842 "visit" 818, mt 941 "visit" 865, mt 981 "visit" 865, mt 1014 "visit" 865, mt 451 "_made" 383, mt 842 "_made" 811, mt 941 "_made" 917, mt 981 "_made" 957, mt 1014 "_made" 997, mt 755 "_binder" 738, mt 788 "_binder" 771, mt 539 "free" 529, mt 603 "free" 593, mt 451 "uncurry" 425, mt 154 "__eq__" 137, mt 451 "__eq__" 411, mt 539 "__eq__" 496, mt 603 "__eq__" 496, mt 451 "__neg__" 232, mt 842 "__neg__" 232, mt 941 "__neg__" 232, mt 981 "__neg__" 232, mt 1014 "__neg__" 232, mt 755 "__neg__" 232, mt 788 "__neg__" 232, mt 539 "__neg__" 232, mt 603 "__neg__" 232, mt 1311 "_prove" 1146, mt 1311 "_attempt_proof" 1153, mt 1311 "_attempt_proof_atom" 1160, mt 1311 "_attempt_proof_n_atom" 1167, mt 1311 "_attempt_proof_d_neg" 1209, mt 1311 "_attempt_proof_n_all" 1216, mt 1311 "_attempt_proof_n_some" 1223, mt 1311 "_attempt_proof_and" 1230, mt 1311 "_attempt_proof_n_or" 1237, mt 1311 "_attempt_proof_n_imp" 1244, mt 1311 "_attempt_proof_or" 1251, mt 1311 "_attempt_proof_imp" 1258, mt 1311 "_attempt_proof_n_and" 1265, mt 1311 "_attempt_proof_some" 1293, mt 1311 "_attempt_proof_all" 1298, mt 1406 "clone" 1332, mt 1406 "__getitem__" 1339, mt 1406 "put" 1347, mt 1406 "put_all" 1354, mt 1406 "pop_first" 1368, mt 1406 "mark_alls_fresh" 1382, mt 1406 "_categorize_expression" 1396, mt 1406 "_categorize_NegatedExpression" 1403, mt 1435 "__add__" 1432]
theorem mTab_ok (P : Params) : (mTab.all fun p => findIn (KK P) (.ref p.1.1) p.1.2 == some (some (.ref p.2)) && typeIn (KK P) (.ref p.2) == some (.type "function") && keepIn (KK P) (.ref p.2)) = true := by kernel_rfl
noncomputable def iTab : List (Addr × Addr) := [(45, 35), (74, 64), (154, 130), (451, 369), (539, 467), (603, 467), (755, 626), (788, 626), (842, 804), (941, 858), (981, 858), (1014, 858), (1311, 1138), (1406, 1327), (1435, 1425)]
theorem iTab_ok (P : Params) : (iTab.all fun p => findIn (KK P) (.ref p.1) "__init__" == some (some (.ref p.2)) && typeIn (KK P) (.ref p.2) == some (.type "function")) = true := by kernel_rfl
noncomputable def isaT : List (Addr × List Addr) := [(154, [154]), (451, [451, 346]), (539, [539, 513, 346]), (603, [603, 513, 346]), (755, [755, 722, 670, 346]), (788, [788, 722, 670, 346]), (842, [842, 346]), (941, [941, 901, 889, 346]), (981, [981, 901, 889, 346]), (1014, [1014, 901, 889, 346])]
noncomputable def askT : List Addr := [154, 346, 451, 513, 842, 565, 788, 941, 981, 1014, 1047, 1080, 755, 703]
theorem isaT_ok (P : Params) : (isaT.all fun p => askT.all fun C => if p.2.contains C then isIn (KK P) (.ref p.1) C else kin_not (KK P) p.1 C) = true := by kernel_rfl
theorem clsGet (P : Params) : (specialIn (KK P) (.builtin "object.__class__") "__get__" == some (some (.builtin "getset_descriptor.__get__")) && takesIn (KK P) (.builtin "object.__class__") == some true) = true := by kernel_rfl
noncomputable def catTab : List (Str × Int) := [("ATOM", 0), ("PROP", 1), ("N_ATOM", 2), ("N_PROP", 3), ("APP", 4), ("N_APP", 5), ("N_EQ", 6), ("D_NEG", 7), ("N_ALL", 8), ("N_EXISTS", 9), ("AND", 10), ("N_OR", 11), ("N_IMP", 12), ("OR", 13), ("IMP", 14), ("N_AND", 15), ("IFF", 16), ("N_IFF", 17), ("EQ", 18), ("EXISTS", 19), ("ALL", 20)]
noncomputable def isCat (r : Option CFound) (k : Int) : Bool := match r with
  | some (.val (.int i _)) => i == k
  | _ => false
theorem catTab_ok (P : Params) : (readsIn (KK P) 1449 (.type "type") && catTab.all fun p => isCat (findCls (KK P) (.ref 1449) (.type "type") p.1) p.2) = true := by kernel_rfl
theorem c_ATOM : catTab.lookup (Str.ofString "ATOM") = some 0 := by kernel_rfl
theorem c_PROP : catTab.lookup (Str.ofString "PROP") = some 1 := by kernel_rfl
theorem c_N_ATOM : catTab.lookup (Str.ofString "N_ATOM") = some 2 := by kernel_rfl
theorem c_N_PROP : catTab.lookup (Str.ofString "N_PROP") = some 3 := by kernel_rfl
theorem c_APP : catTab.lookup (Str.ofString "APP") = some 4 := by kernel_rfl
theorem c_N_APP : catTab.lookup (Str.ofString "N_APP") = some 5 := by kernel_rfl
theorem c_N_EQ : catTab.lookup (Str.ofString "N_EQ") = some 6 := by kernel_rfl
theorem c_D_NEG : catTab.lookup (Str.ofString "D_NEG") = some 7 := by kernel_rfl
theorem c_N_ALL : catTab.lookup (Str.ofString "N_ALL") = some 8 := by kernel_rfl
theorem c_N_EXISTS : catTab.lookup (Str.ofString "N_EXISTS") = some 9 := by kernel_rfl
theorem c_AND : catTab.lookup (Str.ofString "AND") = some 10 := by kernel_rfl
theorem c_N_OR : catTab.lookup (Str.ofString "N_OR") = some 11 := by kernel_rfl
theorem c_N_IMP : catTab.lookup (Str.ofString "N_IMP") = some 12 := by kernel_rfl
theorem c_OR : catTab.lookup (Str.ofString "OR") = some 13 := by kernel_rfl
theorem c_IMP : catTab.lookup (Str.ofString "IMP") = some 14 := by kernel_rfl
theorem c_N_AND : catTab.lookup (Str.ofString "N_AND") = some 15 := by kernel_rfl
theorem c_IFF : catTab.lookup (Str.ofString "IFF") = some 16 := by kernel_rfl
theorem c_N_IFF : catTab.lookup (Str.ofString "N_IFF") = some 17 := by kernel_rfl
theorem c_EQ : catTab.lookup (Str.ofString "EQ") = some 18 := by kernel_rfl
theorem c_EXISTS : catTab.lookup (Str.ofString "EXISTS") = some 19 := by kernel_rfl
theorem c_ALL : catTab.lookup (Str.ofString "ALL") = some 20 := by kernel_rfl
theorem ar1 {n i k : Nat} (h : n - i = k + 1) : n - (i + 1) = k := congrArg Nat.pred h
theorem ar2 {n i k : Nat} (hk : k = n - i) (hi : i < n) : n - (i + 1) < k := hk ▸ Nat.sub_succ_lt_self _ _ hi
theorem ar3 {n m i : Nat} (h : n = m) (hi : i < n) : n - (i + 1) < m := h ▸ Nat.sub_lt (Nat.lt_of_le_of_lt (Nat.zero_le _) hi) (Nat.succ_pos _)
theorem ar4 {n i : Nat} (hi : i < n) : n - i = n - (i + 1) + 1 := (Nat.sub_add_cancel (Nat.sub_pos_of_lt hi)).symm
theorem ar5 {n : Nat} (h : 1 ≤ n) : n = n - 1 + 1 := (Nat.sub_add_cancel h).symm
theorem ar6 {a b c d : Nat} (h : a = b) (k : b ≤ c) (l : c ≤ d) : a ≤ d := h ▸ Nat.le_trans k l
theorem ar7 {a n m N : Nat} (h : a = min n m) (k : m ≤ N) : a ≤ N := h ▸ Nat.le_trans (Nat.min_le_right _ _) k
theorem toN {x : Int} {k : Nat} (h0 : 0 ≤ x) (h : x < k) : x.toNat < k := (Int.toNat_lt h0).mpr h
theorem toN1 {x : Int} {k : Nat} (h : x < 1 + (k : Int)) : x.toNat < 1 + k := by omega
def sN (k : String) (l : List Lean.Syntax) : Lean.Syntax := .node .none k.toName l.toArray
def sA (s : String) : Lean.Syntax := .atom .none s
def sI (s : String) : Lean.Syntax := .ident .none s.toRawSubstring s.toName []
def sL (l : List Lean.Syntax) : Lean.Syntax := sN "null" l
def sT (k : String) (l : List Lean.Syntax) : Lean.Syntax := sN ("Lean.Parser.Tactic." ++ k) l
def sE (k : String) (l : List Lean.Syntax) : Lean.Syntax := sN ("Lean.Parser.Term." ++ k) l
def sQ (l : List Lean.Syntax) : Lean.Syntax := sT "tacticSeq" [sT "tacticSeq1Indented" [sL l]]
def sW (k : String) (e : Lean.Syntax) : Lean.Syntax := sT k [sA k, e]
def sB (k a : String) (t : Lean.Syntax) : Lean.Syntax := sT k [sA a, sQ [t]]
def sR (t : Lean.Syntax) : Lean.Syntax := sB "withReducible" "with_reducible" t
def sF (t : Lean.Syntax) : Lean.Syntax := sB "failIfSuccess" "fail_if_success" t
def sP (a b : Lean.Syntax) : Lean.Syntax := sT "paren" [sA "(", sQ [a, sA ";", b], sA ")"]
def sO (l : List Lean.Syntax) : Lean.Syntax := sT "first" [sA "first", sL (l.map fun t => sN "group" [sA "|", sQ [t]])]
def sH : Lean.Syntax := sE "hole" [sA "_"]
def sG (x : Lean.Syntax) : Lean.Syntax := sE "syntheticHole" [sA "?", x]
def sM (n : String) (l : List Lean.Syntax) : Lean.Syntax := match l with
  | [] => sI n
  | _ => sE "app" [sI n, sL l]
def sY (t : Lean.Syntax) : Lean.Syntax := sE "byTactic" [sA "by", sQ [t]]
def sU (l : List Lean.Syntax) (b : Lean.Syntax) : Lean.Syntax := sE "fun" [sA "fun", sE "basicFun" [sL l, sL [], sA "=>", b]]
def sAs : Lean.Syntax := sT "assumption" [sA "assumption"]
def sD : Lean.Syntax := sT "decide" [sA "decide", sT "optConfig" [sL []]]
def sKd : Lean.Syntax := sN "PySem.W.tacticKd_p" [sA "kd_p"]
def tRfl : Lean.Syntax := sQ [sT "tacticRfl" [sA "rfl"]]
def tXr : Lean.Syntax := sQ [sW "exact" (sI "rfl")]
def tKr : Lean.Syntax := sQ [sN "tacticKernel_rfl" [sA "kernel_rfl"]]
def tWr : Lean.Syntax := sQ [sB "withUnfoldingAll" "with_unfolding_all" (sT "tacticRfl" [sA "rfl"])]
def tIr : Lean.Syntax := sQ [sW "exact" (sU [sH] (sI "rfl"))]
def tDe : Lean.Syntax := sQ [sD]
noncomputable def Room (A : Around) (n : Nat) : Prop := A.handled = none ∧ A.depth + n ≤ 1000 ∧ A.units + 8 * n ≤ 9000
theorem Room.le {A : Around} {m n : Nat} (h : m ≤ n) : Room A n → Room A m := fun ⟨a, b, c⟩ => ⟨a, by lia, by lia⟩
theorem Room.deeper {A : Around} {n : Nat} {env : Env} : Room A (n + 1) → Room (A.deeper env) n := fun ⟨a, b, c⟩ => ⟨a, by show A.depth + 1 + n ≤ _; lia, by show A.units + 3 + _ ≤ _; lia⟩
theorem Room.in1 {A : Around} {n : Nat} : Room A (n + 1) → Room A.in1 n := fun ⟨a, b, c⟩ => ⟨a, by show A.depth + n ≤ _; lia, by show A.units + 1 + _ ≤ _; lia⟩
theorem made_units (C : Addr) (r : List Value) (kw : List (Str × Value)) : (Code.builtin "type.__call__" ⟨.ref C :: r, kw⟩).cUnits = 1 := rfl
theorem Room.made {A : Around} {n : Nat} {C : Addr} {r : List Value} {kw : List (Str × Value)} : Room A (n + 1) → Room (A.under (.builtin "type.__call__" ⟨.ref C :: r, kw⟩)) n := fun ⟨a, b, c⟩ =>
  ⟨a, by show A.depth + 1 + n ≤ _; lia, by show A.units + (Code.builtin "type.__call__" ⟨.ref C :: r, kw⟩).cUnits + _ ≤ _; rw [made_units]; lia⟩
theorem Room.depth {A : Around} {n : Nat} (h : Room A (n + 1)) : A.depth < recursionLimit := by have := h.2.1; show _ < 1000; lia
theorem Room.units {A : Around} {n : Nat} (h : Room A n) : A.units < cLine := by have := h.2.2; show _ < 9900; lia
theorem nsOk (P : Params) : (nsOkIn (KK P) 0 && nsOkIn (KK P) 3 && nsOkIn (KK P) 2) = true := by kernel_rfl
theorem noLim (P : Params) : nsIn (KK P) 2 "sys.recursionlimit" = some none := by kernel_rfl
theorem mem_tab {tab : List (Str × Value)} {x : Str} {v : Value} : tab.lookup x = some v → (x, v) ∈ tab := by
  induction tab with
  | nil => intro e; cases e
  | cons p l ih =>
    obtain ⟨b, y⟩ := p
    intro e
    rw [List.lookup_cons] at e
    by_cases h : (x == b) = true
    · rw [h] at e; cases e; rw [beq_iff_eq.mp h]; exact .head _
    · rw [Bool.not_eq_true] at h; rw [h] at e; exact .tail _ (ih e)
section
variable {w : World} {S₀ s : Shared} {cs cs' : List Cell} {fs : List Fact} {A : Around} {E : Value → Shared → Prop} {env : Env}
theorem ns0 (X : (KK w.params).In s.heap) : s.heap.Ns 0 (s.heap.nsMap 0) := .of_isNs (isNs_of_in X (by have := nsOk w.params; rw [Bool.and_eq_true, Bool.and_eq_true] at this; exact this.1.1))
theorem ns3 (X : (KK w.params).In s.heap) : s.heap.Ns 3 (s.heap.nsMap 3) := .of_isNs (isNs_of_in X (by have := nsOk w.params; rw [Bool.and_eq_true, Bool.and_eq_true] at this; exact this.1.2))
theorem ns2 (X : (KK w.params).In s.heap) : s.heap.Ns 2 (s.heap.nsMap 2) := .of_isNs (isNs_of_in X (by have := nsOk w.params; rw [Bool.and_eq_true, Bool.and_eq_true] at this; exact this.2))
theorem nolim_of (X : (KK w.params).In s.heap) : s.heap.NoLimit := ⟨_, ns2 X, ns_none_of X (ns2 X) (noLim _)⟩
theorem ns_some_of {K : Frag} {h : Heap} {N : Addr} {mg : Str → Option Value} {n : Str} {v : Value} (X : K.In h) (G : h.Ns N mg) (e : nsIn K N n = some (some v)) : mg n = some v := by
  obtain ⟨o, es, ep, ho, hd, _, hf⟩ := G
  unfold nsIn at e
  split at e
  · rename_i c d es' n' sl q
    have := X _ _ q
    rw [ho] at this
    cases this
    cases hd
    split at e
    · rename_i en he
      cases e
      rw [← hf]
      unfold nsFind findBy
      rw [← Array.find?_toList, he]
      rfl
    · split at e <;> cases e
  · cases e
noncomputable def nameOk (k : NameKind) (env : Env) (x : Str) : Bool := env.scope.kind == .function && env.kindOf x == some k && !(x == ("__debug__" : Str))
noncomputable def okD (env : Env) (x : Str) : Bool := env.scope.kind == .function && !(x == ("__debug__" : Str))
noncomputable abbrev NameOk (k : NameKind) (env : Env) (x : Str) : Prop := true = nameOk k env x
noncomputable abbrev OkD (env : Env) (x : Str) : Prop := true = okD env x
noncomputable abbrev OkG (env : Env) (x : Str) : Prop := true = (nameOk .globalImplicit env x && env.globals == mainGlobals)
noncomputable abbrev OkB (env : Env) (x : Str) : Prop := true = (nameOk .globalImplicit env x && env.globals == mainGlobals && env.builtins == builtinsNs)
noncomputable abbrev OkF (env : Env) (x : Str) : Prop := true = (nameOk .free env x && !(x == ("__classdict__" : Str)))
noncomputable abbrev FnK (env : Env) : Prop := true = (env.scope.kind == .function)
theorem nameOk_of {k : NameKind} {x : Str} (h : nameOk k env x = true) : env.scope.kind = .function ∧ env.kindOf x = some k ∧ (x == ("__debug__" : Str)) = false := by
  unfold nameOk at h
  rw [Bool.and_eq_true, Bool.and_eq_true] at h
  exact ⟨beq_iff_eq.mp h.1.1, beq_iff_eq.mp h.1.2, (Bool.not_eq_true' _).mp h.2⟩
theorem nmL {L : Addr} {m : List (Str × Value)} {x : Str} {pos : Pos} {v : Value} {Q : Value → Shared → Prop} (C : St w S₀ cs fs s) (hm : Cell.ns L m ∈ cs) (hv : m.lookup x = some v) (h : Q v s)
    (hL : autoParam (L = env.locals) tRfl) (hk : autoParam (NameOk .local env x) tKr) :
    wpAny (model pw w) A (eval (.Name x pos) env) Q E s := by
  obtain ⟨k1, k2, k3⟩ := nameOk_of hk.symm
  exact wpAny_Name (wpAny_loadName_local k1 k2 (hL ▸ C.cell hm) hv h) k3
theorem nmG {x : Str} {pos : Pos} {v : Value} {Q : Value → Shared → Prop} (C : St w S₀ cs fs s) (e : gTab.lookup x = some v) (h : Q v s)
    (hk : autoParam (OkG env x) tKr) :
    wpAny (model pw w) A (eval (.Name x pos) env) Q E s := by
  have hk := Bool.and_eq_true_iff.mp hk.symm
  obtain ⟨k1, k2, k3⟩ := nameOk_of hk.1
  exact Name_function_global k1 k2 (loadGlobal_global (beq_iff_eq.mp hk.2 ▸ ns3 C.kin) (ns_some_of C.kin (ns3 C.kin) (beq_iff_eq.mp (List.all_eq_true.mp (gTab_ok w.params) _ (mem_tab e)))) h) k3
theorem nmB {x : Str} {pos : Pos} {v : Value} {Q : Value → Shared → Prop} (C : St w S₀ cs fs s) (e : bTab.lookup x = some v) (h : Q v s)
    (hk : autoParam (OkB env x) tKr) :
    wpAny (model pw w) A (eval (.Name x pos) env) Q E s := by
  have z := List.all_eq_true.mp (bTab_ok w.params) _ (mem_tab e)
  rw [Bool.and_eq_true] at z
  have hk := Bool.and_eq_true_iff.mp hk.symm
  have hg := Bool.and_eq_true_iff.mp hk.1
  obtain ⟨k1, k2, k3⟩ := nameOk_of hg.1
  exact Name_function_global k1 k2 (loadGlobal_builtin (beq_iff_eq.mp hg.2 ▸ ns3 C.kin) (ns_none_of C.kin (ns3 C.kin) (beq_iff_eq.mp z.1)) (beq_iff_eq.mp hk.2 ▸ ns0 C.kin) (ns_some_of C.kin (ns0 C.kin) (beq_iff_eq.mp z.2)) h) k3
theorem nsP_put {L : Addr} {m : List (Str × Value)} {x : Str} {v : Value} {h' : Heap} (hn : h'.Ns L (fun y => if y = x then some v else m.lookup y)) : h'.Ns L (fun y => ((x, v) :: m).lookup y) := by
  obtain ⟨o, es, ep, a, b, c, d⟩ := hn
  refine ⟨o, es, ep, a, b, c, fun y => (d y).trans ?_⟩
  show (if y = x then some v else m.lookup y) = ((x, v) :: m).lookup y
  rw [List.lookup_cons]
  by_cases q : y = x
  · rw [if_pos q, beq_iff_eq.mpr q]
  · rw [if_neg q, beq_eq_false_iff_ne.mpr q]
theorem stL {L : Addr} {m : List (Str × Value)} {x : Str} {v : Value} {Q : Unit → Shared → Prop} (C : St w S₀ cs fs s) (U : Upd (.ns L m) (.ns L ((x, v) :: m)) cs cs') (h : ∀ s', St w S₀ cs' fs s' → Q () s')
    (hL : autoParam (L = env.locals) tRfl) (hk : autoParam (FnK env) tKr) (hx : autoParam (some .local = env.kindOf x) tXr) :
    wpAny (model pw w) A (storeName env x v) Q E s := by
  subst hL
  have hk := beq_iff_eq.mp hk.symm
  exact wpAny_storeName_local hx.symm (C.cell U.mem) (fun h' hn hs => h _ (C.upd U hs rfl (nsP_put hn))) (by show (env.scope.kind == .class || (env.scope.kind == .module && env.locals != env.globals)) = false; rw [hk]; rfl)
theorem lookIn_mkD (P : Params) (x : Str) : ∀ l : Flds, lookIn x (mkD P l) = some (l.lookup x |>.map (·.2)) := by
  intro l
  have f : ∀ l : Flds, (mkEs P l).find? (·.key.isStr x) = (l.find? fun p => p.1 == x).map fun p => ⟨PyData.keyHash P p.1, .str p.1 p.2.1, p.2.2⟩ := by
    intro l
    induction l with
    | nil => rfl
    | cons p l ih =>
      unfold mkEs at ih ⊢
      rw [List.map_cons, List.find?_cons, List.find?_cons, ih]
      have : (Value.str p.1 p.2.1).isStr x = (p.1 == x) := rfl
      rw [this]
      cases p.1 == x <;> rfl
  have g : ∀ l : Flds, (mkEs P l).any (·.refKey) = false := by
    intro l
    induction l with
    | nil => rfl
    | cons p l ih => unfold mkEs at ih ⊢; rw [List.map_cons, List.any_cons, ih]; rfl
  have k : ∀ l : Flds, l.lookup x = (l.find? fun p => p.1 == x).map (·.2) := by
    intro l
    induction l with
    | nil => rfl
    | cons p l ih =>
      obtain ⟨a, b⟩ := p
      rw [List.lookup_cons, List.find?_cons, ih]
      by_cases q : x = a
      · rw [beq_iff_eq.mpr q, beq_iff_eq.mpr q.symm]; rfl
      · rw [beq_eq_false_iff_ne.mpr q, beq_eq_false_iff_ne.mpr (Ne.symm q)]
  unfold lookIn mkD dictOf
  dsimp only
  rw [f, k]
  cases l.find? (fun p => p.1 == x) with
  | some p => rfl
  | none => simp only [Option.map_none]; rw [g]; rfl
end
noncomputable def IsI (cs : List Cell) (fs : List Fact) (a D : Addr) (l : Flds) : Prop := Fact.ins a D l ∈ fs ∨ ∃ d, (Fact.ob a (instObj D d) ∈ fs ∨ Cell.ob a (instObj D d) ∈ cs) ∧ (Cell.di d l ∈ cs ∨ Fact.di d l ∈ fs)
theorem lookup_mem {α β : Type} [BEq α] [LawfulBEq α] {tab : List (α × β)} {x : α} {v : β} : tab.lookup x = some v → (x, v) ∈ tab := by
  induction tab with
  | nil => intro e; cases e
  | cons p l ih =>
    obtain ⟨b, y⟩ := p
    intro e
    rw [List.lookup_cons] at e
    by_cases h : (x == b) = true
    · rw [h] at e; cases e; rw [beq_iff_eq.mp h]; exact .head _
    · rw [Bool.not_eq_true] at h; rw [h] at e; exact .tail _ (ih e)
structure CTab (K : Frag) (D : Addr) : Prop where
  get : plainGet K D "" = true
  dct : hasDictIn K D = true
  made : makesIn K D = true
  over : plainOver K D = true
  keep : keepIn K (.ref D) = true
  set : findIn K (.ref D) "__setattr__" = some (some (.builtin "object.__setattr__"))
  bool : findIn K (.ref D) "__bool__" = some none
  len : D = 1406 ∨ findIn K (.ref D) "__len__" = some none
  cls : findIn K (.ref D) "__class__" = some (some (.builtin "object.__class__"))
  top : mroIn K D (.type "object") = some true
theorem cT {P : Params} {D : Addr} (h : cTab.contains D = true) : CTab (KK P) D := by
  have z := List.all_eq_true.mp (cTab_ok P) D (List.contains_iff_mem.mp h)
  simp only [Bool.and_eq_true, Bool.or_eq_true, beq_iff_eq] at z
  obtain ⟨⟨⟨⟨⟨⟨⟨⟨⟨a, b⟩, c⟩, d⟩, e⟩, f⟩, g⟩, i⟩, j⟩, k⟩ := z
  exact ⟨a, b, c, d, e, f, g, i, j, k⟩
theorem dT {P : Params} {D : Addr} {n : Str} {r : Option Value} (h : dTab.lookup (D, n) = some r) : findIn (KK P) (.ref D) n = some r ∧ noGet (KK P) r = true ∧ takerIn (KK P) D n = some none := by
  have z := List.all_eq_true.mp (dTab_ok P) _ (lookup_mem h)
  simp only [Bool.and_eq_true, beq_iff_eq] at z
  exact ⟨z.1.1, z.1.2, z.2⟩
theorem mT {P : Params} {D : Addr} {n : Str} {f : Addr} (h : mTab.lookup (D, n) = some f) : findIn (KK P) (.ref D) n = some (some (.ref f)) ∧ typeIn (KK P) (.ref f) = some (.type "function") ∧ keepIn (KK P) (.ref f) = true := by
  have z := List.all_eq_true.mp (mTab_ok P) _ (lookup_mem h)
  simp only [Bool.and_eq_true, beq_iff_eq] at z
  exact ⟨z.1.1, z.1.2, z.2⟩
theorem iT {P : Params} {D f : Addr} (h : iTab.lookup D = some f) : findIn (KK P) (.ref D) "__init__" = some (some (.ref f)) ∧ typeIn (KK P) (.ref f) = some (.type "function") := by
  have z := List.all_eq_true.mp (iTab_ok P) _ (lookup_mem h)
  simp only [Bool.and_eq_true, beq_iff_eq] at z
  exact z
section
variable {w : World} {S₀ s : Shared} {cs cs' : List Cell} {fs : List Fact} {A : Around} {E : Value → Shared → Prop} {env : Env} {a D : Addr} {l : Flds}
theorem St.inst (C : St w S₀ cs fs s) (h : IsI cs fs a D l) : ∃ ox, ox.dict.isSome = true ∧ InstAt s.heap a ox D (some (mkD w.params l)) := by
  obtain ⟨g, X, Y⟩ := C
  rcases h with h | ⟨d, h1, h2⟩
  · obtain ⟨d, x, y⟩ := Y _ h
    exact ⟨instObj D d, rfl, X.sub _ _ x, rfl, rfl, X.sub _ _ y⟩
  · have hx : s.heap.get? a = some (instObj D d) := h1.elim (fun h => X.sub _ _ (Y _ h)) fun h => X.cells _ h
    have hy : s.heap.get? d = some (mkD w.params l) := h2.elim (fun h => X.cells _ h) fun h => X.sub _ _ (Y _ h)
    exact ⟨instObj D d, rfl, hx, rfl, rfl, hy⟩
theorem atI {n : Str} {r : Option Value} {t : Tok} {v : Value} {ex : Bool} {Q : Value → Shared → Prop} (C : St w S₀ cs fs s) (hi : IsI cs fs a D l) (hd : dTab.lookup (D, n) = some r) (hl : l.lookup n = some (t, v)) (h : ∀ s', St w S₀ cs fs s' → Q v s')
    (hv : autoParam (handedIn v = true) tRfl) (hc : autoParam (cTab.contains D = true) tRfl) : wpAny (model pw w) A (getAttr (.ref a) n ex) Q E s := by
  obtain ⟨ox, _, I⟩ := C.inst hi
  obtain ⟨d1, d2, _⟩ := dT (P := w.params) hd
  exact get_value C.kin I (plainGet_of (cT hc).get).1 (findObj_own (cT hc).dct d1 d2 (by rw [lookIn_mkD, hl]; rfl)) hv (h _ C.tick)
theorem atK {n : Str} {v : Value} {ex : Bool} {Q : Value → Shared → Prop} (C : St w S₀ cs fs s) (hi : IsI cs fs a D l) (hd : dTab.lookup (D, n) = some (some v)) (hl : l.lookup n = none) (h : ∀ s', St w S₀ cs fs s' → Q v s')
    (hn : autoParam (copiedNames.contains n = false) tKr) (hv : autoParam (handedIn v = true) tRfl) (hc : autoParam (cTab.contains D = true) tRfl) : wpAny (model pw w) A (getAttr (.ref a) n ex) Q E s := by
  obtain ⟨ox, _, I⟩ := C.inst hi
  obtain ⟨d1, d2, _⟩ := dT (P := w.params) hd
  exact get_value C.kin I (plainGet_of (cT hc).get).1 (findObj_cls (cT hc).dct d1 (beq_iff_eq.mp d2) hv hn (by rw [lookIn_mkD, hl]; rfl)) hv (h _ C.tick)
theorem gmI {n : Str} {f : Addr} {pl : Sem Bool} {Q : Value × List Value → Shared → Prop} (C : St w S₀ cs fs s) (hi : IsI cs fs a D l) (hm : mTab.lookup (D, n) = some f) (hl : l.lookup n = none) (h : Q (.ref f, [.ref a]) s)
    (hc : autoParam (cTab.contains D = true) tRfl) : wpAny (model pw w) A (getMethod (.ref a) n pl) Q E s := by
  obtain ⟨ox, _, I⟩ := C.inst hi
  obtain ⟨m1, m2, _⟩ := mT (P := w.params) hm
  obtain ⟨g1, g2⟩ := plainGet_of (name := "") (cT (P := w.params) hc).get
  exact method_fn C.kin I g1 g2 m1 m2 (by show (lookIn n (mkD w.params l)).map _ = _; rw [lookIn_mkD, hl]; rfl) h
theorem keepF {P : Params} {f : Addr} {fd : FuncData} {body : List Stmt} (o : FnOk f fd body) : keepIn (KK P) (.ref f) = true := o.keep P
theorem cwK {f : Value} {first : List Value} {args : List Expr} {pos : Pos} {Q : Value → Shared → Prop} (hk : keepIn (KK w.params) f = true) (C : St w S₀ cs fs s)
    (h : wpAny (model pw w) A (spliced (backTo pos (starEach args env))) (fun vs s₁ => (KK w.params).In s₁.heap ∧ wpAny (model pw w) A (call f (first ++ vs)) Q E s₁) E s)
    (he : args = [] ∨ ∃ e r, args = e :: r ∧ starEach (e :: r) env = (false, eval e env) :: starEach r env ∧ (backTo pos (starEach r env)).any (·.1) = false) :
    wpAny (model pw w) A (callWith pos f first (backTo pos (starEach args env)) []) Q E s := by
  rcases he with rfl | ⟨e, r, rfl, h1, h2⟩
  · have z : wpAny (model pw w) A (spliced []) _ _ _ := h
    have : Q = Q := rfl
    exact callWith_K0 C.kin hk (by
      have q := h
      have e : spliced (backTo pos (starEach [] env)) = pure [] := rfl
      rw [e] at q
      exact (fun Γ p hΓ => (q Γ p hΓ).2 Γ p hΓ))
  · exact callWith_K C.kin hk h h1 h2
end
theorem reS {w : World} {S₀ : Shared} {cs : List Cell} {fs : List Fact} {φ : Shared → Prop} {s : Shared} (C : St w S₀ cs fs s) (h : St w S₀ cs fs s → φ s) : φ s := h C
section
variable {M : Model} {A : Around} {E : Value → Shared → Prop} {s : Shared} {env : Env}
theorem gEv {e : Expr} {Q : Value → Shared → Prop} (h : wpAny M A (eval e env) Q E s) : wpAny M A (eval e env) Q E s := h
theorem gNm {x : Str} {pos : Pos} {Q : Value → Shared → Prop} (h : wpAny M A (eval (.Name x pos) env) Q E s) : wpAny M A (eval (.Name x pos) env) Q E s := h
theorem gXs {l : List Stmt} {Q : Flow → Shared → Prop} (h : wpAny M A (execs l env) Q E s) : wpAny M A (execs l env) Q E s := h
theorem gXc {l : Stmt} {Q : Flow → Shared → Prop} (h : wpAny M A (exec l env) Q E s) : wpAny M A (exec l env) Q E s := h
theorem gSp {l : List (Bool × Sem Value)} {Q : List Value → Shared → Prop} (h : wpAny M A (spliced l) Q E s) : wpAny M A (spliced l) Q E s := h
theorem gCw {pos : Pos} {f : Value} {first : List Value} {args : List (Bool × Sem Value)} {kw : List (Option Str × Sem Value)} {Q : Value → Shared → Prop} (h : wpAny M A (callWith pos f first args kw) Q E s) : wpAny M A (callWith pos f first args kw) Q E s := h
theorem gCa {f : Value} {args : List Value} {Q : Value → Shared → Prop} (h : wpAny M A (call f args) Q E s) : wpAny M A (call f args) Q E s := h
theorem gAt {v : Value} {n : Str} {ex : Bool} {Q : Value → Shared → Prop} (h : wpAny M A (getAttr v n ex) Q E s) : wpAny M A (getAttr v n ex) Q E s := h
theorem gMe {v : Value} {n : Str} {pl : Sem Bool} {Q : Value × List Value → Shared → Prop} (h : wpAny M A (getMethod v n pl) Q E s) : wpAny M A (getMethod v n pl) Q E s := h
theorem gIs {e : Expr} {m : Sem Value} {Q : Bool → Shared → Prop} (h : wpAny M A (isTrue e env m) Q E s) : wpAny M A (isTrue e env m) Q E s := h
theorem gTr {v : Value} {Q : Bool → Shared → Prop} (h : wpAny M A (truthy v) Q E s) : wpAny M A (truthy v) Q E s := h
theorem gSt {x : Str} {v : Value} {Q : Unit → Shared → Prop} (h : wpAny M A (storeName env x v) Q E s) : wpAny M A (storeName env x v) Q E s := h
theorem gCo {op : CmpOp} {a b : Value} {Q : Value → Shared → Prop} (h : wpAny M A (compareOp op a b) Q E s) : wpAny M A (compareOp op a b) Q E s := h
theorem gSu {e e' : Expr} {a b : Value} {Q : Value → Shared → Prop} (h : wpAny M A (subscriptTail e e' a b) Q E s) : wpAny M A (subscriptTail e e' a b) Q E s := h
theorem gIte {c : Prop} [Decidable c] {a b : Prop} (h : if c then a else b) : if c then a else b := h
theorem gAnd {a b : Prop} (h : a ∧ b) : a ∧ b := h
end
theorem ite_d1 {c : Prop} [Decidable c] {a b : Prop} (hc : c) (h : a) : if c then a else b := by rw [if_pos hc]; exact h
theorem ite_d2 {c : Prop} [Decidable c] {a b : Prop} (hc : ¬ c) (h : b) : if c then a else b := by rw [if_neg hc]; exact h
theorem wkRefl {α : Type} {l : List α} : ∀ f ∈ l, f ∈ l := fun _ h => h
theorem wkCons {α : Type} {a : α} {l l' : List α} (h : a ∈ l') (hs : ∀ f ∈ l, f ∈ l') : ∀ f ∈ a :: l, f ∈ l' := List.forall_mem_cons.mpr ⟨h, hs⟩
section
variable {w : World} {S₀ s : Shared} {P : Shared → Prop}
theorem reS1 (L : Addr) (m : List (Str × Value)) (t : List Cell) (f : List Fact) (C : St w S₀ (.ns L m :: t) f s) (h : St w S₀ (.ns L m :: t) f s → P s) : P s := h C
theorem reS2 (t : List Cell) (f : List Fact) (C : St w S₀ t f s) (h : St w S₀ t f s → P s) : P s := h C
theorem reS3 (u : List Cell) (L : Addr) (m : List (Str × Value)) (t : List Cell) (f : List Fact) (C : St w S₀ (u ++ .ns L m :: t) f s) (h : St w S₀ (u ++ .ns L m :: t) f s → P s) : P s := h C
end
def sV (x : String) (l : List Lean.Syntax) (v b : Lean.Syntax) : Lean.Syntax :=
  sE "let" [sA "let", sE "letConfig" [sL []], sE "letDecl" [sE "letIdDecl" [sE "letId" [sI x], sL [], sL l, sA ":=", v]], sA ";", b]
def wkKey (s : String) : Lean.Syntax := sN "PyProof.Rows.tacticWalk_at_" [sA "walk_at", Lean.Syntax.mkStrLit s]
def wkArg (f : String → Lean.Syntax) (c : Char) : Lean.Syntax := match c with
  | 'a' => sY sAs
  | '_' => sG (sA "_")
  | 'u' => sH
  | 'B' => sU [sH, sH] (sG (sA "_"))
  | 'T' => sU [sH, sH, sH] (sG (sA "_"))
  | 'X' => sU (List.replicate 11 sH) (sG (sA "_"))
  | 'S' => sU [sH] (sG (sA "_"))
  | 'R' => sI "rfl"
  | 'V' => sI "vol1_mem"
  | 'W' => sI "vol2_mem"
  | 'O' => sM "Or.inl" [sG (f "k1")]
  | 'm' => sI "__m"
  | 't' => sI "__t"
  | 'f' => sI "__f"
  | c => sG (f ("k" ++ toString c))
def wkSide (c : Char) : Lean.Syntax := match c with
  | 'r' => sW "exact" (sI "rfl")
  | 'k' => sN "tacticKernel_rfl" [sA "kernel_rfl"]
  | 'M' => wkKey "mm"
  | 'L' => wkKey "lk"
  | 'a' => sR sAs
  | 'A' => sAs
  | 'd' => sD
  | 'U' => sB "withUnfoldingAll" "with_unfolding_all" (sT "tacticRfl" [sA "rfl"])
  | 't' => sW "exact" (sI "True.intro")
  | 'p' => sO [sAs, sKd]
  | 'v' => sO [sD, sAs]
  | 'c' => sO [sAs, sN "tacticKernel_rfl" [sA "kernel_rfl"]]
  | 'e' => sO [sAs, sW "exact" (sI "rfl")]
  | 'f' => sO [sR sAs, sW "exact" (sI "rfl")]
  | 'j' => sO [sAs, sW "exact" (sM "And.intro" [sY sD, sY sD])]
  | 'x' => sW "exact" (sU [sH] (sI "rfl"))
  | 'o' => sP (sW "refine" (sM "Room.le" [sG (sA "_"), sY sAs])) sKd
  | 'V' => sW "exact" (sM "code284" [sH])
  | 'Q' => sW "exact" (sM "code298" [sH])
  | 'W' => sW "exact" (sU [sH, sH] (sY (wkKey "m")))
  | c => wkKey (toString c)
def wkSides (f : String → Lean.Syntax) : List Char → Lean.Syntax → Lean.Syntax
  | 'K' :: r, t => wkSides f r (sP t (wkKey "k"))
  | 'I' :: r, t => wkSides f r (sP t (wkKey "kI"))
  | 'Z' :: d :: r, t => wkSides f r (sP t (wkKey (toString d)))
  | c :: d :: r, t => wkSides f r (sP t (sT "case" [sA "case", sL [sT "caseArg" [sN "Lean.binderIdent" [f ("k" ++ toString c)], sL []]], sA "=>", sQ [wkSide d]]))
  | _, t => t
def wkRule (f : String → Lean.Syntax) (n as : String) : Lean.Syntax := sM n (as.toList.map (wkArg f))
abbrev wkP := Shared → Prop
abbrev wkB := Bool → Shared → Prop
def sC : Lean.Syntax := sE "typeAscription" [sE "hygienicLParen" [sA "(", sN "hygieneInfo" [sI ""]], sG (sA "_"), sA ":", sL [sM "wpAny" [sH, sH, sH, sI "__K", sH, sH]], sA ")"]
def sZ (l : List Lean.Syntax) : Lean.Syntax := sT "dsimp" [sA "dsimp", sT "optConfig" [sL [sT "configItem" [sT "valConfigItem" [sA "(", sI "zetaDelta", sA ":=", sI "true", sA ")"]]]], sL [], sL [sA "only"], sL [], sL l]
def sTy (s : String) : Lean.Syntax := sE "typeSpec" [sA ":", sI s]
def wkAlt (f : String → Lean.Syntax) (s : String) : Lean.Syntax :=
  let l := s.splitOn " "
  let h := l.headD ""
  let n := l.getD 1 ""
  let k := l.getD 2 ""
  let e := fun t => wkSides f (l.getD 3 "").toList t
  let w := fun m => sW m (wkRule f n k)
  if h = "=" then sR (w "exact")
  else if h = "!" then e (sR (w "refine"))
  else if h = "-" then e (w "refine")
  else if h = "+" then e (w "refine'")
  else if h = "@" then wkSides f k.toList (sR (sW "apply" (sI n)))
  else if h = "?" then sP (sF (sF (sR (sW "refine" (wkRule f n "_"))))) (wkKey k)
  else if h = "#" then wkSide n.front
  else if h = ";" then sP (wkKey n) (wkKey k)
  else if h = "key" then wkKey n
  else if h = "foc" then sT "focus" [sA "focus", sQ [wkKey n]]
  else if h = "rep" then sT "tacticRepeat_" [sA "repeat", sQ [wkKey n]]
  else if h = "~" then sP (sF (sR (sW "refine'" (wkRule f "List.mem_cons_of_mem" "u_")))) (sP (sF (sR (sW "refine'" (wkRule f "List.mem_append_right" "u_")))) (sR sAs))
  else if h = "let3" then sR (sW "refine'" (sV "__m" [] sH (sV "__t" [] sH (sV "__f" [] sH (wkRule f n k)))))
  else if h = "let2" then sR (sW "refine'" (sV "__t" [] sH (sV "__f" [] sH (wkRule f n k))))
  else if h = "letK" then sR (sW "refine'" (sV "__K" [] sH sC))
  else if h = "letI" then sR (sW "refine'" (sV "__X" [sTy "wkP"] sH (sV "__Y" [sTy "wkP"] sH (sV "__K" [sTy "wkB"]
      (sU [sI "b", sI "s"] (sM "ite" [sM "Eq" [sI "b", sI "true"], sM "__X" [sI "s"], sM "__Y" [sI "s"]])) sC))))
  else if h = "zC" then sZ [sT "location" [sA "at", sT "locationHyp" [sL [sI "C"], sL []]]]
  else if h = "zG" then sZ []
  else if h = "skip" then sT "skip" [sA "skip"]
  else wkSides f k.toList (sR (sW "refine'" (wkRule f h n)))
def wkTab : String := "b
= b_isinstance |= b_len |= b_range |= b_abs |= b_enumerate |= b_all |= b_any |= b_bool |= b_int |= b_sorted |= b_set |= b_max |= b_str 
g
= g__union |= g_unique_variable |= g_VariableExpression |= g__is_letter_and_digits |= g_is_indvar |= g_is_funcvar |= g_is_eventvar |= g__law_box |= g__law_take |= g__law_drawn |= g__law_part |= g__law_formula |= g__law_true |= g_law |= g_Deadline |= g_Counter |= g_Variable |= g_SubstituteBindingsI |= g_Expression |= g_ApplicationExpression |= g_AbstractVariableExpression |= g_IndividualVariableExpression |= g_FunctionVariableExpression |= g_EventVariableExpression |= g_ConstantExpression |= g_VariableBinderExpression |= g_LambdaExpression |= g_QuantifiedExpression |= g_ExistsExpression |= g_AllExpression |= g_NegatedExpression |= g_BinaryExpression |= g_BooleanExpression |= g_AndExpression |= g_OrExpression |= g_ImpExpression |= g_IffExpression |= g_EqualityExpression |= g_TableauProver |= g_Agenda |= g_Debug |= g_Categories 
mm
+ Or.inl 1 1m|+ Or.inr 1 1m
lam1
lamE aV2345678X 2k3k4r5r6r7r8V
lam2
lamE aW2345678X 2k3k4r5r6r7r8Q
w
= wkRefl |= List.forall_mem_nil u|wkCons 1_ 1mZw|# W
s
= List.Sublist.refl u|@ List.Sublist.cons Zs|# a
yW
cwB0 _12 1r2kK|cwK11 a3_12 3v1r2rK|cwK10 a3_12 3v1r2rK|cwK01 a3_ 3vK|cwB1 _12 1r2rK|cwK00 a3_ 3vK|cwT0 _12 1r2kK|cwF0 a14_23 1m4t2r3kK
yC
isiE346 a1B 1m|isiVar a1B 1m|isiT a12345B 1i2r3r4r5r|isiF a12345B 1i2r3r4r5r|isiStr _|appL a12B 1u2p|insL a12B 1u2p|lenL a12T 1M2p|absI aT|call_take a312T 3o1u2j
yA
atCat a1T 1f|atI a123B45 1i2r3L4r5r|atK a123B645 1i2r3L6k4r5r
yM
gmE a12_3 1m2e3k|gmI a123_4 1i2r3L4r|gmIsAtom aB|gmL a1_ 1m|gmIns a1_ 1m
yT
wpAny_isTrue_Compare1 _1 1rK|isTrue_not _ K|isTrue_and _ K|isTrue_and_nil _|isTrue_or _ K|isTrue_or_nil _|isTrue_IfExp _ K|isTrue_plain _1 1rK
yV
wpAny_truthy_bool _|PyProof.Rows.truthy_none _|truthyL a12B 1M2p|truthyI a1_23 1i2r3d
yN
stL a1B234 4r1u2r3k|stC0 a1B234 4r2r1u3k|stC a1B234 4r2r1u3k
yO
eqI _|isN _|isR _|isnN _|isnR _|ltI _|gtI _|Tbx.inS _|Tbx.ninS _|PyProof.Rows.eq_str _|leI _|PyProof.Rows.eq_bool _
yU
tailL a1234_5 1M2d3d4r5U|tailT a12364_5 1m2d3d6r4r5U|tailS0 a12T3 1m2c3U|tailS1 a12T3 1m2c3U
yI
! ite_tt _|! ite_ff _|! ite_n1 _|! ite_n2 _|- ite_d1 1_ 1d|- ite_d2 1_ 1d
yJ
! And.intro R_|kinAnd a_|fnAnd a14_ 1m4t
mI
let3 reS3 uumtfaS
zC
zC|skip
zG
zG|skip
Y
foc Y1
Y1
; k Y2
Y2
; cI Y3
Y3
rep y
B
; k B1
B1
+ wpAny_execs_cons _ K"
def wkHot (k : String) : String :=
  if k = "m" then "= List.mem_cons_self |List.mem_cons_of_mem u_ Zm|= Ag.m_d |= Ag.m_sl |= Ag.m_aa |List.mem_append_right u_ Zm|~"
  else if k = "k" then "letK|skip"
  else if k = "y" then "? gEv yE|? gXs yX|? gXc yS|? gSp yP|? gIs yT|? gCw yW|? gCa yC|? gIte yI|? gTr yV|? gAt yA|? gMe yM|? gSt yN|? gAnd yJ|? gCo yO|? gSu yU|stI aO23B45 1m2r3u4k5r|newLi aT1 1r|newTu aT1 1r|iterL a1T 1M|wpAny_assign_Name _ K|partN _|partS _|newSl aT|addI aT|subI aT|iaddI aT|isubI aT|PyProof.Rows.joinParts_cons _ K|modI a1T 1j|fdivI a1T 1j"
  else if k = "yE" then "? gNm n|methL a12_456 1m4r2L6r5kK|MethodCall_ _1 1rK|isinst_ a123_45 3a1m4r2L5k|Call_ _1 1rK|attL a12_45 1m4r2L5k|Attribute_Name_ _1 1rK|Attribute_any_ _1 1rK|conI aT|PyProof.Rows.Constant_none _|PyProof.Rows.Constant_bool _|conS aT|List_ _ K|Tuple_ _ K|PyProof.Rows.Subscript_ _ K|wpAny_Compare1 _ K|BoolOp_and _ K|BoolOp_or _ K|BoolOp_one _ K|IfExp_ _ I|Tbx.Slice_ _ K|wpAny_BinOp _ K|JoinedStr_many _ K|PyProof.Rows.FormattedValue_plain _ K|UnaryOp_ _ K"
  else if k = "n" then "nmB a234 2a4k|nmG a234 2a4k|nmL a12345 1m4r2L5k|nmC a12354 5r2r1m4k|nmF a1234 2r1m4k|nmB a234 2b4k|nmG a234 2g4k"
  else if k = "yP" then "argL a12_45 1m4r2L5kK|args_cons _1 1rK|args_nil _"
  else if k = "yX" then "wpAny_execs_cons _ K|wpAny_execs_nil _"
  else if k = "yS" then "! wpAny_Return_some _ K|wpAny_If _ I|wpAny_Assign_Name _1 1rK|wpAny_Expr_any _12 1r2rK|For_ _1 1xK|plainObj_wpAny_Assign_Attribute _1 1rK|assertT _ K|wpAny_AugAssign_AttributeAny _ K|Assign_Tuple _12 1r2rK"
  else if k = "cI" then "let3 reS1 umtfaS|let2 reS2 tfaS|skip"
  else if k = "lk" then "# r|# a|# A"
  else if k = "kI" then "letI|key k"
  else if k = "u" then "= Tbx.Upd.head |@ Tbx.Upd.tail Zu|@ Tbx.Upd.appR Zu"
  else if k = "i" then "+ isI1 1 1m|+ isI2 12 1m2m|+ isI3 12 1m2m|+ isI4 12 1m2m"
  else ""
def wkFind (k : String) : List String → Option String
  | a :: b :: r => if a = k then some b else wkFind k r
  | _ => none
def wkM (k : String) : Lean.MacroM Lean.Syntax := do
  let c ← read
  let h := wkHot k
  match if h = "" then wkFind k (wkTab.splitOn "\n") else some h with
  | some l => return sO ((l.splitOn "|").map (wkAlt fun n => Lean.mkIdent (Lean.addMacroScope c.quotContext n.toName c.currMacroScope)))
  | none => Lean.Macro.throwUnsupported
noncomputable def putF (n : Str) (tk : Tok) (v : Value) : Flds → Flds
  | [] => [(n, tk, v)]
  | p :: r => if p.1 == n then (p.1, p.2.1, v) :: r else p :: putF n tk v r
theorem putL_mkEs {P : Params} {n : Str} {tk : Tok} {v : Value} : ∀ l : Flds, putL n (PyData.keyHash P n) (.str n tk) v (mkEs P l) = mkEs P (putF n tk v l)
  | [] => rfl
  | p :: r => by
    have ih := putL_mkEs (P := P) (n := n) (tk := tk) (v := v) r
    unfold mkEs at ih ⊢
    unfold putF
    rw [List.map_cons]
    unfold putL
    have : (Value.str p.1 p.2.1).isStr n = (p.1 == n) := rfl
    rw [this, ih]
    cases p.1 == n <;> rfl
theorem putN_mkEs {P : Params} {n : Str} {tk : Tok} {v : Value} (l : Flds) : putN n (mkEs P l) l.length = (putF n tk v l).length := by
  have h : ∀ l : Flds, (if (mkEs P l).any (·.key.isStr n) then l.length else l.length + 1) = (putF n tk v l).length := by
    intro l
    induction l with
    | nil => rfl
    | cons p r ih =>
      unfold mkEs at ih ⊢
      rw [List.map_cons, List.any_cons]
      have : (Value.str p.1 p.2.1).isStr n = (p.1 == n) := rfl
      rw [this]
      unfold putF
      cases p.1 == n with
      | true => rfl
      | false =>
        simp only [Bool.false_or, Bool.false_eq_true, if_false, List.length_cons]
        rw [← ih]
        split <;> rfl
  exact h l
theorem putName_mkD {P : Params} {n : Str} {tk : Tok} {v : Value} (l : Flds) : Obj.putName n (PyData.keyHash P n) (.str n tk) v (mkD P l) = mkD P (putF n tk v l) := by
  unfold mkD
  rw [putName_dict, putL_mkEs, putN_mkEs (tk := tk) (v := v)]
theorem any_isStr {P : Params} {n : Str} (l : Flds) : ((mkEs P l).any (·.refKey)) = false := by
  induction l with
  | nil => rfl
  | cons p l ih => unfold mkEs at ih ⊢; rw [List.map_cons, List.any_cons, ih]; rfl
section
variable {w : World} {S₀ s : Shared} {cs cs' : List Cell} {fs : List Fact} {A : Around} {E : Value → Shared → Prop} {env : Env} {a D : Addr} {l : Flds}
theorem stI {d : Addr} {n : Str} {r : Option Value} {v : Value} {Q : Unit → Shared → Prop} (C : St w S₀ cs fs s) (hx : Fact.ob a (instObj D d) ∈ fs ∨ Cell.ob a (instObj D d) ∈ cs) (hd : dTab.lookup (D, n) = some r)
    (U : Upd (.di d l) (.di d (putF n (s.toks + 1) v l)) cs cs') (k : ∀ s', St w S₀ cs' fs s' → Q () s') (hz : autoParam (Nat.blt l.length 900 = true) tKr)
    (hc : autoParam (cTab.contains D = true) tRfl) : wpAny (model pw w) A (setAttr (.ref a) n v) Q E s := by
  have X := C.kin
  have hz := Nat.ble_eq.mp hz
  obtain ⟨d1, d2, d3⟩ := dT (P := w.params) hd
  have c := cT (P := w.params) hc
  have hl : Cell.di d l ∈ cs := U.mem
  obtain ⟨ox, hox, I⟩ := C.inst (.inr ⟨d, hx, .inl hl⟩)
  have hD : s.heap.get? d = some (mkD w.params l) := C.cell hl
  obtain ⟨cd, hcd, hd'⟩ := any_some (show (clsIn (KK w.params) D).any (·.hasDict) = true from c.dct)
  have hxa : s.heap.get? a = some (instObj D d) := by
    obtain ⟨g, Y, Z⟩ := C
    exact hx.elim (fun h => Y.sub _ _ (Z _ h)) fun h => Y.cells _ h
  have KU := fun (h' : Heap) (tk : Tok) (up : h'.get? d = some (mkD w.params (putF n (s.toks + 1) v l))) (sb : Heap.SameBut d s.heap h') => k _ (C.upd (h' := h') (tk := tk) U sb rfl (show (Cell.di d _).ok w.params h' from up))
  clear k C
  obtain ⟨hh, gg, dr, t, os⟩ := s
  refine set_plain X I c.set (osa_open (s := ⟨hh, gg, dr, t + 1, os⟩) X I c.over d3 fun b => ?_)
  refine wpAny_bind (wpAny_pure (wpAny_bind (wpAny_bind (wpAny_loadPart hxa (wpAny_bind ((looks_clsIn X hcd).at ?_))))))
  rw [hd']
  refine wpAny_pure (a := some d) (wpAny_bind (wpAny_pure (wpAny_bind ?_)))
  unfold nsSet
  refine wpAny_bind (wpAny_bind (wpAny_askSetting (wpAny_pure (wpAny_bind (wpAny_mkText (wpAny_bind (wpAny_loadPart hD ?_)))))))
  have cc : (!(mkEs w.params l).toArray.any (·.key.isStr n) && (mkEs w.params l).toArray.any (·.refKey)) = false := by
    rw [← Array.any_toList, ← Array.any_toList, any_isStr (n := n), Bool.and_false]
  rw [show (mkD w.params l).data = .dict (mkEs w.params l).toArray l.length from rfl]
  dsimp only
  rw [aRefKeyMayBeTheName_at, cc]
  have e : Obj.putName n (PyData.keyHash w.params n) (.str n (t + 1)) v (mkD w.params l) = mkD w.params (putF n (t + 1) v l) := putName_mkD l
  have hp : (putF n (t + 1) v l).length ≤ l.length + 1 := by
    have : ∀ l : Flds, (putF n (t + 1) v l).length ≤ l.length + 1 := by
      intro l
      induction l with
      | nil => exact Nat.le_refl _
      | cons p l ih => unfold putF; split <;> simp only [List.length_cons] <;> lia
    exact this l
  have up : (hh.update d (Obj.putName n (PyData.keyHash w.params n) (.str n (t + 1)) v)).get? d = some (mkD w.params (putF n (t + 1) v l)) := by
    rw [Heap.get?_update_self _ hD (by rw [e]; rfl), e]
  refine wpAny_updatePart hD ?_
  refine wpAny_bind (wpAny_lookBehind up (pastItsLine_dict (by rw [List.size_toArray, sizeLine_eq]; unfold mkEs; rw [List.length_map]; lia)) ?_)
  exact wpAny_pure (KU _ _ up (Heap.SameBut.update ..))
noncomputable abbrev NoCell (fd : FuncData) : Prop := true = fd.scope.names.all fun x => x.2 != .cell
noncomputable abbrev AllLoc (fd : FuncData) (binds : List (Str × Value)) : Prop := true = binds.all fun x => fd.scope.names.lookup x.1 == some .local
noncomputable abbrev BindsA (fd : FuncData) (args : Args) (binds : List (Str × Value)) : Prop := pure binds = bindArgs fd args
theorem callF {f : Addr} {fd : FuncData} {body : List Stmt} {args : Args} {binds : List (Str × Value)} {R : Result → Shared → Prop} {n : Nat} (o : FnOk f fd body) (C : St w S₀ cs fs s) (r : Room A (n + 1))
    (hbind : BindsTo s fd args binds) (hcell : autoParam (NoCell fd) tKr) (hloc : autoParam (AllLoc fd binds) tKr)
    (h : ∀ (L : Addr) (A' : Around) (s' : Shared), Room A' n → St w S₀ (.ns L binds.reverse :: cs) fs s' → wpAny (model pw w) A' (execs body (callEnv fd L f)) (fun fl s' => R (.ok (.ret (match fl with | .ret v => v | _ => .none))) s') (fun _ _ => False) s') :
    codeAny (model pw w) A (.call (.ref f) args) R s := by
  obtain ⟨oc, od, sl, hl⟩ := o.at_ w.params
  refine codeAny_call_def r.depth (C.kin _ _ hl) rfl (nolim_of C.kin) (codeRec_of C.kin (o.code _)) o.body hbind (fun x hx => ?_) (fun x hx => ?_) (fun h₁ hns hk => ?_) (Prod.mk.inj o.flags).1 (Prod.mk.inj o.flags).2 o.kind
  · have := List.all_eq_true.mp hcell.symm x hx
    intro q; rw [q] at this; cases this
  · exact beq_iff_eq.mp (List.all_eq_true.mp hloc.symm x hx)
  · refine wpAny_mono (h s.heap.objs.size _ _ r.deeper ?_) (fun _ _ z => z) (fun _ _ z => z.elim)
    have lt : s.heap.objs.size < h₁.objs.size := hns.lt
    obtain ⟨g, X, Y⟩ := C
    have F := X.fresh (Nat.le_refl _)
    exact ⟨g, (X.grow hk (Nat.le_of_lt lt)).addC (c := .ns s.heap.objs.size binds.reverse) hns F.1 F.2.1 F.2.2 X.big, Y⟩
theorem binds0 {fd : FuncData} {args : Args} {binds : List (Str × Value)} (h : BindsA fd args binds) : BindsTo s fd args binds := .of_eq h.symm
theorem newI {f : Addr} {pos : List Value} {kw : List (Str × Value)} {Q : Value → Shared → Prop} (C : St w S₀ cs fs s) (hi : iTab.lookup D = some f)
    (h : ∀ x d s', St w S₀ (.di d [] :: cs) (.ob x (instObj D d) :: fs) s' →
      codeAny (model pw w) (A.under (.builtin "type.__call__" ⟨.ref D :: pos, kw⟩)) (.call (.ref f) ⟨.ref x :: pos, kw⟩) (InitBack x fun r s' => match r with | .ok (.ret v) => Q v s' | .ok _ => False | .error e => E e s') s')
    (hc : autoParam (cTab.contains D = true) tRfl) : wpAny (model pw w) A (call (.ref D) pos kw) Q E s := by
  obtain ⟨i1, i2⟩ := iT (P := w.params) hi
  have c := cT (P := w.params) hc
  have X := C.kin
  have C1 := C.pushC (.di s.heap.objs.size []) emptyDict rfl (Heap.get?_push_size _ rfl) (tk := s.toks)
  have C2 := C1.pushF (instObj D s.heap.objs.size) rfl (tk := s.toks)
  have k := h _ _ _ C2
  obtain ⟨hh, g, dr, t, os⟩ := s
  refine wpAny_call (make_core (makes_of X c.made) (looks_findIn X i1) (fun self => bind_fn X self i2) (.inl rfl) ?_)
  have e : (hh.push emptyDict).objs.size = hh.objs.size + 1 := Heap.size_push _ _
  dsimp only at k
  rw [e] at k
  exact k
theorem St.asIns {x d : Addr} (C : St w S₀ (.di d l :: cs) fs s) (h : Fact.ob x (instObj D d) ∈ fs) : St w S₀ cs (.ins x D l :: fs) s := by
  obtain ⟨g, X, Y⟩ := C.freezeD
  exact ⟨g, X, fun f hf => (List.mem_cons.mp hf).elim (fun q => q ▸ ⟨d, Y _ (.tail _ h), Y _ (.head _)⟩) fun hf => Y f (.tail _ hf)⟩
theorem isiI {Q : Value → Shared → Prop} {up : List Addr} {Cl : Addr} (C : St w S₀ cs fs s) (hi : IsI cs fs a D l) (ht : isaT.lookup D = some up) (ha : askT.contains Cl = true) (h : ∀ s', St w S₀ cs fs s' → Q (.bool (up.contains Cl)) s')
    (hc : autoParam (cTab.contains D = true) tRfl) : wpAny (model pw w) A (call (.builtin "isinstance") [.ref a, .ref Cl]) Q E s := by
  obtain ⟨ox, _, I⟩ := C.inst hi
  have z := List.all_eq_true.mp (List.all_eq_true.mp (isaT_ok w.params) _ (lookup_mem ht)) Cl (List.contains_iff_mem.mp ha)
  have c := cT (P := w.params) hc
  dsimp only at z
  cases q : up.contains Cl with
  | true =>
    rw [q, if_pos rfl] at z
    exact isi_call C.kin (fun M => I.type) z (by intro e; cases e) (q ▸ h _ C)
  | false =>
    rw [q, if_neg (by decide)] at z
    have y := clsGet w.params
    simp only [Bool.and_eq_true, beq_iff_eq] at y
    exact kin_callC C.kin I z c.get c.dct c.cls y.1 y.2 c.top (q ▸ h _ C.tick)
end
theorem Room.hand {A : Around} {n : Nat} (h : Room A n) : A.handled = none := h.1
section
variable {w : World} {S₀ s : Shared} {cs cs' : List Cell} {fs : List Fact} {A : Around} {E : Value → Shared → Prop} {env : Env} {M : Model}
theorem assertT {test : Expr} {msg : Option Expr} {pos : Pos} {Q : Flow → Shared → Prop} (h : wpAny M A (isTrue test env (eval test env)) (fun b s₁ => b = true ∧ Q .next s₁) E s) : wpAny M A (exec (.Assert test msg pos) env) Q E s := by
  rw [arm_exec_Assert]
  refine wpAny_bind (wpAny_standAt (wpAny_bind (wpAny_mono h (fun b s₁ z => ?_) fun _ _ z => z)))
  rw [z.1, if_pos rfl]
  exact wpAny_pure z.2
theorem cwB {id : String} {first : List Value} {e : Expr} {r : List Expr} {pos : Pos} {Q : Value → Shared → Prop}
    (h : wpAny M A (spliced (backTo pos (starEach (e :: r) env))) (fun vs s₁ => wpAny M A (call (.builtin id) (first ++ vs)) Q E s₁) E s)
    (he : autoParam (starEach (e :: r) env = (false, eval e env) :: starEach r env) tRfl) (hp : autoParam ((backTo pos (starEach r env)).any (·.1) = false) tRfl) :
    wpAny M A (callWith pos (.builtin id) first (backTo pos (starEach (e :: r) env)) []) Q E s := by
  rw [he] at h ⊢
  exact callWith_builtin (by show (false || (backTo pos (starEach r env)).any (·.1)) = false; rw [hp]; rfl) (evalArgs_plain h)
theorem cwT {T : String} {first : List Value} {e : Expr} {r : List Expr} {pos : Pos} {Q : Value → Shared → Prop}
    (h : wpAny M A (spliced (backTo pos (starEach (e :: r) env))) (fun vs s₁ => wpAny M A (call (.type T) (first ++ vs)) Q E s₁) E s)
    (he : autoParam (starEach (e :: r) env = (false, eval e env) :: starEach r env) tRfl) (hp : autoParam ((backTo pos (starEach r env)).any (·.1) = false) tRfl) :
    wpAny M A (callWith pos (.type T) first (backTo pos (starEach (e :: r) env)) []) Q E s := by
  rw [he] at h ⊢
  exact PyProof.Rows.callWith_type (by show (false || (backTo pos (starEach r env)).any (·.1)) = false; rw [hp]; rfl) (evalArgs_plain h)
theorem cwK1 {f : Value} {first : List Value} {e : Expr} {r : List Expr} {pos : Pos} {Q : Value → Shared → Prop} (C : St w S₀ cs fs s) (hk : keepIn (KK w.params) f = true)
    (h : wpAny (model pw w) A (spliced (backTo pos (starEach (e :: r) env))) (fun vs s₁ => (KK w.params).In s₁.heap ∧ wpAny (model pw w) A (call f (first ++ vs)) Q E s₁) E s)
    (he : autoParam (starEach (e :: r) env = (false, eval e env) :: starEach r env) tRfl) (hp : autoParam ((backTo pos (starEach r env)).any (·.1) = false) tRfl) :
    wpAny (model pw w) A (callWith pos f first (backTo pos (starEach (e :: r) env)) []) Q E s := callWith_K C.kin hk h he hp
theorem cwK0 {f : Value} {first : List Value} {pos : Pos} {Q : Value → Shared → Prop} (C : St w S₀ cs fs s) (hk : keepIn (KK w.params) f = true)
    (h : wpAny (model pw w) A (call f (first ++ [])) Q E s) : wpAny (model pw w) A (callWith pos f first (backTo pos (starEach [] env)) []) Q E s := callWith_K0 C.kin hk h
theorem isiStr {x : Str} {t : Tok} {Q : Value → Shared → Prop} (h : Q (.bool true) s) : wpAny (model pw w) A (call (.builtin "isinstance") [.str x t, .type "str"]) Q E s :=
  call_isinstance_yes (Tx := "str") (typeIs_str s x t) meta_str (by rw [isSubtype_type]; kernel_rfl) h
theorem truthyI {a D : Addr} {l : Flds} {Q : Bool → Shared → Prop} (C : St w S₀ cs fs s) (hi : IsI cs fs a D l) (h : Q true s) (hc : autoParam (cTab.contains D = true) tRfl) (hn : autoParam (D ≠ 1406) tDe) : wpAny (model pw w) A (truthy (.ref a)) Q E s := by
  obtain ⟨ox, _, I⟩ := C.inst hi
  have c := cT (P := w.params) hc
  have X := C.kin
  unfold truthy
  refine wpAny_bind (m := callSpecial? (.ref a) (Str.ofString "__bool__")) (wpAny_bind (wpAny_bind (I.type.here ((looks_findIn X c.bool).here (wpAny_pure ?_)))))
  refine wpAny_bind (wpAny_bind (I.type.here ((looks_findIn X (c.len.resolve_left hn)).here ?_)))
  exact wpAny_pure h
end
section
local macro_rules | `(tactic| walk_at $s:str) => wkM s.getString
local macro_rules | `(tactic| kd_p) => `(tactic| first | decide | lia | omega)
local macro_rules | `(tactic| kd_in) => wkM "m"
local macro_rules | `(tactic| kd_p1) => wkM "Y"
noncomputable def cls : E → Addr
  | .con _ => 603 | .iv _ => 539 | .app _ _ => 451 | .neg _ => 842 | .and _ _ => 941 | .or _ _ => 981 | .imp _ _ => 1014 | .all _ _ => 788 | .ex _ _ => 755
noncomputable def ups : E → List Addr
  | .con _ => [603, 513, 346] | .iv _ => [539, 513, 346] | .app _ _ => [451, 346] | .neg _ => [842, 346] | .and _ _ => [941, 901, 889, 346] | .or _ _ => [981, 901, 889, 346] | .imp _ _ => [1014, 901, 889, 346]
  | .all _ _ => [788, 722, 670, 346] | .ex _ _ => [755, 722, 670, 346]
theorem ups_isa (x : E) : isaT.lookup (cls x) = some (ups x) := by cases x <;> exact rfl
theorem ups_346 (x : E) : (ups x).contains 346 = true := by cases x <;> exact rfl
theorem cls_tab (x : E) : cTab.contains (cls x) = true := by cases x <;> exact rfl
section
variable {w : World} {S₀ s : Shared} {cs cs' : List Cell} {fs : List Fact} {A : Around} {E' : Value → Shared → Prop} {a : Addr}
theorem isE_of {P : Params} {g : PM} {x : E} : RelV P g (.e x) (.ref a) → IsE P g x a := fun h => by obtain ⟨b, e, z⟩ := h; cases e; exact z
theorem of_isE {P : Params} {g : PM} {x : E} (h : IsE P g x a) : RelV P g (.e x) (.ref a) := by exact Exists.intro a ⟨rfl, h⟩
theorem isVar_of {P : Params} {g : PM} {x : Str} : RelV P g (.var x) (.ref a) → IsVar P g a x := fun h => by obtain ⟨b, e, z⟩ := h; cases e; exact z
theorem of_isVar {P : Params} {g : PM} {x : Str} (h : IsVar P g a x) : RelV P g (.var x) (.ref a) := by exact Exists.intro a ⟨rfl, h⟩
theorem relL0 {P : Params} {g : PM} : RelL P g [] [] := rfl
theorem relL1 {P : Params} {g : PM} {x : AV} {v : Value} {xs : List AV} {vs : List Value} (h : RelV P g x v) (k : RelL P g xs vs) : RelL P g (x :: xs) (v :: vs) := Exists.intro v ⟨vs, rfl, h, k⟩
theorem relVs {P : Params} {g : PM} {x : Str} {t : Tok} : RelV P g (.str x) (.str x t) := Exists.intro t rfl
theorem relVi {P : Params} {g : PM} {x : Int} {t : Tok} : RelV P g (.int x) (.int x t) := Exists.intro t rfl
theorem relT {P : Params} {g : PM} {p : Addr} {vs : List Value} {xs : List AV} (ho : g p = some (tupObj vs)) (hr : RelL P g xs vs) : RelV P g (.tup xs) (.ref p) := Exists.intro p ⟨vs, rfl, ho, hr⟩
theorem St.more (C : St w S₀ cs fs s) {p : List Fact → Prop} (h : ∀ g, (∀ f ∈ fs, f.ok w.params g) → ∃ ms, p ms ∧ ∀ f ∈ ms, f.ok w.params g) : ∃ ms, p ms ∧ St w S₀ cs (ms ++ fs) s := by
  obtain ⟨g, X, Y⟩ := C
  obtain ⟨ms, hp, hm⟩ := h g Y
  exact ⟨ms, hp, g, X, fun f hf => (List.mem_append.mp hf).elim (hm f) (Y f)⟩
theorem ok2 {P : Params} {g : PM} {a b : Fact} (x : a.ok P g) (y : b.ok P g) : ∀ f ∈ [a, b], f.ok P g := fun f hf => by
  rcases List.mem_cons.mp hf with rfl | hf
  · exact x
  · rw [List.mem_singleton.mp hf]; exact y
theorem ok3 {P : Params} {g : PM} {a b c : Fact} (x : a.ok P g) (y : b.ok P g) (z : c.ok P g) : ∀ f ∈ [a, b, c], f.ok P g := fun f hf => by
  rcases List.mem_cons.mp hf with rfl | hf
  · exact x
  · exact ok2 y z f hf
theorem Ji1.ins {P : Params} {g : PM} {C : Addr} {n : Str} {p : Addr → Prop} : Ji1 P g a C n p → ∃ l, InsF P g a C l := fun ⟨_, _, x, _⟩ => ⟨_, x⟩
theorem Ji2.ins {P : Params} {g : PM} {C : Addr} {n m : Str} {p q : Addr → Prop} : Ji2 P g a C n m p q → ∃ l, InsF P g a C l := fun ⟨_, _, _, _, x, _, _⟩ => ⟨_, x⟩
theorem isE_cls {P : Params} {g : PM} {x : E} {a : Addr} (h : IsE P g x a) : ∃ l, InsF P g a (cls x) l := by cases x <;> first | exact Ji1.ins h | exact Ji2.ins h
inductive OE (w : World) (S₀ : Shared) (cs : List Cell) (fs : List Fact) (s : Shared) (a C : Addr) : Prop | mk (l : Flds) (X : St w S₀ cs (.ins a C l :: fs) s)
inductive O1 (w : World) (S₀ : Shared) (cs : List Cell) (fs : List Fact) (s : Shared) (a D : Addr) (n : Str) (x : AV) : Prop | mk (t : Tok) (v : Addr) (X : St w S₀ cs (.ins a D [(n, t, .ref v)] :: .v (.ref v) x :: fs) s)
inductive O2 (w : World) (S₀ : Shared) (cs : List Cell) (fs : List Fact) (s : Shared) (a D : Addr) (n m : Str) (x y : AV) : Prop | mk (t u : Tok) (v z : Addr) (X : St w S₀ cs (.ins a D [(n, t, .ref v), (m, u, .ref z)] :: .v (.ref v) x :: .v (.ref z) y :: fs) s)
theorem St.openE (C : St w S₀ cs fs s) {x : E} (h : Fact.v (.ref a) (.e x) ∈ fs) : OE w S₀ cs fs s a (cls x) := by
  obtain ⟨g, X, Y⟩ := C
  obtain ⟨l, k⟩ := isE_cls (isE_of (Y _ h))
  exact ⟨l, g, X, fun f hf => (List.mem_cons.mp hf).elim (fun q => q ▸ k) (Y f)⟩
theorem St.openVar (C : St w S₀ cs fs s) {x : Str} (h : Fact.v (.ref a) (.var x) ∈ fs) : ∃ t t', St w S₀ cs (.ins a 154 [("name", t, .str x t')] :: fs) s := by
  obtain ⟨g, X, Y⟩ := C
  obtain ⟨t, t', k⟩ := isVar_of (Y _ h)
  exact ⟨t, t', g, X, fun f hf => (List.mem_cons.mp hf).elim (fun q => q ▸ k) (Y f)⟩
theorem St.closeVar (C : St w S₀ cs fs s) {x : Str} {t t' : Tok} (h : Fact.ins a 154 [("name", t, .str x t')] ∈ fs) : St w S₀ cs (.v (.ref a) (.var x) :: fs) s := C.fact fun g Y => of_isVar ⟨t, t', Y _ h⟩
theorem St.two (C : St w S₀ cs fs s) {D : Addr} {n m : Str} {x y : AV} {v : Value} {z : AV} {p q : Params → PM → Addr → Prop} (h : Fact.v v z ∈ fs) (e : ∀ P g, Fact.ok P g (.v v z) → Ji2 P g a D n m (p P g) (q P g)) (h1 : ∀ P g v, p P g v → RelV P g x (.ref v)) (h2 : ∀ P g v, q P g v → RelV P g y (.ref v)) :
    O2 w S₀ cs fs s a D n m x y := by
  obtain ⟨g, X, Y⟩ := C
  obtain ⟨t, u, v, z, k1, k2, k3⟩ := e _ g (Y _ h)
  exact ⟨t, u, v, z, g, X, fun f hf => (List.mem_cons.mp hf).elim (fun q => q ▸ k1) fun hf => (List.mem_cons.mp hf).elim (fun q => q ▸ h1 _ _ _ k2) fun hf => (List.mem_cons.mp hf).elim (fun q => q ▸ h2 _ _ _ k3) (Y f)⟩
theorem St.one (C : St w S₀ cs fs s) {D : Addr} {n : Str} {x : AV} {v : Value} {z : AV} {p : Params → PM → Addr → Prop} (h : Fact.v v z ∈ fs) (e : ∀ P g, Fact.ok P g (.v v z) → Ji1 P g a D n (p P g)) (h1 : ∀ P g v, p P g v → RelV P g x (.ref v)) :
    O1 w S₀ cs fs s a D n x := by
  obtain ⟨g, X, Y⟩ := C
  obtain ⟨t, v, k1, k2⟩ := e _ g (Y _ h)
  exact ⟨t, v, g, X, fun f hf => (List.mem_cons.mp hf).elim (fun q => q ▸ k1) fun hf => (List.mem_cons.mp hf).elim (fun q => q ▸ h1 _ _ _ k2) (Y f)⟩
theorem St.openApp (C : St w S₀ cs fs s) {x y : E} (h : Fact.v (.ref a) (.e (.app x y)) ∈ fs) : O2 w S₀ cs fs s a 451 "function" "argument" (.e x) (.e y) :=
  C.two (p := fun P g v => IsE P g x v) (q := fun P g v => IsE P g y v) h (fun _ _ k => isE_of k) (fun _ _ _ => of_isE) (fun _ _ _ => of_isE)
theorem St.openAnd (C : St w S₀ cs fs s) {x y : E} (h : Fact.v (.ref a) (.e (.and x y)) ∈ fs) : O2 w S₀ cs fs s a 941 "first" "second" (.e x) (.e y) :=
  C.two (p := fun P g v => IsE P g x v) (q := fun P g v => IsE P g y v) h (fun _ _ k => isE_of k) (fun _ _ _ => of_isE) (fun _ _ _ => of_isE)
theorem St.openOr (C : St w S₀ cs fs s) {x y : E} (h : Fact.v (.ref a) (.e (.or x y)) ∈ fs) : O2 w S₀ cs fs s a 981 "first" "second" (.e x) (.e y) :=
  C.two (p := fun P g v => IsE P g x v) (q := fun P g v => IsE P g y v) h (fun _ _ k => isE_of k) (fun _ _ _ => of_isE) (fun _ _ _ => of_isE)
theorem St.openImp (C : St w S₀ cs fs s) {x y : E} (h : Fact.v (.ref a) (.e (.imp x y)) ∈ fs) : O2 w S₀ cs fs s a 1014 "first" "second" (.e x) (.e y) :=
  C.two (p := fun P g v => IsE P g x v) (q := fun P g v => IsE P g y v) h (fun _ _ k => isE_of k) (fun _ _ _ => of_isE) (fun _ _ _ => of_isE)
theorem St.openAll (C : St w S₀ cs fs s) {x : Str} {y : E} (h : Fact.v (.ref a) (.e (.all x y)) ∈ fs) : O2 w S₀ cs fs s a 788 "variable" "term" (.var x) (.e y) :=
  C.two (p := fun P g v => IsVar P g v x) (q := fun P g v => IsE P g y v) h (fun _ _ k => isE_of k) (fun _ _ _ => of_isVar) (fun _ _ _ => of_isE)
theorem St.openEx (C : St w S₀ cs fs s) {x : Str} {y : E} (h : Fact.v (.ref a) (.e (.ex x y)) ∈ fs) : O2 w S₀ cs fs s a 755 "variable" "term" (.var x) (.e y) :=
  C.two (p := fun P g v => IsVar P g v x) (q := fun P g v => IsE P g y v) h (fun _ _ k => isE_of k) (fun _ _ _ => of_isVar) (fun _ _ _ => of_isE)
theorem St.openNeg (C : St w S₀ cs fs s) {x : E} (h : Fact.v (.ref a) (.e (.neg x)) ∈ fs) : O1 w S₀ cs fs s a 842 "term" (.e x) := C.one (p := fun P g v => IsE P g x v) h (fun _ _ k => isE_of k) fun _ _ _ => of_isE
theorem St.openCon (C : St w S₀ cs fs s) {x : Str} (h : Fact.v (.ref a) (.e (.con x)) ∈ fs) : O1 w S₀ cs fs s a 603 "variable" (.var x) := C.one (p := fun P g v => IsVar P g v x) h (fun _ _ k => isE_of k) fun _ _ _ => of_isVar
theorem St.openIv (C : St w S₀ cs fs s) {x : Str} (h : Fact.v (.ref a) (.e (.iv x)) ∈ fs) : O1 w S₀ cs fs s a 539 "variable" (.var x) := C.one (p := fun P g v => IsVar P g v x) h (fun _ _ k => isE_of k) fun _ _ _ => of_isVar
theorem isiE {x : E} {Cl : Addr} {Q : Value → Shared → Prop} (C : St w S₀ cs fs s) (h : Fact.v (.ref a) (.e x) ∈ fs) (ha : askT.contains Cl = true) (k : ∀ s', St w S₀ cs fs s' → Q (.bool ((ups x).contains Cl)) s') :
    wpAny (model pw w) A (call (.builtin "isinstance") [.ref a, .ref Cl]) Q E' s := by
  obtain ⟨l, C'⟩ := C.openE h
  exact isiI C' (.inl (.head _)) (ups_isa x) ha (fun s' C => k s' (C.weakF fun f hf => .tail _ hf)) (cls_tab x)
theorem isiE346 {x : E} {Q : Value → Shared → Prop} (C : St w S₀ cs fs s) (h : Fact.v (.ref a) (.e x) ∈ fs) (k : ∀ s', St w S₀ cs fs s' → Q (.bool true) s') :
    wpAny (model pw w) A (call (.builtin "isinstance") [.ref a, .ref 346]) Q E' s := isiE C h (by exact rfl) (ups_346 x ▸ k)
theorem isiVar {x : Str} {Q : Value → Shared → Prop} (C : St w S₀ cs fs s) (h : Fact.v (.ref a) (.var x) ∈ fs) (k : ∀ s', St w S₀ cs fs s' → Q (.bool true) s') :
    wpAny (model pw w) A (call (.builtin "isinstance") [.ref a, .ref 154]) Q E' s := by
  obtain ⟨t, t', C'⟩ := C.openVar h
  exact isiI C' (.inl (.head _)) (up := [154]) rfl (by exact rfl) (fun s' C => k s' (C.weakF fun f hf => .tail _ hf))
end
section
variable {w : World} {S₀ s : Shared} {cs cs' : List Cell} {fs : List Fact} {A : Around} {E : Value → Shared → Prop} {env : Env} {M : Model}
theorem cwB0 {id : String} {e : Expr} {r : List Expr} {pos : Pos} {Q : Value → Shared → Prop} (h : wpAny M A (spliced (backTo pos (starEach (e :: r) env))) (fun vs s₁ => wpAny M A (call (.builtin id) vs) Q E s₁) E s)
    (he : autoParam (starEach (e :: r) env = (false, eval e env) :: starEach r env) tRfl) (hp : autoParam ((backTo pos (starEach r env)).any (·.1) = false) tRfl) :
    wpAny M A (callWith pos (.builtin id) [] (backTo pos (starEach (e :: r) env)) []) Q E s := cwB h he hp
theorem cwB1 {id : String} {x : Value} {e : Expr} {r : List Expr} {pos : Pos} {Q : Value → Shared → Prop} (h : wpAny M A (spliced (backTo pos (starEach (e :: r) env))) (fun vs s₁ => wpAny M A (call (.builtin id) (x :: vs)) Q E s₁) E s)
    (he : autoParam (starEach (e :: r) env = (false, eval e env) :: starEach r env) tRfl) (hp : autoParam ((backTo pos (starEach r env)).any (·.1) = false) tRfl) :
    wpAny M A (callWith pos (.builtin id) [x] (backTo pos (starEach (e :: r) env)) []) Q E s := cwB h he hp
theorem cwT0 {T : String} {e : Expr} {r : List Expr} {pos : Pos} {Q : Value → Shared → Prop} (h : wpAny M A (spliced (backTo pos (starEach (e :: r) env))) (fun vs s₁ => wpAny M A (call (.type T) vs) Q E s₁) E s)
    (he : autoParam (starEach (e :: r) env = (false, eval e env) :: starEach r env) tRfl) (hp : autoParam ((backTo pos (starEach r env)).any (·.1) = false) tRfl) :
    wpAny M A (callWith pos (.type T) [] (backTo pos (starEach (e :: r) env)) []) Q E s := cwT h he hp
theorem keepA {P : Params} {f : Addr} (h : (cTab.contains f || keeps.contains f) = true) : keepIn (KK P) (.ref f) = true := by
  rcases Bool.or_eq_true_iff.mp h with h | h
  · exact (cT h).keep
  · exact List.all_eq_true.mp (keeps_ok P) _ (List.contains_iff_mem.mp h)
theorem cwK10 {f : Addr} {e : Expr} {r : List Expr} {pos : Pos} {Q : Value → Shared → Prop} (C : St w S₀ cs fs s) (hk : (cTab.contains f || keeps.contains f) = true)
    (h : wpAny (model pw w) A (spliced (backTo pos (starEach (e :: r) env))) (fun vs s₁ => (KK w.params).In s₁.heap ∧ wpAny (model pw w) A (call (.ref f) vs) Q E s₁) E s)
    (he : autoParam (starEach (e :: r) env = (false, eval e env) :: starEach r env) tRfl) (hp : autoParam ((backTo pos (starEach r env)).any (·.1) = false) tRfl) :
    wpAny (model pw w) A (callWith pos (.ref f) [] (backTo pos (starEach (e :: r) env)) []) Q E s := cwK1 C (keepA hk) h he hp
theorem cwK11 {f : Addr} {x : Value} {e : Expr} {r : List Expr} {pos : Pos} {Q : Value → Shared → Prop} (C : St w S₀ cs fs s) (hk : (cTab.contains f || keeps.contains f) = true)
    (h : wpAny (model pw w) A (spliced (backTo pos (starEach (e :: r) env))) (fun vs s₁ => (KK w.params).In s₁.heap ∧ wpAny (model pw w) A (call (.ref f) (x :: vs)) Q E s₁) E s)
    (he : autoParam (starEach (e :: r) env = (false, eval e env) :: starEach r env) tRfl) (hp : autoParam ((backTo pos (starEach r env)).any (·.1) = false) tRfl) :
    wpAny (model pw w) A (callWith pos (.ref f) [x] (backTo pos (starEach (e :: r) env)) []) Q E s := cwK1 C (keepA hk) h he hp
theorem cwK00 {f : Addr} {pos : Pos} {Q : Value → Shared → Prop} (C : St w S₀ cs fs s) (hk : (cTab.contains f || keeps.contains f) = true)
    (h : wpAny (model pw w) A (call (.ref f) []) Q E s) : wpAny (model pw w) A (callWith pos (.ref f) [] (backTo pos (starEach [] env)) []) Q E s := cwK0 C (keepA hk) h
theorem cwK01 {f : Addr} {x : Value} {pos : Pos} {Q : Value → Shared → Prop} (C : St w S₀ cs fs s) (hk : (cTab.contains f || keeps.contains f) = true)
    (h : wpAny (model pw w) A (call (.ref f) [x]) Q E s) : wpAny (model pw w) A (callWith pos (.ref f) [x] (backTo pos (starEach [] env)) []) Q E s := cwK0 C (keepA hk) h
theorem kinAnd {Q : Prop} (C : St w S₀ cs fs s) (h : Q) : (KK w.params).In s.heap ∧ Q := ⟨C.kin, h⟩
theorem argL {L : Addr} {m : List (Str × Value)} {x : Str} {v : Value} {xp pos : Pos} {r : List Expr} {Q : List Value → Shared → Prop} (C : St w S₀ cs fs s) (hm : Cell.ns L m ∈ cs) (hv : m.lookup x = some v) (h : wpAny (model pw w) A (spliced (backTo pos (starEach r env))) (fun vs s₂ => Q (v :: vs) s₂) E s)
    (hL : L = env.locals) (ho : NameOk .local env x) : wpAny (model pw w) A (spliced (backTo pos (starEach (.Name x xp :: r) env))) Q E s := PyProof.Rows.args_cons (nmL C hm hv h hL ho) rfl
theorem attL {L : Addr} {m : List (Str × Value)} {x n : Str} {v : Value} {xp pos : Pos} {Q : Value → Shared → Prop} (C : St w S₀ cs fs s) (hm : Cell.ns L m ∈ cs) (hv : m.lookup x = some v) (h : wpAny (model pw w) A (getAttr v n true) Q E s)
    (hL : L = env.locals) (ho : NameOk .local env x) : wpAny (model pw w) A (eval (.Attribute (.Name x xp) n pos) env) Q E s := PyProof.Rows.Attribute_Name_ (nmL C hm hv h hL ho) rfl
theorem methL {L : Addr} {m : List (Str × Value)} {x n : Str} {v : Value} {xp apos pos : Pos} {args : List Expr} {pl : Sem Bool} {Q : Value → Shared → Prop} (C : St w S₀ cs fs s) (hm : Cell.ns L m ∈ cs) (hv : m.lookup x = some v)
    (h : wpAny (model pw w) A (getMethod v n pl) (fun fx s₂ => wpAny (model pw w) A (callWith pos fx.1 fx.2 (backTo pos (starEach args env)) []) Q E s₂) E s) (hL : L = env.locals) (ho : NameOk .local env x)
    (he : eval (.Call (.Attribute (.Name x xp) n apos) args [] pos) env = (do
      let ov ← eval (.Name x xp) env
      standAt apos.atName
      let (f, first) ← holding [ov] (getMethod ov n pl)
      callWith pos f first (backTo pos (starEach args env)) [])) : wpAny (model pw w) A (eval (.Call (.Attribute (.Name x xp) n apos) args [] pos) env) Q E s := PyProof.Rows.MethodCall_ (nmL C hm hv h hL ho) he
noncomputable abbrev OkIs (env : Env) (x k : Str) : Prop := true = ((nameOk .globalImplicit env "isinstance" && env.globals == mainGlobals && env.builtins == builtinsNs) && nameOk .local env x && (nameOk .globalImplicit env k && env.globals == mainGlobals))
theorem isinst_ {L c : Addr} {m : List (Str × Value)} {x k : Str} {v : Value} {q0 q1 q2 pos : Pos} {Q : Value → Shared → Prop} (C : St w S₀ cs fs s) (hm : Cell.ns L m ∈ cs) (hv : m.lookup x = some v) (hk : gTab.lookup k = some (.ref c)) (h : wpAny (model pw w) A (call (.builtin "isinstance") [v, .ref c]) Q E s)
    (hL : L = env.locals) (ho : OkIs env x k) : wpAny (model pw w) A (eval (.Call (.Name ("isinstance" : Str) q0) [.Name x q1, .Name k q2] [] pos) env) Q E s := by
  obtain ⟨o, o3⟩ := Bool.and_eq_true_iff.mp ho.symm
  obtain ⟨o1, o2⟩ := Bool.and_eq_true_iff.mp o
  refine PyProof.Rows.Call_ ?_ rfl
  refine nmB C b_isinstance ?_ o1.symm
  refine cwB0 ?_ rfl rfl
  refine PyProof.Rows.args_cons ?_ rfl
  refine nmL C hm hv ?_ hL o2.symm
  refine PyProof.Rows.args_cons ?_ rfl
  refine nmG C hk ?_ o3.symm
  exact PyProof.Rows.args_nil h
end
section
variable {cs : List Cell} {fs : List Fact} {a D d : Addr} {l : Flds}
theorem isI1 (h : Fact.ins a D l ∈ fs) : IsI cs fs a D l := .inl h
theorem isI2 (h : Fact.ob a (instObj D d) ∈ fs) (k : Cell.di d l ∈ cs) : IsI cs fs a D l := .inr ⟨d, .inl h, .inl k⟩
theorem isI3 (h : Cell.ob a (instObj D d) ∈ cs) (k : Cell.di d l ∈ cs) : IsI cs fs a D l := .inr ⟨d, .inr h, .inl k⟩
theorem isI4 (h : Fact.ob a (instObj D d) ∈ fs) (k : Fact.di d l ∈ fs) : IsI cs fs a D l := .inr ⟨d, .inl h, .inr k⟩
end
noncomputable def eqT : List Addr := [154, 451, 539, 603]
theorem eqT_ok (P : Params) : (eqT.all fun C => eqT.all fun D => notFirst (KK P) C (.ref D)) = true := by kernel_rfl
section
variable {w : World} {S₀ s : Shared} {cs cs' : List Cell} {fs : List Fact} {A : Around} {E' : Value → Shared → Prop} {a b C D L : Addr} {l l' : Flds} {m : List (Str × Value)}
theorem cmpI {f : Addr} {Q : Value → Shared → Prop} {n : Nat} (X : St w S₀ cs fs s) (r : Room A n) (hm : Cell.ns L m ∈ cs) (h1 : IsI cs fs a C l) (h2 : IsI cs fs b D l') (hc : eqT.contains C = true) (hd : eqT.contains D = true) (hf : mTab.lookup (C, ("__eq__" : Str)) = some f)
    (h : codeAny (model pw w) A (.call (.ref f) ⟨[.ref a, .ref b], []⟩) (fun r s' => match r with | .ok (.ret v) => PySem.W.CmpBack Q v s' | .ok _ => False | .error e => E' e s') s) : wpAny (model pw w) A (compareOp .Eq (.ref a) (.ref b)) Q E' s := by
  obtain ⟨_, _, I⟩ := X.inst h1
  obtain ⟨_, _, J⟩ := X.inst h2
  obtain ⟨m1, m2, _⟩ := mT (P := w.params) hf
  have z := List.all_eq_true.mp (List.all_eq_true.mp (eqT_ok w.params) C (List.contains_iff_mem.mp hc)) D (List.contains_iff_mem.mp hd)
  exact cmp_ofEq (cmp_K r.units (X.fr hm) X.kin0 I J.type z m1 (beq_iff_eq.mpr m2) (wpAny_call h))
end
noncomputable def eqE : E → E → Bool
  | .con a, .con b => a == b | .con a, .iv b => a == b | .iv a, .con b => a == b | .iv a, .iv b => a == b
  | .app f x, .app g y => eqE f g && eqE x y
  | _, _ => false
noncomputable def simE : E → Bool
  | .con _ => true | .iv _ => true
  | .app f x => simE f && simE x
  | _ => false
noncomputable def depE : E → Nat
  | .con _ => 0 | .iv _ => 0
  | .app f x => max (depE f) (depE x) + 1
  | .neg f => depE f + 1
  | .and f x => max (depE f) (depE x) + 1 | .or f x => max (depE f) (depE x) + 1 | .imp f x => max (depE f) (depE x) + 1
  | .all _ f => depE f + 1 | .ex _ f => depE f + 1
noncomputable def nameE : E → Option Str
  | .con x => some x | .iv x => some x
  | _ => none
theorem eqE_names {x y : E} {n m : Str} (h : nameE x = some n) (k : nameE y = some m) : eqE x y = (n == m) := by
  cases x <;> cases h <;> cases y <;> cases k <;> rfl
theorem eqE_no {x y : E} (h : (ups x).contains 513 = true) (k : (ups y).contains 513 = false) : eqE x y = false := by
  cases x <;> first | exact nomatch (show false = true from h) | (cases y <;> first | rfl | exact nomatch (show true = false from k))
theorem St.openAbs {w : World} {S₀ s : Shared} {cs : List Cell} {fs : List Fact} {a : Addr} (C : St w S₀ cs fs s) {x : E} (h : Fact.v (.ref a) (.e x) ∈ fs) (hx : (ups x).contains 513 = true) :
    ∃ n D t v, (D = 603 ∨ D = 539) ∧ nameE x = some n ∧ St w S₀ cs (.ins a D [("variable", t, .ref v)] :: .v (.ref v) (.var n) :: fs) s := by
  cases x with
  | con n => obtain ⟨t, v, C⟩ := C.openCon h; exact ⟨n, 603, t, v, .inl rfl, rfl, C⟩
  | iv n => obtain ⟨t, v, C⟩ := C.openIv h; exact ⟨n, 539, t, v, .inr rfl, rfl, C⟩
  | _ => exact nomatch (show false = true from hx)
section
variable {w : World} {S₀ s : Shared} {cs cs' : List Cell} {fs : List Fact} {A : Around} {E' : Value → Shared → Prop} {Q : Value → Shared → Prop}
theorem mk_App {v1 v2 : Addr} {x1 : E} {x2 : E} (C : St w S₀ cs fs s) (r : Room A 5) (h1 : Fact.v (.ref v1) (.e x1) ∈ fs) (h2 : Fact.v (.ref v2) (.e x2) ∈ fs)
    (h : ∀ a s', St w S₀ cs (.v (.ref a) (.e (.app x1 x2)) :: fs) s' → Q (.ref a) s') : wpAny (model pw w) A (call (.ref 451) [.ref v1, .ref v2]) Q E' s := by
  refine newI C (f := 369) rfl fun x d s' C => ?_
  refine callF (n := 3) (binds := [("self", .ref x), ("function", .ref v1), ("argument", .ref v2)]) ok369 C r.made (binds0 (by kernel_rfl)) (by kernel_rfl) (by kernel_rfl) fun L A' s' r' C => ?_
  have nb_isinstance := b_isinstance; have ng_Expression := g_Expression
  walk_at "B"
  kd_p1
  refine ⟨rfl, ?_⟩
  rename_i s' C
  have C' := (C.drop).asIns (l := _) (x := x) (by kd_in)
  have C'' := C'.fact (f := .v (.ref x) (.e (.app x1 x2))) fun g Y => of_isE ⟨_, _, _, _, Y _ (.head _), isE_of (Y _ (.tail _ (.tail _ h1))), isE_of (Y _ (.tail _ (.tail _ h2)))⟩
  exact h _ _ (C''.weakF (by walk_at "w"))
theorem mk_And {v1 v2 : Addr} {x1 : E} {x2 : E} (C : St w S₀ cs fs s) (r : Room A 5) (h1 : Fact.v (.ref v1) (.e x1) ∈ fs) (h2 : Fact.v (.ref v2) (.e x2) ∈ fs)
    (h : ∀ a s', St w S₀ cs (.v (.ref a) (.e (.and x1 x2)) :: fs) s' → Q (.ref a) s') : wpAny (model pw w) A (call (.ref 941) [.ref v1, .ref v2]) Q E' s := by
  refine newI C (f := 858) rfl fun x d s' C => ?_
  refine callF (n := 3) (binds := [("self", .ref x), ("first", .ref v1), ("second", .ref v2)]) ok858 C r.made (binds0 (by kernel_rfl)) (by kernel_rfl) (by kernel_rfl) fun L A' s' r' C => ?_
  have nb_isinstance := b_isinstance; have ng_Expression := g_Expression
  walk_at "B"
  kd_p1
  refine ⟨rfl, ?_⟩
  rename_i s' C
  have C' := (C.drop).asIns (l := _) (x := x) (by kd_in)
  have C'' := C'.fact (f := .v (.ref x) (.e (.and x1 x2))) fun g Y => of_isE ⟨_, _, _, _, Y _ (.head _), isE_of (Y _ (.tail _ (.tail _ h1))), isE_of (Y _ (.tail _ (.tail _ h2)))⟩
  exact h _ _ (C''.weakF (by walk_at "w"))
theorem mk_Or {v1 v2 : Addr} {x1 : E} {x2 : E} (C : St w S₀ cs fs s) (r : Room A 5) (h1 : Fact.v (.ref v1) (.e x1) ∈ fs) (h2 : Fact.v (.ref v2) (.e x2) ∈ fs)
    (h : ∀ a s', St w S₀ cs (.v (.ref a) (.e (.or x1 x2)) :: fs) s' → Q (.ref a) s') : wpAny (model pw w) A (call (.ref 981) [.ref v1, .ref v2]) Q E' s := by
  refine newI C (f := 858) rfl fun x d s' C => ?_
  refine callF (n := 3) (binds := [("self", .ref x), ("first", .ref v1), ("second", .ref v2)]) ok858 C r.made (binds0 (by kernel_rfl)) (by kernel_rfl) (by kernel_rfl) fun L A' s' r' C => ?_
  have nb_isinstance := b_isinstance; have ng_Expression := g_Expression
  walk_at "B"
  kd_p1
  refine ⟨rfl, ?_⟩
  rename_i s' C
  have C' := (C.drop).asIns (l := _) (x := x) (by kd_in)
  have C'' := C'.fact (f := .v (.ref x) (.e (.or x1 x2))) fun g Y => of_isE ⟨_, _, _, _, Y _ (.head _), isE_of (Y _ (.tail _ (.tail _ h1))), isE_of (Y _ (.tail _ (.tail _ h2)))⟩
  exact h _ _ (C''.weakF (by walk_at "w"))
theorem mk_Imp {v1 v2 : Addr} {x1 : E} {x2 : E} (C : St w S₀ cs fs s) (r : Room A 5) (h1 : Fact.v (.ref v1) (.e x1) ∈ fs) (h2 : Fact.v (.ref v2) (.e x2) ∈ fs)
    (h : ∀ a s', St w S₀ cs (.v (.ref a) (.e (.imp x1 x2)) :: fs) s' → Q (.ref a) s') : wpAny (model pw w) A (call (.ref 1014) [.ref v1, .ref v2]) Q E' s := by
  refine newI C (f := 858) rfl fun x d s' C => ?_
  refine callF (n := 3) (binds := [("self", .ref x), ("first", .ref v1), ("second", .ref v2)]) ok858 C r.made (binds0 (by kernel_rfl)) (by kernel_rfl) (by kernel_rfl) fun L A' s' r' C => ?_
  have nb_isinstance := b_isinstance; have ng_Expression := g_Expression
  walk_at "B"
  kd_p1
  refine ⟨rfl, ?_⟩
  rename_i s' C
  have C' := (C.drop).asIns (l := _) (x := x) (by kd_in)
  have C'' := C'.fact (f := .v (.ref x) (.e (.imp x1 x2))) fun g Y => of_isE ⟨_, _, _, _, Y _ (.head _), isE_of (Y _ (.tail _ (.tail _ h1))), isE_of (Y _ (.tail _ (.tail _ h2)))⟩
  exact h _ _ (C''.weakF (by walk_at "w"))
theorem mk_All {v1 v2 : Addr} {x1 : Str} {x2 : E} (C : St w S₀ cs fs s) (r : Room A 5) (h1 : Fact.v (.ref v1) (.var x1) ∈ fs) (h2 : Fact.v (.ref v2) (.e x2) ∈ fs)
    (h : ∀ a s', St w S₀ cs (.v (.ref a) (.e (.all x1 x2)) :: fs) s' → Q (.ref a) s') : wpAny (model pw w) A (call (.ref 788) [.ref v1, .ref v2]) Q E' s := by
  refine newI C (f := 626) rfl fun x d s' C => ?_
  refine callF (n := 3) (binds := [("self", .ref x), ("variable", .ref v1), ("term", .ref v2)]) ok626 C r.made (binds0 (by kernel_rfl)) (by kernel_rfl) (by kernel_rfl) fun L A' s' r' C => ?_
  have nb_isinstance := b_isinstance; have ng_Variable := g_Variable; have ng_Expression := g_Expression
  walk_at "B"
  kd_p1
  refine ⟨rfl, ?_⟩
  rename_i s' C
  have C' := (C.drop).asIns (l := _) (x := x) (by kd_in)
  have C'' := C'.fact (f := .v (.ref x) (.e (.all x1 x2))) fun g Y => of_isE ⟨_, _, _, _, Y _ (.head _), isVar_of (Y _ (.tail _ (.tail _ h1))), isE_of (Y _ (.tail _ (.tail _ h2)))⟩
  exact h _ _ (C''.weakF (by walk_at "w"))
theorem mk_Ex {v1 v2 : Addr} {x1 : Str} {x2 : E} (C : St w S₀ cs fs s) (r : Room A 5) (h1 : Fact.v (.ref v1) (.var x1) ∈ fs) (h2 : Fact.v (.ref v2) (.e x2) ∈ fs)
    (h : ∀ a s', St w S₀ cs (.v (.ref a) (.e (.ex x1 x2)) :: fs) s' → Q (.ref a) s') : wpAny (model pw w) A (call (.ref 755) [.ref v1, .ref v2]) Q E' s := by
  refine newI C (f := 626) rfl fun x d s' C => ?_
  refine callF (n := 3) (binds := [("self", .ref x), ("variable", .ref v1), ("term", .ref v2)]) ok626 C r.made (binds0 (by kernel_rfl)) (by kernel_rfl) (by kernel_rfl) fun L A' s' r' C => ?_
  have nb_isinstance := b_isinstance; have ng_Variable := g_Variable; have ng_Expression := g_Expression
  walk_at "B"
  kd_p1
  refine ⟨rfl, ?_⟩
  rename_i s' C
  have C' := (C.drop).asIns (l := _) (x := x) (by kd_in)
  have C'' := C'.fact (f := .v (.ref x) (.e (.ex x1 x2))) fun g Y => of_isE ⟨_, _, _, _, Y _ (.head _), isVar_of (Y _ (.tail _ (.tail _ h1))), isE_of (Y _ (.tail _ (.tail _ h2)))⟩
  exact h _ _ (C''.weakF (by walk_at "w"))
theorem mk_Neg {v1 : Addr} {x1 : E} (C : St w S₀ cs fs s) (r : Room A 5) (h1 : Fact.v (.ref v1) (.e x1) ∈ fs)
    (h : ∀ a s', St w S₀ cs (.v (.ref a) (.e (.neg x1)) :: fs) s' → Q (.ref a) s') : wpAny (model pw w) A (call (.ref 842) [.ref v1]) Q E' s := by
  refine newI C (f := 804) rfl fun x d s' C => ?_
  refine callF (n := 3) (binds := [("self", .ref x), ("term", .ref v1)]) ok804 C r.made (binds0 (by kernel_rfl)) (by kernel_rfl) (by kernel_rfl) fun L A' s' r' C => ?_
  have nb_isinstance := b_isinstance; have ng_Expression := g_Expression
  walk_at "B"
  kd_p1
  refine ⟨rfl, ?_⟩
  rename_i s' C
  have C' := (C.drop).asIns (l := _) (x := x) (by kd_in)
  have C'' := C'.fact (f := .v (.ref x) (.e (.neg x1))) fun g Y => of_isE ⟨_, _, Y _ (.head _), isE_of (Y _ (.tail _ (.tail _ h1)))⟩
  exact h _ _ (C''.weakF (by walk_at "w"))
theorem mk_Con {v1 : Addr} {x1 : Str} (C : St w S₀ cs fs s) (r : Room A 5) (h1 : Fact.v (.ref v1) (.var x1) ∈ fs)
    (h : ∀ a s', St w S₀ cs (.v (.ref a) (.e (.con x1)) :: fs) s' → Q (.ref a) s') : wpAny (model pw w) A (call (.ref 603) [.ref v1]) Q E' s := by
  refine newI C (f := 467) rfl fun x d s' C => ?_
  refine callF (n := 3) (binds := [("self", .ref x), ("variable", .ref v1)]) ok467 C r.made (binds0 (by kernel_rfl)) (by kernel_rfl) (by kernel_rfl) fun L A' s' r' C => ?_
  have nb_isinstance := b_isinstance; have ng_Variable := g_Variable
  walk_at "B"
  kd_p1
  refine ⟨rfl, ?_⟩
  rename_i s' C
  have C' := (C.drop).asIns (l := _) (x := x) (by kd_in)
  have C'' := C'.fact (f := .v (.ref x) (.e (.con x1))) fun g Y => of_isE ⟨_, _, Y _ (.head _), isVar_of (Y _ (.tail _ (.tail _ h1)))⟩
  exact h _ _ (C''.weakF (by walk_at "w"))
theorem mk_Iv {v1 : Addr} {x1 : Str} (C : St w S₀ cs fs s) (r : Room A 5) (h1 : Fact.v (.ref v1) (.var x1) ∈ fs)
    (h : ∀ a s', St w S₀ cs (.v (.ref a) (.e (.iv x1)) :: fs) s' → Q (.ref a) s') : wpAny (model pw w) A (call (.ref 539) [.ref v1]) Q E' s := by
  refine newI C (f := 467) rfl fun x d s' C => ?_
  refine callF (n := 3) (binds := [("self", .ref x), ("variable", .ref v1)]) ok467 C r.made (binds0 (by kernel_rfl)) (by kernel_rfl) (by kernel_rfl) fun L A' s' r' C => ?_
  have nb_isinstance := b_isinstance; have ng_Variable := g_Variable
  walk_at "B"
  kd_p1
  refine ⟨rfl, ?_⟩
  rename_i s' C
  have C' := (C.drop).asIns (l := _) (x := x) (by kd_in)
  have C'' := C'.fact (f := .v (.ref x) (.e (.iv x1))) fun g Y => of_isE ⟨_, _, Y _ (.head _), isVar_of (Y _ (.tail _ (.tail _ h1)))⟩
  exact h _ _ (C''.weakF (by walk_at "w"))
theorem mk_Var {n : Str} {t : Tok} (C : St w S₀ cs fs s) (r : Room A 5) (h : ∀ a s', St w S₀ cs (.v (.ref a) (.var n) :: fs) s' → Q (.ref a) s') : wpAny (model pw w) A (call (.ref 154) [.str n t]) Q E' s := by
  refine newI C (f := 130) rfl fun x d s' C => ?_
  refine callF (n := 3) (binds := [("self", .ref x), ("name", .str n t)]) ok130 C r.made (binds0 (by kernel_rfl)) (by kernel_rfl) (by kernel_rfl) fun L A' s' r' C => ?_
  have nb_isinstance := b_isinstance; have nb_str := b_str
  walk_at "B"
  kd_p1
  refine ⟨rfl, ?_⟩
  rename_i s' C
  have C' := (C.drop).asIns (l := _) (x := x) (by kd_in)
  have C'' := C'.fact (f := .v (.ref x) (.var n)) fun g Y => of_isVar ⟨_, _, Y _ (.head _)⟩
  exact h _ _ (C''.weakF (by walk_at "w"))
end
section
variable {w : World} {S₀ s : Shared} {cs cs' : List Cell} {fs : List Fact} {A : Around} {E' : Value → Shared → Prop} {Q : Value → Shared → Prop} {R : Result → Shared → Prop}
theorem eq_Var {a b : Addr} {x y : Str} (C : St w S₀ cs fs s) (r : Room A 3) (h1 : Fact.v (.ref a) (.var x) ∈ fs) (h2 : Fact.v (.ref b) (.var y) ∈ fs)
    (h : ∀ s', St w S₀ cs fs s' → R (.ok (.ret (.bool (x == y)))) s') : codeAny (model pw w) A (.call (.ref 137) ⟨[.ref a, .ref b], []⟩) R s := by
  refine callF (n := 2) (binds := [("self", .ref a), ("other", .ref b)]) ok137 C r (binds0 (by kernel_rfl)) (by kernel_rfl) (by kernel_rfl) fun L A' s' r' C => ?_
  obtain ⟨t, t', C⟩ := C.openVar h1
  obtain ⟨u, u', C⟩ := C.openVar (.tail _ h2)
  have nb_isinstance := b_isinstance; have ng_Variable := g_Variable
  walk_at "B"
  kd_p1
  rename_i s' C
  exact h _ (C.drop.weakF (by walk_at "w"))
theorem cmp_Var {a b L : Addr} {m : List (Str × Value)} {x y : Str} (C : St w S₀ cs fs s) (r : Room A 3) (hm : Cell.ns L m ∈ cs) (h1 : Fact.v (.ref a) (.var x) ∈ fs) (h2 : Fact.v (.ref b) (.var y) ∈ fs)
    (h : ∀ s', St w S₀ cs fs s' → Q (.bool (x == y)) s') : wpAny (model pw w) A (compareOp .Eq (.ref a) (.ref b)) Q E' s := by
  obtain ⟨t, t', C⟩ := C.openVar h1
  obtain ⟨u, u', C⟩ := C.openVar (.tail _ h2)
  exact cmpI C r hm (.inl (.tail _ (.head _))) (.inl (.head _)) rfl rfl rfl (eq_Var C r (.tail _ (.tail _ h1)) (.tail _ (.tail _ h2)) fun s' C => h s' (C.weakF (by walk_at "w")))
theorem eq_Abs {a b : Addr} {x y : E} (C : St w S₀ cs fs s) (r : Room A 6) (h1 : Fact.v (.ref a) (.e x) ∈ fs) (h2 : Fact.v (.ref b) (.e y) ∈ fs) (hx : (ups x).contains 513 = true) 
    (h : ∀ s', St w S₀ cs fs s' → R (.ok (.ret (.bool (eqE x y)))) s') : codeAny (model pw w) A (.call (.ref 496) ⟨[.ref a, .ref b], []⟩) R s := by
  refine callF (n := 5) (binds := [("self", .ref a), ("other", .ref b)]) ok496 C r (binds0 (by kernel_rfl)) (by kernel_rfl) (by kernel_rfl) fun L A' s' r' C => ?_
  have nb_isinstance := b_isinstance; have ng_AbstractVariableExpression := g_AbstractVariableExpression
  walk_at "B"
  kd_p1
  refine isiE (by assumption) h2 (by exact rfl) fun s' C => ?_
  cases e : (ups y).contains 513 with
  | false =>
    kd_p1
    exact eqE_no hx e ▸ h _ C.drop
  | true =>
    obtain ⟨y', D', t', v, hD', ny, C⟩ := C.openAbs h2 e
    obtain ⟨x', D, t, u, hD, nx, C⟩ := C.openAbs (.tail _ (.tail _ h1)) hx
    rcases hD with rfl | rfl <;> rcases hD' with rfl | rfl <;>
    · kd_p1
      rename_i s' C
      refine cmp_Var C (r'.le (by kd_p)) (by kd_in) (x := x') (y := y') (by kd_in) (by kd_in) fun s' C => ?_
      exact eqE_names nx ny ▸ h _ (C.drop.weakF (by walk_at "w"))
end
section
variable {w : World} {S₀ : Shared}
theorem sim_eqT {x : E} (h : simE x = true) : eqT.contains (cls x) = true := by cases x <;> first | exact rfl | exact nomatch (show false = true from h)
theorem sim_abs {x : E} (h : simE x = true) (n : ∀ f y, x ≠ .app f y) : (ups x).contains 513 = true ∧ mTab.lookup (cls x, ("__eq__" : Str)) = some 496 := by
  cases x <;> first | exact ⟨rfl, rfl⟩ | exact absurd rfl (n _ _) | exact nomatch (show false = true from h)
theorem cmp_E : ∀ {x y : E} {s : Shared} {cs : List Cell} {fs : List Fact} {A : Around} {E' : Value → Shared → Prop} {Q : Value → Shared → Prop} {a b L : Addr} {m : List (Str × Value)}, simE x = true → simE y = true → St w S₀ cs fs s → Room A (3 * depE x + 8) →
    Cell.ns L m ∈ cs → Fact.v (.ref a) (.e x) ∈ fs → Fact.v (.ref b) (.e y) ∈ fs → (∀ s', St w S₀ cs fs s' → Q (.bool (eqE x y)) s') → wpAny (model pw w) A (compareOp .Eq (.ref a) (.ref b)) Q E' s := by
  intro x
  induction x with
  | app f z ihf ihz =>
    intro y s cs fs A E' Q a b L m hx hy C r hm h1 h2 h
    have hx' : simE f = true ∧ simE z = true := Bool.and_eq_true_iff.mp hx
    obtain ⟨t, u, v, k, C⟩ := C.openApp h1
    obtain ⟨l, C⟩ := C.openE (.tail _ (.tail _ (.tail _ h2)))
    refine cmpI C r hm (.inl (.tail _ (.head _))) (.inl (.head _)) rfl (sim_eqT hy) (f := 411) rfl ?_
    have d1 : depE f + 1 ≤ depE (.app f z) := Nat.succ_le_succ (Nat.le_max_left _ _)
    have d2 : depE z + 1 ≤ depE (.app f z) := Nat.succ_le_succ (Nat.le_max_right _ _)
    refine callF (n := 3 * depE (.app f z) + 7) (binds := [("self", .ref a), ("other", .ref b)]) ok411 C r (binds0 (by kernel_rfl)) (by kernel_rfl) (by kernel_rfl) fun L A' s' r' C => ?_
    have nb_isinstance := b_isinstance; have ng_ApplicationExpression := g_ApplicationExpression
    walk_at "B"
    kd_p1
    refine isiE (by assumption) (.tail _ (.tail _ (.tail _ (.tail _ h2)))) (by exact rfl) fun s' C => ?_
    cases y with
    | app f' z' =>
      have hy' : simE f' = true ∧ simE z' = true := Bool.and_eq_true_iff.mp hy
      obtain ⟨t', u', v', k', C⟩ := C.openApp (.tail _ (.tail _ (.tail _ (.tail _ h2))))
      refine wpAny_truthy_bool ?_
      refine (if_pos rfl).mpr ?_
      kd_p1
      rename_i s' C
      refine ihf hx'.1 hy'.1 C (r'.le (by kd_p)) (by kd_in) (by kd_in) (by kd_in) fun s' C => ?_
      cases e1 : eqE f f' with
      | false =>
        kd_p1
        have e : eqE (.app f z) (.app f' z') = false := by show (eqE f f' && eqE z z') = false; rw [e1]; rfl
        exact e ▸ h _ (C.drop.weakF (by walk_at "w"))
      | true =>
        kd_p1
        rename_i s' C
        refine ihz hx'.2 hy'.2 C (r'.le (by kd_p)) (by kd_in) (by kd_in) (by kd_in) fun s' C => ?_
        have e : eqE (.app f z) (.app f' z') = eqE z z' := by show (eqE f f' && eqE z z') = _; rw [e1]; rfl
        exact e ▸ h _ (C.drop.weakF (by walk_at "w"))
    | con n =>
      kd_p1
      exact h _ (C.drop.weakF (by walk_at "w"))
    | iv n =>
      kd_p1
      exact h _ (C.drop.weakF (by walk_at "w"))
    | _ => exact nomatch (show false = true from hy)
  | con n =>
    intro y s cs fs A E' Q a b L m hx hy C r hm h1 h2 h
    obtain ⟨l, C⟩ := C.openE h1
    obtain ⟨l', C⟩ := C.openE (.tail _ h2)
    exact cmpI C r hm (.inl (.tail _ (.head _))) (.inl (.head _)) rfl (sim_eqT hy) (f := 496) rfl (eq_Abs C (r.le (by kd_p)) (.tail _ (.tail _ h1)) (.tail _ (.tail _ h2)) rfl fun s' C => h _ (C.weakF (by walk_at "w")))
  | iv n =>
    intro y s cs fs A E' Q a b L m hx hy C r hm h1 h2 h
    obtain ⟨l, C⟩ := C.openE h1
    obtain ⟨l', C⟩ := C.openE (.tail _ h2)
    exact cmpI C r hm (.inl (.tail _ (.head _))) (.inl (.head _)) rfl (sim_eqT hy) (f := 496) rfl (eq_Abs C (r.le (by kd_p)) (.tail _ (.tail _ h1)) (.tail _ (.tail _ h2)) rfl fun s' C => h _ (C.weakF (by walk_at "w")))
  | _ => intro y s cs fs A E' Q a b L m hx; exact nomatch (show false = true from hx)
end
noncomputable def AsksEq (w : World) (I : Shared → Prop) (n : Nat) (y x : Value) (b : Bool) : Prop := ∀ (A : Around) (E : Value → Shared → Prop) (Q : Bool → Shared → Prop) (s : Shared), Room A n → I s → (∀ s', I s' → Q b s') → wpAny (model pw w) A (eqBool y x) Q E s
section
variable {w : World} {I : Shared → Prop} {n : Nat} {l : Addr} {items : List Value} {x : Value} {bs : List Bool}
theorem in_loop (hl : ∀ s, I s → s.heap.PlainList l items.toArray) (hn : bs.length = items.length) (he : ∀ (i : Nat) (y : Value) (b : Bool), items[i]? = some y → bs[i]? = some b → AsksEq w I n y x b) (k : Nat) :
    ∀ i : Nat, items.length - i = k → MeetsIn pw w (Builtin.«list.__contains__.loop» ⟨[.ref l, x, rawInt i], []⟩)
      (fun A R s => Room A.in1 n ∧ I s ∧ ∀ s', I s' → R (.ok (.ret (.bool ((bs.drop i).any id)))) s') := by
  induction k with
  | zero =>
    intro i hk A R s h
    obtain ⟨hr, hI, h⟩ := h
    obtain ⟨m, ho⟩ := hl s hI
    refine wpAny_bind (m := Builtin.List.listItems (.ref l)) (wpAny_listItems ho rfl ?_)
    have hi : items.toArray[((i : Nat) : Int).toNat]? = none := by simp; exact Nat.le_of_sub_eq_zero hk
    have hd : bs.drop i = [] := by simp; exact hn ▸ Nat.le_of_sub_eq_zero hk
    rw [hi]
    rw [hd] at h
    exact wpAny_pure (h s hI)
  | succ k ih =>
    intro i hk A R s h
    obtain ⟨hr, hI, h⟩ := h
    obtain ⟨m, ho⟩ := hl s hI
    refine wpAny_bind (m := Builtin.List.listItems (.ref l)) (wpAny_listItems ho rfl ?_)
    have hlt : i < items.length := Nat.lt_of_sub_eq_succ hk
    have hlb : i < bs.length := hn ▸ hlt
    have hi : items.toArray[((i : Nat) : Int).toNat]? = some items[i] := by simp [hlt]
    have hd : bs.drop i = bs[i] :: bs.drop (i + 1) := List.drop_eq_getElem_cons hlb
    rw [hi]
    rw [hd, List.any_cons] at h
    refine wpAny_bind (he i _ bs[i] (List.getElem?_eq_getElem hlt) (List.getElem?_eq_getElem hlb) _ _ _ s hr hI fun s' hI' => ?_)
    cases hb : bs[i] with
    | true =>
      rw [hb] at h
      exact wpAny_pure (h s' hI')
    | false =>
      rw [hb] at h
      have hc : ((i : Int) + 1) = ((i + 1 : Nat) : Int) := by push_cast; rfl
      refine wpAny_pure ?_
      refine ⟨plainId_quiet MeetsSeq.plain_contains_loop _, ?_⟩
      rw [hc]
      refine codeAny_builtin MeetsSeq.entry_contains_loop ?_
      rw [Around.under_plainId MeetsSeq.plain_contains_loop _]
      exact ih (i + 1) (ar1 hk) A R s' ⟨hr, hI', fun s'' z => by simpa using h s'' z⟩
end
section
variable {w : World} {S₀ : Shared} {P : Params} {g : PM}
theorem insF_one {a D D' : Addr} {n n' : Str} {t t' : Tok} {v v' : Value} (h : InsF P g a D [(n, t, v)]) (k : InsF P g a D' [(n', t', v')]) : D = D' ∧ v = v' := by
  obtain ⟨d, x, y⟩ := h
  obtain ⟨d', x', y'⟩ := k
  rw [x] at x'
  cases x'
  rw [y] at y'
  injection (Option.some.inj y') with _ _ z _
  injection z with z _
  have z := congrArg Array.toList z
  simp only [mkEs, List.map_cons, List.map_nil] at z
  injection z with z _
  injection z with _ _ z
  exact ⟨rfl, z⟩
theorem insF_two {a D D' : Addr} {n n' m m' : Str} {t t' u u' : Tok} {v v' z z' : Value} (h : InsF P g a D [(n, t, v), (m, u, z)]) (k : InsF P g a D' [(n', t', v'), (m', u', z')]) : D = D' ∧ v = v' ∧ z = z' := by
  obtain ⟨d, x, y⟩ := h
  obtain ⟨d', x', y'⟩ := k
  rw [x] at x'
  cases x'
  rw [y] at y'
  injection (Option.some.inj y') with _ _ q _
  injection q with q _
  have q := congrArg Array.toList q
  simp only [mkEs, List.map_cons, List.map_nil] at q
  injection q with q1 q
  injection q with q2 _
  injection q1 with _ _ q1
  injection q2 with _ _ q2
  exact ⟨rfl, q1, q2⟩
theorem insF_cls {a D D' : Addr} {l l' : Flds} (h : InsF P g a D l) (k : InsF P g a D' l') : D = D' := by
  obtain ⟨d, x, _⟩ := h
  obtain ⟨d', x', _⟩ := k
  rw [x] at x'
  cases x'
  rfl
theorem isVar_uniq {a : Addr} {x y : Str} (h : IsVar P g a x) (k : IsVar P g a y) : x = y := by
  obtain ⟨t, t', h⟩ := h
  obtain ⟨u, u', k⟩ := k
  have := (insF_one h k).2
  injection this
theorem Ji1.uniq {a C C' : Addr} {n n' : Str} {p p' : Addr → Prop} (h : Ji1 P g a C n p) (k : Ji1 P g a C' n' p') : ∃ v, p v ∧ p' v := by
  obtain ⟨t, v, x, y⟩ := h
  obtain ⟨t', v', x', y'⟩ := k
  cases (insF_one x x').2
  exact ⟨v, y, y'⟩
theorem Ji2.uniq {a C C' : Addr} {n n' m m' : Str} {p p' q q' : Addr → Prop} (h : Ji2 P g a C n m p q) (k : Ji2 P g a C' n' m' p' q') : (∃ v, p v ∧ p' v) ∧ ∃ v, q v ∧ q' v := by
  obtain ⟨t, u, v, w, x, y, z⟩ := h
  obtain ⟨t', u', v', w', x', y', z'⟩ := k
  obtain ⟨_, e1, e2⟩ := insF_two x x'
  cases e1; cases e2
  exact ⟨⟨v, y, y'⟩, w, z, z'⟩
theorem noEq {n m : Nat} (e : n = m) (h : Nat.beq n m = false) : False := by subst e; rw [Nat.beq_refl] at h; cases h
theorem uV {x y : Str} : (∃ v, IsVar P g v x ∧ IsVar P g v y) → x = y := fun ⟨_, h, k⟩ => isVar_uniq h k
theorem uE {x y : E} (i : ∀ {y : E} {a : Addr}, IsE P g x a → IsE P g y a → x = y) : (∃ v, IsE P g x v ∧ IsE P g y v) → x = y := fun ⟨_, h, k⟩ => i h k
theorem isE_uniq {x : E} : ∀ {y : E} {a : Addr}, IsE P g x a → IsE P g y a → x = y := by
  have key : ∀ {x y : E} {a : Addr}, IsE P g x a → IsE P g y a → cls x = cls y := fun h k => by
    obtain ⟨l, hl⟩ := isE_cls h
    obtain ⟨l', kl⟩ := isE_cls k
    exact insF_cls hl kl
  induction x with
  | con n => intro y a h k; cases y with
    | con m => rw [uV (Ji1.uniq h k)]
    | _ => exact (noEq (key h k) rfl).elim
  | iv n => intro y a h k; cases y with
    | iv m => rw [uV (Ji1.uniq h k)]
    | _ => exact (noEq (key h k) rfl).elim
  | neg n i => intro y a h k; cases y with
    | neg m => rw [uE i (Ji1.uniq h k)]
    | _ => exact (noEq (key h k) rfl).elim
  | all z n i => intro y a h k; cases y with
    | all z' m => rw [uV (Ji2.uniq h k).1, uE i (Ji2.uniq h k).2]
    | _ => exact (noEq (key h k) rfl).elim
  | ex z n i => intro y a h k; cases y with
    | ex z' m => rw [uV (Ji2.uniq h k).1, uE i (Ji2.uniq h k).2]
    | _ => exact (noEq (key h k) rfl).elim
  | app z n i i' => intro y a h k; cases y with
    | app z' m => rw [uE i (Ji2.uniq h k).1, uE i' (Ji2.uniq h k).2]
    | _ => exact (noEq (key h k) rfl).elim
  | and z n i i' => intro y a h k; cases y with
    | and z' m => rw [uE i (Ji2.uniq h k).1, uE i' (Ji2.uniq h k).2]
    | _ => exact (noEq (key h k) rfl).elim
  | or z n i i' => intro y a h k; cases y with
    | or z' m => rw [uE i (Ji2.uniq h k).1, uE i' (Ji2.uniq h k).2]
    | _ => exact (noEq (key h k) rfl).elim
  | imp z n i i' => intro y a h k; cases y with
    | imp z' m => rw [uE i (Ji2.uniq h k).1, uE i' (Ji2.uniq h k).2]
    | _ => exact (noEq (key h k) rfl).elim
theorem eqE_refl : ∀ {x : E}, simE x = true → eqE x x = true := by
  intro x
  induction x with
  | con n => intro _; show (n == n) = true; exact beq_self_eq_true n
  | iv n => intro _; show (n == n) = true; exact beq_self_eq_true n
  | app f z i1 i2 => intro h; have h' : simE f = true ∧ simE z = true := Bool.and_eq_true_iff.mp h; show (eqE f f && eqE z z) = true; rw [i1 h'.1, i2 h'.2]; rfl
  | _ => intro h; exact nomatch (show false = true from h)
end
section
variable {w : World} {S₀ s : Shared} {cs cs' : List Cell} {fs : List Fact} {A : Around} {E' : Value → Shared → Prop} {Q : Value → Shared → Prop}
theorem relL_len {P : Params} {g : PM} : ∀ {as : List AV} {vs : List Value}, RelL P g as vs → vs.length = as.length
  | [], vs, h => by rw [h]; rfl
  | _ :: _, vs, h => by obtain ⟨v, r, rfl, _, z⟩ := h; rw [List.length_cons, List.length_cons, relL_len z]
theorem relL_at {P : Params} {g : PM} : ∀ {as : List AV} {vs : List Value} {i : Nat} {a : AV} {v : Value}, RelL P g as vs → vs[i]? = some v → as[i]? = some a → RelV P g a v
  | [], _, _, _, _, _, _, e => by simp at e
  | x :: xs, vs, i, a, v, h, e1, e2 => by
    obtain ⟨u, r, rfl, y, z⟩ := h
    cases i with
    | zero => simp at e1 e2; rw [← e1, ← e2]; exact y
    | succ i => simp at e1 e2; exact relL_at z e1 e2
theorem St.item (C : St w S₀ cs fs s) {vs : List Value} {as : List AV} {i : Nat} {v : Value} {a : AV} (h : Fact.l vs as ∈ fs) (e1 : vs[i]? = some v) (e2 : as[i]? = some a) : St w S₀ cs (.v v a :: fs) s := C.fact fun g Y => relL_at (Y _ h) e1 e2
theorem St.len (C : St w S₀ cs fs s) {vs : List Value} {as : List AV} (h : Fact.l vs as ∈ fs) : vs.length = as.length := by obtain ⟨g, _, Y⟩ := C; exact relL_len (Y _ h)
theorem St.ref (C : St w S₀ cs fs s) {v : Value} {x : E} (h : Fact.v v (.e x) ∈ fs) : ∃ a, v = .ref a := by obtain ⟨g, _, Y⟩ := C; have := Y _ h; obtain ⟨a, e, _⟩ := this; exact ⟨a, e⟩
theorem St.refVar (C : St w S₀ cs fs s) {v : Value} {x : Str} (h : Fact.v v (.var x) ∈ fs) : ∃ a, v = .ref a := by obtain ⟨g, _, Y⟩ := C; have := Y _ h; obtain ⟨a, e, _⟩ := this; exact ⟨a, e⟩
theorem St.uniq (C : St w S₀ cs fs s) {a : Addr} {x y : E} (h : Fact.v (.ref a) (.e x) ∈ fs) (k : Fact.v (.ref a) (.e y) ∈ fs) : x = y := by obtain ⟨g, _, Y⟩ := C; exact isE_uniq (isE_of (Y _ h)) (isE_of (Y _ k))
theorem truthOf_bool {b : Bool} {Q : Bool → Shared → Prop} (h : Q b s) : wpAny (model pw w) A (truthOfDropped (.bool b)) Q E' s := wpAny_truthy_bool h
theorem asks_E {x y : E} {a b L : Addr} {m : List (Str × Value)} {n : Nat} (hx : simE x = true) (hy : simE y = true) (hn : 3 * depE y + 8 ≤ n) (hm : Cell.ns L m ∈ cs) (h1 : Fact.v (.ref b) (.e y) ∈ fs) (h2 : Fact.v (.ref a) (.e x) ∈ fs) :
    AsksEq w (St w S₀ cs fs) n (.ref b) (.ref a) (eqE y x) := by
  intro A E Q s r C h
  unfold eqBool
  refine wpAny_holding ?_
  by_cases e : (Value.ref b == Value.ref a) = true
  · rw [if_pos e]
    have e' : b = a := by injection (beq_iff_eq.mp e)
    subst e'
    have := C.uniq h1 h2
    subst this
    exact wpAny_bind (wpAny_rule (wpAny_pure (eqE_refl hx ▸ h s C)))
  · rw [if_neg e]
    show wpAny _ _ (richCompare .Eq (.ref b) (.ref a) >>= truthOfDropped) _ _ _
    refine wpAny_bind ?_
    exact cmp_E (Q := fun v s' => wpAny (model pw w) A (truthOfDropped v) Q E s') hy hx C (r.le hn) hm h1 h2 fun s' C => truthOf_bool (h s' C)
theorem list_contains {I : Shared → Prop} {n : Nat} {l : Addr} {items : List Value} {x : Value} {bs : List Bool} (hl : ∀ s, I s → s.heap.PlainList l items.toArray) (hn : bs.length = items.length) (he : ∀ (i : Nat) (y : Value) (b : Bool), items[i]? = some y → bs[i]? = some b → AsksEq w I n y x b) :
    MeetsIn pw w (Builtin.«list.__contains__» ⟨[.ref l, x], []⟩) (fun A R s => Room A.in1 n ∧ I s ∧ ∀ s', I s' → R (.ok (.ret (.bool (bs.any id)))) s') := by
  intro A R s h
  refine wpAny_pure (a := Fin.again (.builtin "list.__contains__.loop" ⟨[.ref l, x, rawInt 0], []⟩)) ⟨plainId_quiet MeetsSeq.plain_contains_loop _, codeAny_builtin MeetsSeq.entry_contains_loop ?_⟩
  rw [Around.under_plainId MeetsSeq.plain_contains_loop _]
  exact in_loop hl hn he _ 0 rfl A R s h
theorem contains_of {I : Shared → Prop} {n : Nat} {l : Addr} {items : List Value} {x : Value} {bs : List Bool} {Q : Bool → Shared → Prop} (hl : ∀ s, I s → s.heap.PlainList l items.toArray) (hn : bs.length = items.length)
    (he : ∀ (i : Nat) (y : Value) (b : Bool), items[i]? = some y → bs[i]? = some b → AsksEq w I n y x b) (r : Room A (n + 1)) (hI : I s) (h : ∀ s', I s' → Q (bs.any id) s') : wpAny (model pw w) A (contains (.ref l) x) Q E' s := by
  obtain ⟨k, ho⟩ := hl s hI
  refine wpAny_contains_slot ⟨_, ho, rfl⟩ F.slot_list_contains (call_meetsIn F.slot_list_contains ⟨_, ho, rfl⟩ F.entry_list_contains (F.args_list_contains_2 _ _) (list_contains hl hn he) ⟨r.in1, hI, fun s' z => ?_⟩)
  exact wpAny_truthy_bool (h s' z)
theorem in_of {I : Shared → Prop} {n : Nat} {l : Addr} {items : List Value} {x : Value} {bs : List Bool} (hl : ∀ s, I s → s.heap.PlainList l items.toArray) (hn : bs.length = items.length)
    (he : ∀ (i : Nat) (y : Value) (b : Bool), items[i]? = some y → bs[i]? = some b → AsksEq w I n y x b) (r : Room A (n + 1)) (hI : I s) (h : ∀ s', I s' → Q (.bool (bs.any id)) s') : wpAny (model pw w) A (compareOp .In x (.ref l)) Q E' s :=
  wpAny_bind (contains_of hl hn he r hI fun s' z => wpAny_pure (h s' z))
theorem notIn_of {I : Shared → Prop} {n : Nat} {l : Addr} {items : List Value} {x : Value} {bs : List Bool} (hl : ∀ s, I s → s.heap.PlainList l items.toArray) (hn : bs.length = items.length)
    (he : ∀ (i : Nat) (y : Value) (b : Bool), items[i]? = some y → bs[i]? = some b → AsksEq w I n y x b) (r : Room A (n + 1)) (hI : I s) (h : ∀ s', I s' → Q (.bool (!(bs.any id))) s') : wpAny (model pw w) A (compareOp .NotIn x (.ref l)) Q E' s :=
  wpAny_bind (contains_of hl hn he r hI fun s' z => wpAny_pure (h s' z))
theorem St.plain (C : St w S₀ cs fs s) {l : Addr} {vs : List Value} (h : Cell.li l vs ∈ cs ∨ Fact.li l vs ∈ fs) : s.heap.PlainList l vs.toArray := by
  obtain ⟨g, X, Y⟩ := C
  rcases h with h | h
  · exact X.cells _ h
  · obtain ⟨n, e⟩ := Y _ h
    exact ⟨n, X.sub _ _ e⟩
theorem any_map {α : Type} (f : α → Bool) (l : List α) : (l.map f).any id = l.any f := by rw [List.any_map]; rfl
theorem AsksEq.mono {I J : Shared → Prop} {n : Nat} {y x : Value} {b : Bool} (h : AsksEq w J n y x b) (to : ∀ s, I s → J s) (back : ∀ s, J s → I s) : AsksEq w I n y x b :=
  fun A E Q s r i k => h A E Q s r (to s i) fun s' j => k s' (back s' j)
theorem asks_list {x : E} {xs : List E} {a L : Addr} {m : List (Str × Value)} {vs : List Value} {n : Nat} (C : St w S₀ cs fs s) (hx : simE x = true) (hy : ∀ y ∈ xs, simE y = true ∧ 3 * depE y + 8 ≤ n) (hm : Cell.ns L m ∈ cs)
    (hv : Fact.l vs (xs.map .e) ∈ fs) (h2 : Fact.v (.ref a) (.e x) ∈ fs) : (xs.map fun y => eqE y x).length = vs.length ∧ ∀ (i : Nat) (v : Value) (b : Bool), vs[i]? = some v → (xs.map fun y => eqE y x)[i]? = some b → AsksEq w (St w S₀ cs fs) n v (.ref a) b := by
  have hlen := C.len hv
  refine ⟨by rw [List.length_map, hlen, List.length_map], fun i v b e1 e2 => ?_⟩
  rw [List.getElem?_map, Option.map_eq_some_iff] at e2
  obtain ⟨y, e2, rfl⟩ := e2
  have e3 : (xs.map AV.e)[i]? = some (.e y) := by rw [List.getElem?_map, e2]; rfl
  obtain ⟨b, rfl⟩ := (C.item hv e1 e3).ref (.head _)
  have hy' := hy y (List.mem_of_getElem? e2)
  exact (asks_E (cs := cs) (fs := .v (.ref b) (.e y) :: fs) hx hy'.1 hy'.2 hm (.head _) (.tail _ h2)).mono (fun s C => C.item hv e1 e3) fun s C => C.weakF (by intro f hf; exact .tail _ hf)
theorem in_E {x : E} {xs : List E} {a l L : Addr} {m : List (Str × Value)} {vs : List Value} {n : Nat} (C : St w S₀ cs fs s) (r : Room A (n + 1)) (hx : simE x = true) (hy : ∀ y ∈ xs, simE y = true ∧ 3 * depE y + 8 ≤ n) (hm : Cell.ns L m ∈ cs)
    (hl : Cell.li l vs ∈ cs ∨ Fact.li l vs ∈ fs) (hv : Fact.l vs (xs.map .e) ∈ fs) (h2 : Fact.v (.ref a) (.e x) ∈ fs) (h : ∀ s', St w S₀ cs fs s' → Q (.bool (xs.any fun y => eqE y x)) s') :
    wpAny (model pw w) A (compareOp .In (.ref a) (.ref l)) Q E' s := by
  obtain ⟨z1, z2⟩ := asks_list C hx hy hm hv h2
  exact in_of (I := St w S₀ cs fs) (fun s C => C.plain hl) z1 z2 r C fun s' C => by rw [any_map]; exact h s' C
theorem notIn_E {x : E} {xs : List E} {a l L : Addr} {m : List (Str × Value)} {vs : List Value} {n : Nat} (C : St w S₀ cs fs s) (r : Room A (n + 1)) (hx : simE x = true) (hy : ∀ y ∈ xs, simE y = true ∧ 3 * depE y + 8 ≤ n) (hm : Cell.ns L m ∈ cs)
    (hl : Cell.li l vs ∈ cs ∨ Fact.li l vs ∈ fs) (hv : Fact.l vs (xs.map .e) ∈ fs) (h2 : Fact.v (.ref a) (.e x) ∈ fs) (h : ∀ s', St w S₀ cs fs s' → Q (.bool (!(xs.any fun y => eqE y x))) s') :
    wpAny (model pw w) A (compareOp .NotIn (.ref a) (.ref l)) Q E' s := by
  obtain ⟨z1, z2⟩ := asks_list C hx hy hm hv h2
  exact notIn_of (I := St w S₀ cs fs) (fun s C => C.plain hl) z1 z2 r C fun s' C => by rw [any_map]; exact h s' C
end
section
variable {w : World} {S₀ s : Shared} {cs cs' : List Cell} {fs : List Fact} {A : Around} {E' : Value → Shared → Prop} {Q : Value → Shared → Prop}
theorem St.openPair (C : St w S₀ cs fs s) {v : Value} {x y : AV} (h : Fact.v v (.tup [x, y]) ∈ fs) : ∃ p u z, v = .ref p ∧ St w S₀ cs (.ob p (tupObj [u, z]) :: .v u x :: .v z y :: fs) s := by
  obtain ⟨g, X, Y⟩ := C
  have k := Y _ h
  obtain ⟨p, vs, e, ho, hr⟩ := k
  obtain ⟨u, r, rfl, h1, hr⟩ := hr
  obtain ⟨z, r, rfl, h2, hr⟩ := hr
  subst hr
  refine ⟨p, u, z, e, g, X, fun f hf => ?_⟩
  exact (List.mem_append.mp (show f ∈ [Fact.ob p (tupObj [u, z]), .v u x, .v z y] ++ fs from hf)).elim (ok3 (a := .ob p (tupObj [u, z])) (b := .v u x) (c := .v z y) ho h1 h2 f) (Y f)
theorem St.bool (C : St w S₀ cs fs s) {v : Value} {b : Bool} (h : Fact.v v (.bool b) ∈ fs) : v = .bool b := by obtain ⟨g, _, Y⟩ := C; have := Y _ h; exact this
theorem St.noneV (C : St w S₀ cs fs s) {v : Value} (h : Fact.v v .none ∈ fs) : v = .none := by obtain ⟨g, _, Y⟩ := C; have := Y _ h; exact this
theorem St.obj (C : St w S₀ cs fs s) {a : Addr} {o : Obj} (h : Fact.ob a o ∈ fs) : s.heap.get? a = some o := by obtain ⟨g, X, Y⟩ := C; exact X.sub _ _ (Y _ h)
theorem bool_asks {b b' : Bool} {Q : Bool → Shared → Prop} (h : Q (b == b') s) : wpAny (model pw w) A (eqBool (.bool b) (.bool b')) Q E' s := by
  unfold eqBool
  refine wpAny_holding ?_
  by_cases e : (Value.bool b == Value.bool b') = true
  · rw [if_pos e]
    have e' : b = b' := by injection (beq_iff_eq.mp e)
    subst e'
    rw [beq_self_eq_true] at h
    exact wpAny_bind (wpAny_rule (wpAny_pure h))
  · rw [if_neg e]
    refine wpAny_bind (Q := _) (PyProof.Rows.eq_bool (A := A) (E := E') (s := s) ?_)
    exact truthOf_bool h
theorem asks_P {x y : E} {b b' : Bool} {p q L : Addr} {m : List (Str × Value)} {n : Nat} (hx : simE x = true) (hy : simE y = true) (hn : 3 * depE y + 9 ≤ n) (hm : Cell.ns L m ∈ cs) (h1 : Fact.v (.ref q) (.tup [.e y, .bool b']) ∈ fs) (h2 : Fact.v (.ref p) (.tup [.e x, .bool b]) ∈ fs) :
    AsksEq w (St w S₀ cs fs) n (.ref q) (.ref p) (eqE y x && (b' == b)) := by
  intro A E Q s r C h
  have h' : ∀ s', St w S₀ cs fs s' → Q (eqE y x && (b' == b)) s' := h
  obtain ⟨_, u, z, e, C⟩ := C.openPair h1
  cases e
  obtain ⟨a, rfl⟩ := C.ref (.tail _ (.head _))
  have e := C.bool (.tail _ (.tail _ (.head _)))
  subst e
  obtain ⟨_, u, z, e, C⟩ := C.openPair (.tail _ (.tail _ (.tail _ h2)))
  cases e
  obtain ⟨a', rfl⟩ := C.ref (.tail _ (.head _))
  have e := C.bool (.tail _ (.tail _ (.head _)))
  subst e
  have o1 := C.obj (.tail _ (.tail _ (.tail _ (.head _))))
  have o2 := C.obj (.head _)
  unfold eqBool
  refine wpAny_holding ?_
  show wpAny _ _ (if (Value.ref q == Value.ref p) = true then _ else _) _ _ _
  by_cases e : (Value.ref q == Value.ref p) = true
  · rw [if_pos e]
    have e' : q = p := by injection (beq_iff_eq.mp e)
    subst e'
    rw [o1] at o2
    injection o2 with o2
    injection o2 with _ _ o2
    injection o2 with o2
    simp only [List.toArray_inj, Array.mk.injEq, List.cons.injEq, Value.ref.injEq, Value.bool.injEq, and_true] at o2
    obtain ⟨rfl, rfl⟩ := o2
    have := C.uniq (x := y) (y := x) (.tail _ (.tail _ (.tail _ (.tail _ (.head _))))) (.tail _ (.head _))
    subst this
    have t : (eqE y y && (b' == b')) = true := by rw [eqE_refl hx, beq_self_eq_true]; rfl
    rw [t] at h'
    exact wpAny_bind (wpAny_rule (wpAny_pure (h' s (C.weakF (by walk_at "w")))))
  · rw [if_neg e]
    show wpAny _ _ (richCompare .Eq (.ref q) (.ref p) >>= truthOfDropped) _ _ _
    refine wpAny_bind (wpAny_richCompare_same_room (op := .Eq) (T := "tuple") ⟨_, o1, rfl⟩ ⟨_, o2, rfl⟩ PyProof.Rows.slot_tuple_eq (wpAny_call_entry PyProof.Rows.slot_tuple_eq ⟨_, o1, rfl⟩ PyProof.Rows.entry_tuple_eq ?_ (PyProof.Rows.args_tuple_eq _ _)) r.units)
    show wpAny _ _ (isInstance (.ref p) (.type "tuple") >>= _) _ _ s
    refine wpAny_bind (wpAny_isInstance ⟨_, o2, rfl⟩ isSubtype_tuple_tuple ?_)
    simp only [Bool.not_true, Bool.false_eq_true, if_false]
    refine wpAny_bind (wpAny_tupleItemsOf o1 rfl ?_)
    refine wpAny_bind (wpAny_tupleItemsOf o2 rfl ?_)
    refine wpAny_bind ?_
    simp only [List.zip_cons_cons, List.zip_nil_right, List.forIn_cons, List.forIn_nil]
    obtain ⟨k, rfl⟩ : ∃ k, n = k + 1 := ⟨n - 1, ar5 (Nat.le_trans (Nat.le_trans (by decide) (Nat.le_add_left 9 (3 * depE y))) (by assumption))⟩
    refine wpAny_bind (wpAny_bind (asks_E (n := k) hx hy (by kd_p) hm (.tail _ (.tail _ (.tail _ (.tail _ (.head _))))) (.tail _ (.head _)) _ _ _ _ r.in1 C fun s' C => ?_))
    cases e1 : eqE y x with
    | false =>
      rw [e1] at h'
      simp only [Bool.not_false, if_true]
      refine wpAny_bind (wpAny_pure (wpAny_pure (wpAny_pure (wpAny_pure ⟨_, rfl, (fun e => nomatch e), truthOf_bool (h' _ (C.weakF (by walk_at "w")))⟩))))
    | true =>
      rw [e1] at h'
      simp only [Bool.not_true, Bool.false_eq_true, if_false]
      refine wpAny_pure ?_
      refine wpAny_bind (wpAny_bind (bool_asks ?_))
      cases e2 : b' == b with
      | false =>
        rw [e2] at h'
        simp only [Bool.not_false, if_true]
        refine wpAny_bind (wpAny_pure (wpAny_pure (wpAny_pure (wpAny_pure ⟨_, rfl, (fun e => nomatch e), truthOf_bool (h' _ (C.weakF (by walk_at "w")))⟩))))
      | true =>
        rw [e2] at h'
        simp only [Bool.not_true, Bool.false_eq_true, if_false]
        refine wpAny_pure (wpAny_pure (wpAny_pure ⟨_, rfl, (fun e => nomatch e), truthOf_bool (h' _ (C.weakF (by walk_at "w")))⟩))
end
section
variable {w : World} {S₀ s : Shared} {cs cs' : List Cell} {fs : List Fact} {A : Around} {E' : Value → Shared → Prop} {Q : Value → Shared → Prop}
noncomputable def cvC (c : Addr) (v : Value) : Cell := .pr c fun o => o.data = .cell (some v)
noncomputable def ceC (c : Addr) : Cell := .pr c fun o => o.data = .cell none
noncomputable def itC (a l : Addr) (i : Nat) : Cell := .pr a fun o => o.cls = .type "list_iterator" ∧ o.data = .fields #[.ref l, .int i 0]
noncomputable def tiC (a t : Addr) (i : Nat) : Cell := .pr a fun o => o.cls = .type "tuple_iterator" ∧ o.data = .fields #[.ref t, .int i 0]
theorem St.ext {c : Cell} {h' : Heap} {tk : Tok} (C : St w S₀ (c :: cs) fs s) (k : Heap.ExtBut c.a s.heap h') (z : s.heap.objs.size ≤ h'.objs.size) : St w S₀ cs fs { s with heap := h', toks := tk } := by
  obtain ⟨g, X, Y⟩ := C
  have ho := X.off c (.head _)
  have hn := X.nod
  rw [List.map_cons, List.nodup_cons] at hn
  refine ⟨g, ⟨X.hs, by have := X.sh; rw [this], X.base, fun a o e => k a o (fun q => by rw [q, ho.1] at e; cases e) (X.sub a o e), X.gv, fun d hd => ?_, fun d hd => X.off d (.tail _ hd), hn.2, fun v hv => Vol.ok.keep (Ge.refl _) (fun o e => k _ o (fun q => ?_) e) (X.tab v hv), fun d hd => X.up d (.tail _ hd), Nat.le_trans X.big z⟩, Y⟩
  · exact Cell.keep (fun o e => k _ o (fun q => hn.1 (q ▸ List.mem_map_of_mem hd)) e) (X.cells d (.tail _ hd))
  · have := vols_vol v hv; rw [q, ho.2] at this; cases this
theorem St.sameNs {L : Addr} {m m' : List (Str × Value)} (C : St w S₀ (.ns L m :: cs) fs s) (h : ∀ x, m.lookup x = m'.lookup x) : St w S₀ (.ns L m' :: cs) fs s := by
  obtain ⟨g, X, Y⟩ := C
  refine ⟨g, ⟨X.hs, X.sh, X.base, X.sub, X.gv, fun c hc => ?_, fun c hc => ?_, X.nod, X.tab, fun c hc => ?_, X.big⟩, Y⟩
  · rcases List.mem_cons.mp hc with rfl | hc
    · have := X.cells _ (.head _)
      show s.heap.Ns L fun x => m'.lookup x
      have e : (fun x => m'.lookup x) = fun x => m.lookup x := funext fun x => (h x).symm
      rw [e]; exact this
    · exact X.cells c (.tail _ hc)
  · rcases List.mem_cons.mp hc with rfl | hc
    · exact X.off (.ns L m) (.head _)
    · exact X.off c (.tail _ hc)
  · rcases List.mem_cons.mp hc with rfl | hc
    · exact X.up (.ns L m) (.head _)
    · exact X.up c (.tail _ hc)
theorem newLi {vs : List Value} (C : St w S₀ cs fs s) (h : ∀ a s', St w S₀ (.li a vs :: cs) fs s' → Q (.ref a) s') (hz : autoParam (Nat.ble vs.length 100000 = true) tRfl) : wpAny (model pw w) A (newList vs) Q E' s :=
  wpAny_newList (h _ _ (C.pushC (.li _ vs) _ rfl ⟨_, Heap.get?_push_size _ rfl⟩ (tk := s.toks))) (Nat.le_trans (Nat.le_of_ble_eq_true hz) (by decide))
theorem newTu {vs : List Value} (C : St w S₀ cs fs s) (h : ∀ a s', St w S₀ cs (.ob a (tupObj vs) :: fs) s' → Q (.ref a) s') (hz : autoParam (Nat.ble vs.length 100000 = true) tRfl) : wpAny (model pw w) A (newTuple vs) Q E' s :=
  wpAny_newTuple (h _ _ (C.pushF (tupObj vs) rfl (tk := s.toks))) (Nat.le_trans (Nat.le_of_ble_eq_true hz) (by decide))
theorem appL {a : Addr} {vs : List Value} {x : Value} (C : St w S₀ cs fs s) (U : Upd (.li a vs) (.li a (vs ++ [x])) cs cs') (hz : vs.length ≤ 100000) (h : ∀ s', St w S₀ cs' fs s' → Q .none s') :
    wpAny (model pw w) A (call (.builtin "list.append") [.ref a, x]) Q E' s := by
  refine wpAny_list_append_plain (C.cell U.mem) (fun h' hp hs => h _ (C.upd (tk := s.toks) U hs rfl ?_)) (Nat.le_trans (by rw [List.size_toArray]; exact hz) (by decide))
  show h'.PlainList a (vs ++ [x]).toArray
  rw [← List.push_toArray]; exact hp
theorem gmL {a : Addr} {vs : List Value} {pl : Sem Bool} {Q : Value × List Value → Shared → Prop} (C : St w S₀ cs fs s) (hl : Cell.li a vs ∈ cs) (h : Q (.builtin "list.append", [.ref a]) s) : wpAny (model pw w) A (getMethod (.ref a) "append" pl) Q E' s := by
  obtain ⟨n, e⟩ := C.cell hl
  exact Calls.getMethod_list_append e rfl rfl h
theorem iterL {l : Addr} {vs : List Value} (C : St w S₀ cs fs s) (hl : Cell.li l vs ∈ cs ∨ Fact.li l vs ∈ fs) (h : ∀ it s', St w S₀ (itC it l 0 :: cs) fs s' → Q (.ref it) s') : wpAny (model pw w) A (pyIter (.ref l)) Q E' s :=
  wpAny_pyIter_list (C.plain hl).isList (h _ _ (C.pushC (itC _ l 0) _ rfl ⟨_, Heap.get?_push_size _ rfl, rfl, rfl⟩ (tk := s.toks)))
theorem size_le {h h' : Heap} {b : Addr} (k : Heap.ExtBut b h h') (n : h.objs.size ≤ h'.objs.size) : h.objs.size ≤ h'.objs.size := n
theorem St.eq1 {c : Cell} (C : St w S₀ (c :: cs) fs s) (e : cs = cs') : St w S₀ (c :: cs') fs s := e ▸ C
theorem St.eq2 {a b : Cell} (C : St w S₀ (a :: b :: cs) fs s) (e : cs = cs') : St w S₀ (a :: b :: cs') fs s := e ▸ C
theorem St.eq3 {a b c : Cell} (C : St w S₀ (a :: b :: c :: cs) fs s) (e : cs = cs') : St w S₀ (a :: b :: c :: cs') fs s := e ▸ C
end
section
variable {w : World} {S₀ s : Shared} {cs cs' : List Cell} {fs : List Fact} {A : Around} {E' : Value → Shared → Prop} {Q : Value → Shared → Prop} {env : Env}
theorem St.goneSize (C : St w S₀ cs fs s) {d : Cell} {b : Addr} (hd : d ∈ cs) (hb : d.a ≠ b) {h' : Heap} (k : Heap.ExtBut b s.heap h') : S₀.heap.objs.size ≤ h'.objs.size := by
  obtain ⟨g, X, Y⟩ := C
  have : d.ok w.params h' := Cell.keep (fun o e => k _ o hb e) (X.cells d hd)
  exact Nat.le_trans (X.up d hd) (Nat.le_of_lt (Cell.lt this))
theorem St.gone {c d : Cell} {h' : Heap} {tk : Tok} (C : St w S₀ (c :: cs) fs s) (hd : d ∈ cs) (k : Heap.ExtBut c.a s.heap h') : St w S₀ cs fs { s with heap := h', toks := tk } := by
  have z : S₀.heap.objs.size ≤ h'.objs.size := C.goneSize (.tail _ hd) (by
    obtain ⟨g, X, Y⟩ := C
    have hn := X.nod
    rw [List.map_cons, List.nodup_cons] at hn
    exact fun q => hn.1 (q ▸ List.mem_map_of_mem hd)) k
  obtain ⟨g, X, Y⟩ := C
  have ho := X.off c (.head _)
  have hn := X.nod
  rw [List.map_cons, List.nodup_cons] at hn
  refine ⟨g, ⟨X.hs, by have := X.sh; rw [this], X.base, fun a o e => k a o (fun q => by rw [q, ho.1] at e; cases e) (X.sub a o e), X.gv, fun d hd => ?_, fun d hd => X.off d (.tail _ hd), hn.2, fun v hv => Vol.ok.keep (Ge.refl _) (fun o e => k _ o (fun q => ?_) e) (X.tab v hv), fun d hd => X.up d (.tail _ hd), z⟩, Y⟩
  · exact Cell.keep (fun o e => k _ o (fun q => hn.1 (q ▸ List.mem_map_of_mem hd)) e) (X.cells d (.tail _ hd))
  · have := vols_vol v hv; rw [q, ho.2] at this; cases this
structure Drw (w : World) (S₀ : Shared) (A : Around) (it : Addr) (n : Nat) (V : Nat → Value → Prop) (ic : Nat → Cell) (need : List Cell → List Fact → Prop) : Prop where
  item : ∀ {i cs fs s} {Q : Option Value → Shared → Prop} {E : Value → Shared → Prop}, i < n → need cs fs → St w S₀ (ic i :: cs) fs s → (∀ v s', V i v → St w S₀ (ic (i + 1) :: cs) fs s' → Q (some v) s') → wpAny (model pw w) A (pyNext (.ref it)) Q E s
  done : ∀ {cs fs d s} {Q : Option Value → Shared → Prop} {E : Value → Shared → Prop}, need cs fs → d ∈ cs → St w S₀ (ic n :: cs) fs s → (∀ s', St w S₀ cs fs s' → Q none s') → wpAny (model pw w) A (pyNext (.ref it)) Q E s
  self : ∀ {i cs fs s} {Q : Value → Shared → Prop} {E : Value → Shared → Prop}, St w S₀ (ic i :: cs) fs s → Q (.ref it) s → wpAny (model pw w) A (pyIter (.ref it)) Q E s
  up : ∀ {cs cs' fs}, (∀ c ∈ cs, c ∈ cs') → need cs fs → need cs' fs
theorem drwL {it l : Addr} {vs : List Value} (r : A.handled = none) : Drw w S₀ A it vs.length (fun i v => vs[i]? = some v) (itC it l) (fun cs fs => Cell.li l vs ∈ cs ∨ Fact.li l vs ∈ fs) where
  item := by
    intro i cs fs s Q E hi hn C h
    have C' := C
    obtain ⟨o, e, c1, c2⟩ := C.cell (.head _)
    refine wpAny_pyNext_list_item (i := i) (x := vs[i]) ⟨o, e, c1, c2⟩ (C.plain (hn.imp (.tail _) id)).isList (by simp [hi]) fun h' hi' hs => ?_
    obtain ⟨o', e', c1', c2'⟩ := hi'
    exact h _ _ (by simp [hi]) (C'.upd (tk := s.toks) (.head (c' := itC it l (i + 1))) hs rfl ⟨o', e', c1', c2'⟩)
  done := by
    intro cs fs d s Q E hn hd C h
    have C' := C
    obtain ⟨o, e, c1, c2⟩ := C.cell (.head _)
    exact wpAny_pyNext_list_end (i := vs.length) r ⟨o, e, c1, c2⟩ (C.plain (hn.imp (.tail _) id)).isList (by simp) fun h' hs => h _ (C'.gone (tk := s.toks) hd hs)
  self := by
    intro i cs fs s Q E C h
    obtain ⟨o, e, c1, c2⟩ := C.cell (.head _)
    exact wpAny_pyIter_listiter ⟨o, e, c1, c2⟩ h
  up := fun h => Or.imp (h _) id
inductive ForSt (w : World) (S₀ : Shared) (I : Nat → List Cell → List Fact → Prop) (ic : Nat → Cell) (n k : Nat) (s : Shared) : Prop
  | mk (i : Nat) (cs : List Cell) (fs : List Fact) (hk : k = n - i) (hi : i ≤ n) (hI : I i cs fs) (C : St w S₀ (ic i :: cs) fs s)
theorem forW {it : Addr} {n : Nat} {V : Nat → Value → Prop} {ic : Nat → Cell} {need : List Cell → List Fact → Prop} {target : Expr} {body : List Stmt} {R : Result → Shared → Prop} (I : Nat → List Cell → List Fact → Prop)
    (D : Drw w S₀ A it n V ic need) (hN : ∀ i cs fs, I i cs fs → need cs fs ∧ ∃ d, d ∈ cs) (h0 : I 0 cs fs) (C : St w S₀ (ic 0 :: cs) fs s)
    (turn : ∀ (i : Nat) (v : Value) (cs : List Cell) (fs : List Fact) (s : Shared) (E : Value → Shared → Prop), i < n → V i v → I i cs fs → St w S₀ (ic (i + 1) :: cs) fs s →
      wpAny (model pw w) A (letOwnedTupleGo target (.ref it) v) (fun _ s₁ => wpAny (model pw w) A (assign target env v) (fun _ s₂ => wpAny (model pw w) A (execs body env) (fun f s₃ => match f with
        | .next | .cont => ∃ cs fs, I (i + 1) cs fs ∧ St w S₀ (ic (i + 1) :: cs) fs s₃
        | .brk => R (.ok .next) s₃
        | .ret v => R (.ok (.ret v)) s₃) E s₂) E s₁) E s)
    (done : ∀ (cs : List Cell) (fs : List Fact) (s : Shared), I n cs fs → St w S₀ cs fs s → R (.ok .next) s) : codeAny (model pw w) A (.forLoop target (.ref it) body [] env) R s := by
  refine codeAny_forLoop_any (ForSt w S₀ I ic n) ?_ n ⟨0, cs, fs, rfl, Nat.zero_le _, h0, C⟩
  intro k s hs
  walk_at "k"
  obtain ⟨i, cs, fs, hk, hi, hI, C⟩ := hs
  obtain ⟨hn, d, hd⟩ := hN i cs fs hI
  rcases Nat.lt_or_ge i n with hlt | hge
  · refine D.item hlt hn C fun v s' hv C' => ?_
    refine wpAny_mono (turn i v cs fs s' (notedBy (model pw w) A env fun e s' => R (.error e) s') hlt hv hI C') (fun _ s₁ h₁ => ?_) fun _ _ e => e
    refine wpAny_mono h₁ (fun _ s₂ h₂ => ?_) fun _ _ e => e
    refine wpAny_mono h₂ (fun f s₃ h₃ => ?_) fun _ _ e => e
    cases f with
    | next => obtain ⟨cs, fs, h, C⟩ := h₃; exact ⟨n - (i + 1), ar2 hk hlt, i + 1, cs, fs, rfl, hlt, h, C⟩
    | cont => obtain ⟨cs, fs, h, C⟩ := h₃; exact ⟨n - (i + 1), ar2 hk hlt, i + 1, cs, fs, rfl, hlt, h, C⟩
    | brk => exact h₃
    | ret v => exact h₃
  · rw [Nat.le_antisymm hi hge] at hI C
    exact D.done hn hd C fun s' C' => wpAny_execs_nil (done cs fs s' hI C')
theorem For_ {target iter : Expr} {body orelse : List Stmt} {pos : Pos} {Q : Flow → Shared → Prop}
    (h : wpAny (model pw w) A (eval iter env) (fun x s₁ => wpAny (model pw w) A (pyIter x) (fun it s₂ => codeAny (model pw w) A (.forLoop target it body orelse env) (fun r s' => match r with | .ok f => Q f s' | .error _ => False) s₂) E' s₁) E' s)
    (hs : autoParam (∀ x, foldedSetIterable iter env x = pure x) tIr) : wpAny (model pw w) A (exec (.For target iter body orelse pos) env) Q E' s :=
  wpAny_For (wpAny_mono h (fun _ _ h₁ => wpAny_mono h₁ (fun _ _ h₂ => codeAny_mono h₂ fun r s' h => by cases r with | ok f => exact h | error e => exact h.elim) fun _ _ e => e) fun _ _ e => e) hs
theorem compLoop_any {elt target iter : Expr} {ifs : List Expr} {scope : Scope} {pos : Pos} {it acc : Value} {R : Result → Shared → Prop} (I : Nat → Shared → Prop)
    (turn : ∀ n s, I n s → ∀ E, wpAny (model pw w) A (pyNext it) (fun r s₁ => match r with
      | none => R (.ok .next) s₁
      | some v => wpAny (model pw w) A (letOwnedTupleGo target it v) (fun _ s₁ => wpAny (model pw w) A (assign target env v) (fun _ s₂ =>
          wpAny (model pw w) A (forIn ifs true fun c r => if r = true then do let ok ← isTrue c env (eval c env); pure (ForInStep.yield ok) else pure (ForInStep.yield r)) (fun ok s₃ =>
            if ok = true then wpAny (model pw w) A (eval elt env) (fun x s₄ =>
              wpAny (model pw w) A (call (.builtin "list.append") [acc, x]) (fun _ s₅ => ∃ m, m < n ∧ I m s₅) E s₄) E s₃
            else ∃ m, m < n ∧ I m s₃) E s₂) E s₁) E s₁) E s)
    (n : Nat) (h : I n s) : codeAny (model pw w) A (.compLoop (.ListComp elt [⟨target, iter, ifs, 0⟩] scope pos) 0 it acc env) R s := by
  refine codeAny_loop rfl I (fun n s hI => ?_) n h
  show wpAny _ A ((compTurn (.ListComp elt [⟨target, iter, ifs, 0⟩] scope pos) 0 it acc env).onRaise (fun x => do noteFrame x env; theTreesLotGoes x)) _ _ s
  refine wpAny_noted ?_
  rw [compTurn_list]
  refine wpAny_bind (wpAny_standAt (wpAny_bind (wpAny_mono (turn n s hI _) (fun r s₁ h₁ => ?_) fun _ _ h' => h')))
  cases r with
  | none => exact wpAny_pure h₁
  | some v =>
    refine wpAny_bind (wpAny_mono h₁ (fun _ s₁ h₁ => ?_) fun _ _ h' => h')
    refine wpAny_bind (wpAny_mono h₁ (fun _ s₂ h₂ => wpAny_bind (wpAny_mono h₂ (fun ok s₃ h₃ => ?_) fun _ _ h' => h')) fun _ _ h' => h')
    cases ok with
    | false => exact wpAny_pure ⟨rfl, h₃⟩
    | true =>
      exact wpAny_bind (wpAny_bind (wpAny_mono h₃ (fun x s₄ h₄ => wpAny_bind (wpAny_mono h₄ (fun _ s₅ h₅ => wpAny_pure (wpAny_pure ⟨rfl, h₅⟩)) fun _ _ h' => h')) fun _ _ h' => h'))
noncomputable def CompRun (w : World) (A : Around) (E : Value → Shared → Prop) (use : Option (Value → Sem Unit)) (Q : Value → Shared → Prop) (elt target iter : Expr) (ifs : List Expr) (scope : Scope) (pos : Pos) (cl : List (Str × Addr)) (env : Env) (it : Value) (s₂ : Shared) : Prop :=
  wpAny (model pw w) A (newList []) (fun acc s₃ => wpAny (model pw w) A (newFunctionEnv scope env.globals cl [] env.qual none .none (some env)) (fun cenv s₄ =>
      codeAny (model pw w) A (.compStart (.ListComp elt [⟨target, iter, ifs, 0⟩] scope pos) 0 it acc { cenv with scope := relabel scope env }) (compPost (model pw w) A E use Q acc cenv.locals) s₄) E s₃) E s₂
theorem ListComp_ {elt target iter : Expr} {ifs : List Expr} {scope : Scope} {pos : Pos} {cl : List (Str × Addr)}
    (hclos : closureFor scope env = pure cl) (h : wpAny (model pw w) A (eval iter env) (fun x s₁ => wpAny (model pw w) A (pyIter x) (fun it s₂ => CompRun w A E' none Q elt target iter ifs scope pos cl env it s₂) E' s₁) E' s)
    (hkind : autoParam (scope.kind = .function) tRfl) (hnames : autoParam ((scope.names.all fun y => y.2 != .local || scope.names.lookup y.1 == some .local) = true) tKr)
    (hs : autoParam (∀ x, foldedSetIterable iter env x = pure x) tIr) : wpAny (model pw w) A (eval (.ListComp elt [⟨target, iter, ifs, 0⟩] scope pos) env) Q E' s := by
  rw [eval_ListComp]
  refine wpAny_comprehension_free (use := none) rfl hs hclos hkind (fun y hy hl => ?_) h
  have := List.all_eq_true.mp hnames y hy
  rw [hl] at this
  exact beq_iff_eq.mp this
theorem Assign_Comp {elt target iter : Expr} {ifs : List Expr} {scope : Scope} {pos spos py : Pos} {y : Str} {cl : List (Str × Addr)} {Q : Flow → Shared → Prop}
    (hsw : swapsWith (.ListComp elt [⟨target, iter, ifs, 0⟩] scope pos) (some (.Name y py)) spos.line env = pure true)
    (hclos : closureFor scope env = pure cl) (h : wpAny (model pw w) A (eval iter env) (fun x s₁ => wpAny (model pw w) A (pyIter x) (fun it s₂ => CompRun w A E' (some (assign (.Name y py) env)) (fun _ s' => Q .next s') elt target iter ifs scope pos cl env it s₂) E' s₁) E' s)
    (hkind : autoParam (scope.kind = .function) tRfl) (hnames : autoParam ((scope.names.all fun y => y.2 != .local || scope.names.lookup y.1 == some .local) = true) tKr)
    (hs : autoParam (∀ x, foldedSetIterable iter env x = pure x) tIr) : wpAny (model pw w) A (exec (.Assign [.Name y py] (.ListComp elt [⟨target, iter, ifs, 0⟩] scope pos) spos) env) Q E' s := by
  rw [exec_Assign_Name_used _ _ _ _ hsw]
  refine wpAny_bind (wpAny_standAt (wpAny_bind ?_))
  show wpAny _ A (do let _ ← comprehension (.ListComp elt [⟨target, iter, ifs, 0⟩] scope pos) scope env _ (newList []) false (eval iter env) (some (assign (.Name y py) env))) _ _ s
  refine wpAny_bind (wpAny_mono (wpAny_comprehension_free (use := some (assign (.Name y py) env)) (Q := fun _ s' => Q .next s') rfl hs hclos hkind (fun y hy hl => ?_) h) (fun _ s' hq => wpAny_pure (wpAny_pure hq)) fun _ _ e => e)
  have := List.all_eq_true.mp hnames y hy
  rw [hl] at this
  exact beq_iff_eq.mp this
inductive CompSt (w : World) (S₀ : Shared) (I : Nat → List Value → List Cell → List Fact → Prop) (L acc : Addr) (ic : Nat → Cell) (n k : Nat) (s : Shared) : Prop
  | mk (i : Nat) (ys : List Value) (m : List (Str × Value)) (cs : List Cell) (fs : List Fact) (hk : k = n - i) (hi : i ≤ n) (hy : ys.length ≤ i) (hI : I i ys cs fs) (C : St w S₀ (.ns L m :: .li acc ys :: ic i :: cs) fs s)
theorem compW {it : Addr} {n : Nat} {V : Nat → Value → Prop} {ic : Nat → Cell} {need : List Cell → List Fact → Prop} {elt target iter : Expr} {ifs : List Expr} {scope : Scope} {pos : Pos} {cl : List (Str × Addr)} {use : Option (Value → Sem Unit)}
    (I : Nat → List Value → List Cell → List Fact → Prop)
    (D : Drw w S₀ A it n V ic need) (hN : ∀ i ys cs fs, I i ys cs fs → need cs fs ∧ ∃ d, d ∈ cs) (hz : n ≤ 100000) (h0 : I 0 [] cs fs) (C : St w S₀ (ic 0 :: cs) fs s)
    (turn : ∀ (i : Nat) (v : Value) (ys : List Value) (L : Addr) (m : List (Str × Value)) (acc : Addr) (cs : List Cell) (fs : List Fact) (s : Shared) (E : Value → Shared → Prop), i < n → V i v → I i ys cs fs → St w S₀ (.ns L m :: .li acc ys :: ic (i + 1) :: cs) fs s →
      wpAny (model pw w) A (letOwnedTupleGo target (.ref it) v) (fun _ s₁ => wpAny (model pw w) A (assign target (compEnvC scope cl L env) v) (fun _ s₂ =>
        wpAny (model pw w) A (forIn ifs true fun c r => if r = true then do let ok ← isTrue c (compEnvC scope cl L env) (eval c (compEnvC scope cl L env)); pure (ForInStep.yield ok) else pure (ForInStep.yield r)) (fun ok s₃ =>
          if ok = true then wpAny (model pw w) A (eval elt (compEnvC scope cl L env)) (fun y s₄ => ∃ m cs fs, I (i + 1) (ys ++ [y]) cs fs ∧ St w S₀ (.ns L m :: .li acc ys :: ic (i + 1) :: cs) fs s₄) E s₃
          else ∃ m cs fs, I (i + 1) ys cs fs ∧ St w S₀ (.ns L m :: .li acc ys :: ic (i + 1) :: cs) fs s₃) E s₂) E s₁) E s)
    (done : ∀ (ys : List Value) (acc L : Addr) (m : List (Str × Value)) (cs : List Cell) (fs : List Fact) (s : Shared), ys.length ≤ n → I n ys cs fs → St w S₀ (.ns L m :: .li acc ys :: cs) fs s →
      match use with | none => ∀ s', St w S₀ (.li acc ys :: cs) fs s' → Q (.ref acc) s' | some u => wpAny (model pw w) A (u (.ref acc)) (fun _ s'' => ∃ m cs fs d, d ∈ cs ∧ St w S₀ (.ns L m :: cs) fs s'' ∧ ∀ s', St w S₀ cs fs s' → Q .none s') E' s)
    (hkind : autoParam (scope.kind = .function) tRfl) (hcell : autoParam ((scope.names.all fun y => y.2 != .cell) = true) tKr) : CompRun w A E' use Q elt target iter ifs scope pos cl env (.ref it) s := by
  have C2 := C.pushC (.li s.heap.objs.size []) { cls := .type "list", data := .seq ([] : List Value).toArray } rfl ⟨_, Heap.get?_push_size _ rfl⟩ (tk := s.toks)
  unfold CompRun
  refine wpAny_newList ?_ (by decide)
  generalize s.heap.objs.size = acc at C2 ⊢
  generalize { s with heap := s.heap.push { cls := .type "list", data := .seq ([] : List Value).toArray } } = s₂ at C2 ⊢
  have hcell' : ∀ x ∈ scope.names, x.2 ≠ .cell := fun x hx q => by have := List.all_eq_true.mp hcell x hx; rw [q] at this; cases this
  refine wpAny_newFunctionEnv hcell' (by intro y hy; simp at hy) (fun h₁ hns hsb => ?_) hkind
  have C3 := C2.pushC (.ns s₂.heap.objs.size []) { cls := .type "dict", data := .dict #[] } rfl (Heap.Ns.new s₂.heap (.type "dict")) (tk := s₂.toks + ([] : List (Str × Value)).length)
  have C4 := C3.upd (tk := s₂.toks + ([] : List (Str × Value)).length) (.head (c' := .ns s₂.heap.objs.size [])) hsb rfl hns
  dsimp only at C4 ⊢
  generalize ({ s₂ with heap := h₁, toks := s₂.toks + ([] : List (Str × Value)).length } : Shared) = s₃ at C4 ⊢
  show codeAny (model pw w) A (.compStart (.ListComp elt [⟨target, iter, ifs, 0⟩] scope pos) 0 (.ref it) (.ref acc) (compEnvC scope cl s₂.heap.objs.size env)) _ s₃
  show codeAny (model pw w) A _ (compPost (model pw w) A E' use Q (.ref acc) s₂.heap.objs.size) s₃
  generalize s₂.heap.objs.size = L at C4 ⊢
  have loop : codeAny (model pw w) A (.compLoop (.ListComp elt [⟨target, iter, ifs, 0⟩] scope pos) 0 (.ref it) (.ref acc) (compEnvC scope cl L env)) (compPost (model pw w) A E' use Q (.ref acc) L) s₃ := by
    refine compLoop_any (CompSt w S₀ I L acc ic n) ?_ n ⟨0, [], [], cs, fs, rfl, Nat.zero_le _, Nat.le_refl _, h0, C4⟩
    intro k s hs E
    walk_at "k"
    obtain ⟨i, ys, m, cs, fs, hk, hi, hy, hI, C⟩ := hs
    have hn := (hN i ys cs fs hI).1
    have p1 : ∀ j, (ic j :: Cell.ns L m :: .li acc ys :: cs).Perm (.ns L m :: .li acc ys :: ic j :: cs) := fun j => ((List.Perm.swap _ _ _).trans (List.Perm.cons _ (List.Perm.swap _ _ _)))
    rcases Nat.lt_or_ge i n with hlt | hge
    · refine D.item (i := i) (cs := .ns L m :: .li acc ys :: cs) hlt (D.up (fun c hc => .tail _ (.tail _ hc)) hn) (C.permC (p1 i)) fun v s' hv C' => ?_
      refine wpAny_mono (turn i v ys L m acc cs fs s' E hlt hv hI (C'.permC (p1 (i + 1)).symm)) (fun _ s₁ h₁ => ?_) fun _ _ e => e
      refine wpAny_mono h₁ (fun _ s₂ h₂ => wpAny_mono h₂ (fun ok s₃ h₃ => ?_) fun _ _ e => e) fun _ _ e => e
      cases ok with
      | true =>
        rw [if_pos rfl] at h₃ ⊢
        refine wpAny_mono h₃ (fun y s₄ h₄ => ?_) fun _ _ e => e
        obtain ⟨m', cs', fs', hI', C4⟩ := h₄
        exact appL C4 (.tail .head) (by kd_p) fun s5 C5 => ⟨n - (i + 1), by kd_p, i + 1, _, m', cs', fs', rfl, hlt, by rw [List.length_append]; exact Nat.succ_le_succ hy, hI', C5⟩
      | false =>
        rw [if_neg Bool.false_ne_true] at h₃ ⊢
        obtain ⟨m', cs', fs', hI', C4⟩ := h₃
        exact ⟨n - (i + 1), ar2 hk hlt, i + 1, ys, m', cs', fs', rfl, hlt, by kd_p, hI', C4⟩
    · rw [Nat.le_antisymm hi hge] at hI C hy
      refine D.done (cs := .ns L m :: .li acc ys :: cs) (d := .ns L m) (D.up (fun c hc => .tail _ (.tail _ hc)) hn) (.head _) (C.permC (p1 n)) fun s' C' => ?_
      have dn := done ys acc L m cs fs s' hy hI C'
      cases use with
      | none => exact ⟨_, C'.cell (.head _), fun h' hs => dn _ ((C'.gone (tk := s'.toks) (.head _) hs.extBut))⟩
      | some u =>
        refine wpAny_mono dn (fun _ s'' h => ?_) fun _ _ e => e
        obtain ⟨m', cs', fs', d', hd', C5, k⟩ := h
        exact ⟨_, C5.cell (.head _), fun h' hs => k _ (C5.gone (tk := s''.toks) hd' hs.extBut)⟩
  exact codeAny_compStart_list loop (D.self (i := 0) (cs := .ns L [] :: .li acc [] :: cs) (C4.permC (((List.Perm.swap _ _ _).trans (List.Perm.cons _ (List.Perm.swap _ _ _))))) loop)
end
section
variable {w : World} {S₀ s : Shared} {cs cs' : List Cell} {fs : List Fact} {A : Around} {E' : Value → Shared → Prop} {Q : Value → Shared → Prop} {env : Env}
theorem nmC {x : Str} {pos : Pos} {c : Addr} {v : Value} (C : St w S₀ cs fs s) (hm : cvC c v ∈ cs) (hc : some c = env.cells.lookup x) (h : Q v s)
    (hx : autoParam (some .cell = env.kindOf x) tXr) (hk : autoParam (OkD env x) tKr) : wpAny (model pw w) A (eval (.Name x pos) env) Q E' s := by
  have hk := Bool.and_eq_true_iff.mp hk.symm
  exact wpAny_Name (wpAny_loadName_cell (beq_iff_eq.mp hk.1) hx.symm hc.symm (C.cell hm) h) ((Bool.not_eq_true' _).mp hk.2)
theorem nmF {x : Str} {pos : Pos} {c : Addr} {v : Value} (C : St w S₀ cs fs s) (hm : cvC c v ∈ cs) (hc : some c = env.cells.lookup x) (h : Q v s)
    (hk : autoParam (OkF env x) tKr) : wpAny (model pw w) A (eval (.Name x pos) env) Q E' s := by
  have hk := Bool.and_eq_true_iff.mp hk.symm
  obtain ⟨k1, k2, k3⟩ := nameOk_of hk.1
  exact wpAny_Name (wpAny_loadName_free k1 k2 hc.symm (C.cell hm) h ((Bool.not_eq_true' _).mp hk.2)) k3
theorem stC {x : Str} {c : Addr} {v v₀ : Value} {Q : Unit → Shared → Prop} (C : St w S₀ cs fs s) (U : Upd (cvC c v₀) (cvC c v) cs cs') (h : ∀ s', St w S₀ cs' fs s' → Q () s') (hc : autoParam (some c = env.cells.lookup x) tXr)
    (hk : autoParam (FnK env) tKr) (hx : autoParam (some .cell = env.kindOf x) tXr) : wpAny (model pw w) A (storeName env x v) Q E' s :=
  wpAny_storeName_cell (beq_iff_eq.mp hk.symm) hx.symm hc.symm (C.cell U.mem) fun h' hi hs => h _ (C.upd (tk := s.toks) U hs rfl hi)
theorem stC0 {x : Str} {c : Addr} {v : Value} {Q : Unit → Shared → Prop} (C : St w S₀ cs fs s) (U : Upd (ceC c) (cvC c v) cs cs') (h : ∀ s', St w S₀ cs' fs s' → Q () s') (hc : autoParam (some c = env.cells.lookup x) tXr)
    (hk : autoParam (FnK env) tKr) (hx : autoParam (some .cell = env.kindOf x) tXr) : wpAny (model pw w) A (storeName env x v) Q E' s :=
  wpAny_storeName_cell (beq_iff_eq.mp hk.symm) hx.symm hc.symm (C.cell U.mem) fun h' hi hs => h _ (C.upd (tk := s.toks) U hs rfl hi)
noncomputable def cellOfB (kindOf : Str → Option NameKind) (binds : List (Str × Value)) (p : Str × Addr) : Cell := match bindC kindOf binds (fun _ => none) p.1 with
  | some v => cvC p.2 v
  | none => ceC p.2
theorem cellsFrom_ge : ∀ (l : List (Str × NameKind)) (n : Nat) (acc : List (Str × Addr)), (∀ p ∈ acc, p.2 < n) → (acc.map (·.2)).Nodup → ((cellsFrom n l acc).map (·.2)).Nodup ∧ ∀ p ∈ cellsFrom n l acc, p ∈ acc ∨ n ≤ p.2
  | [], _, _, _, h => ⟨h, fun _ hp => .inl hp⟩
  | (x, k) :: r, n, acc, ha, h => by
    unfold cellsFrom
    split
    · obtain ⟨z1, z2⟩ := cellsFrom_ge r (n + 1) ((x, n) :: acc) (fun p hp => by
        rcases List.mem_cons.mp hp with rfl | hp
        · exact Nat.lt_succ_self _
        · exact Nat.lt_succ_of_lt (ha p hp)) (by
          rw [List.map_cons, List.nodup_cons]
          exact ⟨fun q => by obtain ⟨p, hp, e⟩ := List.mem_map.mp q; exact absurd (ha p hp) (by rw [e]; exact Nat.lt_irrefl _), h⟩)
      refine ⟨z1, fun p hp => ?_⟩
      rcases z2 p hp with q | q
      · rcases List.mem_cons.mp q with rfl | q
        · exact .inr (Nat.le_refl _)
        · exact .inl q
      · exact .inr (Nat.le_of_succ_le q)
    · exact cellsFrom_ge r n acc ha h
theorem cellOfB_a {k : Str → Option NameKind} {b : List (Str × Value)} (p : Str × Addr) : (cellOfB k b p).a = p.2 := by unfold cellOfB; cases bindC k b (fun _ => none) p.1 <;> rfl
theorem Stg.addMany {g : PM} : ∀ {l cs : List Cell}, Stg w S₀ g cs s → (∀ c ∈ l, c.ok w.params s.heap ∧ g c.a = none ∧ volA c.a = false ∧ S₀.heap.objs.size ≤ c.a ∧ ∀ d ∈ cs, d.a ≠ c.a) → (l.map Cell.a).Nodup → Stg w S₀ g (l ++ cs) s
  | [], _, X, _, _ => X
  | c :: l, cs, X, h, n => by
    rw [List.map_cons, List.nodup_cons] at n
    have Y := Stg.addMany X (fun d hd => h d (.tail _ hd)) n.2
    obtain ⟨a, b, e, f, k⟩ := h c (.head _)
    exact Y.addC a b e (fun d hd q => by
      rcases List.mem_append.mp hd with hd | hd
      · exact n.1 (q ▸ List.mem_map_of_mem hd)
      · exact k d hd q) f
theorem callFC0 {f : Addr} {fd : FuncData} {body : List Stmt} {args : Args} {binds lm : List (Str × Value)} {cc : Addr → List Cell} {R : Result → Shared → Prop} {n : Nat} (o : FnOk f fd body) (C : St w S₀ cs fs s) (r : Room A (n + 1))
    (hbind : BindsTo s fd args binds) (hkind : ∀ n, ∀ x ∈ binds, fd.scope.names.lookup x.1 = some .local ∨ (fd.scope.names.lookup x.1 = some .cell ∧ ((cellsFrom n fd.scope.names []).lookup x.1).isSome = true))
    (hnd : ∀ n, ((cellsFrom n fd.scope.names []).map (·.1)).Nodup)
    (hl : ∀ L x, bindL (callEnvC fd L f).kindOf binds (fun _ => none) x = lm.lookup x) (hcl : fd.closure = []) (hcc : ∀ L, (cellsFrom (L + 1) fd.scope.names []).map (cellOfB (callEnvC fd L f).kindOf binds) = cc L)
    (h : ∀ (L : Addr) (A' : Around) (s' : Shared), Room A' n → St w S₀ (.ns L lm :: (cc L ++ cs)) fs s' → wpAny (model pw w) A' (execs body (callEnvC fd L f)) (fun fl s' => R (.ok (.ret (match fl with | .ret v => v | _ => .none))) s') (fun _ _ => False) s') :
    codeAny (model pw w) A (.call (.ref f) args) R s := by
  obtain ⟨oc, od, sl, hlk⟩ := o.at_ w.params
  refine codeAny_call_function r.depth (C.kin _ _ hlk) rfl (Prod.mk.inj o.flags).1 (Prod.mk.inj o.flags).2 o.body (codeRec_of C.kin (o.code _)) (hbind _ _ _ _ ?_)
  rw [hcl]
  refine wpAny_newFunctionEnv_cells o.kind (hkind _) fun env' he s' x => ?_
  subst he
  refine ⟨(nolim_of C.kin).keeps x.toInCall.keep, codeAny_func ?_⟩
  refine wpAny_mono (h s.heap.objs.size _ _ r.deeper ?_) (fun _ _ z => z) (fun _ _ z => z.elim)
  have x' : InCallC s s.heap.objs.size (bindL (callEnvC fd s.heap.objs.size f).kindOf binds fun _ => none) (cellsFrom (s.heap.objs.size + 1) fd.scope.names []) (bindC (callEnvC fd s.heap.objs.size f).kindOf binds fun _ => none) s' := x
  clear x h
  obtain ⟨h₁, tk, rfl, hk⟩ := x'.done
  have hns := x'.toInCall.ns
  have lt : s.heap.objs.size < h₁.objs.size := hns.lt
  obtain ⟨g, X, Y⟩ := C
  have F := X.fresh (Nat.le_refl _)
  have e : (fun y => lm.lookup y) = bindL (callEnvC fd s.heap.objs.size f).kindOf binds fun _ => none := funext fun y => (hl _ y).symm
  obtain ⟨z1, z2⟩ := cellsFrom_ge fd.scope.names (s.heap.objs.size + 1) [] (fun _ h => nomatch h) List.nodup_nil
  refine ⟨g, Stg.addC (c := .ns s.heap.objs.size lm) (Stg.addMany (X.grow (tk := tk) hk (Nat.le_of_lt lt)) ?_ ?_) (by show h₁.Ns _ fun y => lm.lookup y; rw [e]; exact hns) F.1 F.2.1 ?_ X.big, Y⟩
  · intro c hc
    rw [← hcc] at hc
    obtain ⟨p, hp, rfl⟩ := List.mem_map.mp hc
    have hp2 : s.heap.objs.size + 1 ≤ p.2 := (z2 p hp).resolve_left fun h => nomatch h
    have G := X.fresh (a := p.2) (Nat.le_of_succ_le hp2)
    refine ⟨?_, by rw [cellOfB_a]; exact G.1, by rw [cellOfB_a]; exact G.2.1, by rw [cellOfB_a]; exact Nat.le_trans X.big (Nat.le_of_succ_le hp2), fun d hd => by rw [cellOfB_a]; exact G.2.2 d hd⟩
    have q := x'.cell p.1 p.2 (lookup_of_mem_nodup (hnd _) hp)
    unfold cellOfB
    revert q
    cases bindC (callEnvC fd s.heap.objs.size f).kindOf binds (fun _ => none) p.1 <;> exact id
  · rw [← hcc, List.map_map]
    have : (Cell.a ∘ cellOfB (callEnvC fd s.heap.objs.size f).kindOf binds) = (·.2) := funext fun p => cellOfB_a p
    rw [this]; exact z1
  · intro d hd
    rcases List.mem_append.mp hd with hd | hd
    · rw [← hcc] at hd
      obtain ⟨p, hp, rfl⟩ := List.mem_map.mp hd
      have hp2 : s.heap.objs.size + 1 ≤ p.2 := (z2 p hp).resolve_left fun h => nomatch h
      rw [cellOfB_a]; exact Nat.ne_of_gt hp2
    · exact F.2.2 d hd
theorem lookup_app {m l : List (Str × Value)} {x : Str} : (m ++ l).lookup x = match m.lookup x with | some v => some v | none => l.lookup x := by
  induction m with
  | nil => rfl
  | cons p m ih =>
    obtain ⟨n, v⟩ := p
    rw [List.cons_append, List.lookup_cons, List.lookup_cons]
    cases x == n <;> first | exact ih | rfl
theorem bindL_eq {k : Str → Option NameKind} {x : Str} : ∀ {binds l : List (Str × Value)}, bindL k binds (fun y => l.lookup y) x = ((binds.filter fun p => k p.1 == some .local).reverse ++ l).lookup x
  | [], l => rfl
  | (n, v) :: r, l => by
    unfold bindL
    by_cases h : k n = some .local
    · rw [if_pos h, List.filter_cons_of_pos (by simp [h])]
      have e : (fun y => if y = n then some v else l.lookup y) = fun y => ((n, v) :: l).lookup y := funext fun y => by
        rw [List.lookup_cons]
        by_cases q : y = n
        · rw [if_pos q, beq_iff_eq.mpr q]
        · rw [if_neg q, beq_eq_false_iff_ne.mpr q]
      rw [e, bindL_eq, List.reverse_cons, List.append_assoc]
      rfl
    · rw [if_neg h, List.filter_cons_of_neg (by simp [h]), bindL_eq]
noncomputable abbrev KindsB (fd : FuncData) (binds : List (Str × Value)) : Prop := true = (binds.all fun y => fd.scope.names.lookup y.1 == some .local || fd.scope.names.lookup y.1 == some .cell)
noncomputable abbrev CellNd (fd : FuncData) : Prop := true = decide (((cellsFrom 0 fd.scope.names []).map (·.1)).Nodup)
noncomputable abbrev LmB (fd : FuncData) (f : Addr) (binds lm : List (Str × Value)) (L : Addr) : Prop := lm = (binds.filter fun p => (callEnvC fd L f).kindOf p.1 == some .local).reverse
noncomputable abbrev CcB (fd : FuncData) (f : Addr) (binds : List (Str × Value)) (c : List Cell) (L : Addr) : Prop := c = (cellsFrom (L + 1) fd.scope.names []).map (cellOfB (callEnvC fd L f).kindOf binds)
theorem callFC {f : Addr} {fd : FuncData} {body : List Stmt} {args : Args} {binds lm : List (Str × Value)} {cc : Addr → List Cell} {R : Result → Shared → Prop} {n : Nat} (o : FnOk f fd body) (C : St w S₀ cs fs s) (r : Room A (n + 1))
    (hbind : BindsTo s fd args binds) (hkind : KindsB fd binds) (hnd : CellNd fd) (hl : ∀ L, LmB fd f binds lm L) (hcl : [] = fd.closure) (hcc : ∀ L, CcB fd f binds (cc L) L)
    (h : ∀ (L : Addr) (A' : Around) (s' : Shared), Room A' n → St w S₀ (.ns L lm :: (cc L ++ cs)) fs s' → wpAny (model pw w) A' (execs body (callEnvC fd L f)) (fun fl s' => R (.ok (.ret (match fl with | .ret v => v | _ => .none))) s') (fun _ _ => False) s') :
    codeAny (model pw w) A (.call (.ref f) args) R s :=
  callFC0 o C r hbind (fun n => kindsX (scope := fd.scope) hkind.symm n) (fun n => cellsFrom_names fd.scope.names 0 n [] [] rfl ▸ of_decide_eq_true hnd.symm) (fun L x => by
    have := bindL_eq (k := (callEnvC fd L f).kindOf) (x := x) (binds := binds) (l := [])
    rw [List.append_nil, ← hl] at this
    exact this) hcl.symm (fun L => (hcc L).symm) h
end
theorem Upd.appR {c c' : Cell} {cs cs' : List Cell} : ∀ {l : List Cell}, Upd c c' cs cs' → Upd c c' (l ++ cs) (l ++ cs')
  | [], U => U
  | _ :: _, U => .tail (Upd.appR U)
structure Kd (α : Type) where
  av : α → AV
  eq : α → α → Bool
  ok : α → Prop
  asks : ∀ {w : World} {S₀ : Shared} {cs : List Cell} {fs : List Fact} {s : Shared} {x y : α} {L : Addr} {m : List (Str × Value)} {u v : Value}, ok x → ok y → Cell.ns L m ∈ cs → St w S₀ cs fs s → Fact.v v (av y) ∈ fs → Fact.v u (av x) ∈ fs → AsksEq w (St w S₀ cs fs) 15 v u (eq y x)
noncomputable def okE (x : E) : Prop := simE x = true ∧ depE x ≤ 2
noncomputable def kE : Kd E where
  av := .e
  eq := eqE
  ok := okE
  asks := by
    intro w S₀ cs fs s x y L m u v hx hy hm C h1 h2
    obtain ⟨a, rfl⟩ := C.ref h1
    obtain ⟨b, rfl⟩ := C.ref h2
    exact asks_E hx.1 hy.1 (by have := hy.2; kd_p) hm h1 h2
noncomputable def kP : Kd (E × Bool) where
  av := fun p => .tup [.e p.1, .bool p.2]
  eq := fun p q => eqE p.1 q.1 && (p.2 == q.2)
  ok := fun p => okE p.1
  asks := by
    intro w S₀ cs fs s x y L m u v hx hy hm C h1 h2
    obtain ⟨a, _, _, rfl, _⟩ := C.openPair h1
    obtain ⟨b, _, _, rfl, _⟩ := C.openPair h2
    exact asks_P hx.1 hy.1 (by have := hy.2; kd_p) hm h1 h2
section
variable {w : World} {S₀ s : Shared} {cs cs' : List Cell} {fs : List Fact} {A : Around} {E' : Value → Shared → Prop} {Q : Value → Shared → Prop} {α : Type}
theorem St.asksAll {K : Kd α} {x : α} {xs : List α} {u : Value} {L : Addr} {m : List (Str × Value)} {vs : List Value} (C : St w S₀ cs fs s) (hx : K.ok x) (hy : ∀ y ∈ xs, K.ok y) (hm : Cell.ns L m ∈ cs)
    (hv : Fact.l vs (xs.map K.av) ∈ fs) (h2 : Fact.v u (K.av x) ∈ fs) : (xs.map fun y => K.eq y x).length = vs.length ∧ ∀ (i : Nat) (v : Value) (b : Bool), vs[i]? = some v → (xs.map fun y => K.eq y x)[i]? = some b → AsksEq w (St w S₀ cs fs) 15 v u b := by
  have hlen := C.len hv
  refine ⟨by rw [List.length_map, hlen, List.length_map], fun i v b e1 e2 => ?_⟩
  rw [List.getElem?_map, Option.map_eq_some_iff] at e2
  obtain ⟨y, e2, rfl⟩ := e2
  have e3 : (xs.map K.av)[i]? = some (K.av y) := by rw [List.getElem?_map, e2]; rfl
  exact (K.asks (cs := cs) (fs := .v v (K.av y) :: fs) hx (hy y (List.mem_of_getElem? e2)) hm (C.item hv e1 e3) (.head _) (.tail _ h2)).mono (fun s C => C.item hv e1 e3) fun s C => C.weakF (by intro f hf; exact .tail _ hf)
theorem in_K {K : Kd α} {x : α} {xs : List α} {u : Value} {l L : Addr} {m : List (Str × Value)} {vs : List Value} (C : St w S₀ cs fs s) (r : Room A 16) (hx : K.ok x) (hy : ∀ y ∈ xs, K.ok y) (hm : Cell.ns L m ∈ cs)
    (hl : Cell.li l vs ∈ cs ∨ Fact.li l vs ∈ fs) (hv : Fact.l vs (xs.map K.av) ∈ fs) (h2 : Fact.v u (K.av x) ∈ fs) (h : ∀ s', St w S₀ cs fs s' → Q (.bool (xs.any fun y => K.eq y x)) s') : wpAny (model pw w) A (compareOp .In u (.ref l)) Q E' s := by
  obtain ⟨z1, z2⟩ := C.asksAll hx hy hm hv h2
  exact in_of (I := St w S₀ cs fs) (fun s C => C.plain hl) z1 z2 r C fun s' C => by rw [any_map]; exact h s' C
theorem notIn_K {K : Kd α} {x : α} {xs : List α} {u : Value} {l L : Addr} {m : List (Str × Value)} {vs : List Value} (C : St w S₀ cs fs s) (r : Room A 16) (hx : K.ok x) (hy : ∀ y ∈ xs, K.ok y) (hm : Cell.ns L m ∈ cs)
    (hl : Cell.li l vs ∈ cs ∨ Fact.li l vs ∈ fs) (hv : Fact.l vs (xs.map K.av) ∈ fs) (h2 : Fact.v u (K.av x) ∈ fs) (h : ∀ s', St w S₀ cs fs s' → Q (.bool (!(xs.any fun y => K.eq y x))) s') : wpAny (model pw w) A (compareOp .NotIn u (.ref l)) Q E' s := by
  obtain ⟨z1, z2⟩ := C.asksAll hx hy hm hv h2
  exact notIn_of (I := St w S₀ cs fs) (fun s C => C.plain hl) z1 z2 r C fun s' C => by rw [any_map]; exact h s' C
theorem relL_snoc {P : Params} {g : PM} {a : AV} {v : Value} : ∀ {as : List AV} {vs : List Value}, RelL P g as vs → RelV P g a v → RelL P g (as ++ [a]) (vs ++ [v])
  | [], vs, h, k => by subst h; exact relL1 k relL0
  | x :: xs, vs, h, k => by
    obtain ⟨u, r, rfl, y, z⟩ := h
    exact relL1 y (relL_snoc z k)
theorem St.snoc (C : St w S₀ cs fs s) {vs : List Value} {as : List AV} {v : Value} {a : AV} (h : Fact.l vs as ∈ fs) (k : Fact.v v a ∈ fs) : St w S₀ cs (.l (vs ++ [v]) (as ++ [a]) :: fs) s := C.fact fun g Y => relL_snoc (Y _ h) (Y _ k)
theorem St.nilL (C : St w S₀ cs fs s) : St w S₀ cs (.l [] [] :: fs) s := C.fact fun g Y => rfl
theorem St.itemOf {K : Kd α} (C : St w S₀ cs fs s) {vs : List Value} {xs : List α} {i : Nat} {v : Value} (h : Fact.l vs (xs.map K.av) ∈ fs) (e : vs[i]? = some v) : ∃ x, xs[i]? = some x ∧ St w S₀ cs (.v v (K.av x) :: fs) s := by
  have hl := C.len h
  have hi : i < xs.length := by
    rw [List.length_map] at hl
    rw [← hl]
    exact (List.getElem?_eq_some_iff.mp e).1
  exact ⟨xs[i], by simp [hi], C.item h e (by rw [List.getElem?_map]; simp [hi])⟩
end
noncomputable def uni {α : Type} (eq : α → α → Bool) (found xs : List α) : List α := xs.foldl (fun f x => if f.any (fun y => eq y x) then f else f ++ [x]) found
theorem uni_snoc {α : Type} {eq : α → α → Bool} {found xs : List α} {i : Nat} {x : α} (h : xs[i]? = some x) : uni eq found (xs.take (i + 1)) = (if (uni eq found (xs.take i)).any (fun y => eq y x) then uni eq found (xs.take i) else uni eq found (xs.take i) ++ [x]) := by
  unfold uni
  rw [List.take_add_one, h, List.foldl_append]
  rfl
theorem uni_len {α : Type} {eq : α → α → Bool} : ∀ {xs found : List α}, (uni eq found xs).length ≤ found.length + xs.length
  | [], found => Nat.le_refl _
  | x :: xs, found => by
    have ih := @uni_len α eq xs (if found.any (fun y => eq y x) then found else found ++ [x])
    show (uni eq _ xs).length ≤ _
    refine Nat.le_trans ih ?_
    split <;> simp <;> kd_p
theorem uni_mem {α : Type} {eq : α → α → Bool} : ∀ {xs found : List α} {y : α}, y ∈ uni eq found xs → y ∈ found ∨ y ∈ xs
  | [], found, y, h => .inl h
  | x :: xs, found, y, h => by
    have ih := @uni_mem α eq xs (if found.any (fun y => eq y x) then found else found ++ [x]) y h
    rcases ih with ih | ih
    · split at ih
      · exact .inl ih
      · rcases List.mem_append.mp ih with ih | ih
        · exact .inl ih
        · rw [List.mem_singleton.mp ih]; exact .inr (.head _)
    · exact .inr (.tail _ ih)
theorem ite_n1 {a b : Prop} (h : a) : if (!false) = true then a else b := h
theorem ite_n2 {a b : Prop} (h : b) : if (!true) = true then a else b := h
section
variable {w : World} {S₀ s : Shared} {cs cs' : List Cell} {fs : List Fact} {A : Around} {E' : Value → Shared → Prop} {Q : Value → Shared → Prop} {α : Type}
theorem uni_ok {K : Kd α} {xs zs : List α} (hx : ∀ x ∈ xs, K.ok x) (hz : ∀ x ∈ zs, K.ok x) : ∀ x ∈ uni K.eq zs xs, K.ok x := fun x h => (uni_mem h).elim (hz x) (hx x)
inductive UI (f L : Addr) (av : α → AV) (z : Nat → List α) (F : List Fact) (R : List Cell) (i : Nat) (cs' : List Cell) (fs' : List Fact) : Prop
  | mk (m : List (Str × Value)) (rs : List Value) (hc : cs' = .li f rs :: .ns L m :: R) (hm : m.lookup ("found" : Str) = some (.ref f)) (hf : ∀ g ∈ F, g ∈ fs') (hr : Fact.l rs ((z i).map av) ∈ fs')
noncomputable def uz (K : Kd α) (xs ys : List α) : Nat → List α | 0 => [] | 1 => uni K.eq [] xs | _ => uni K.eq (uni K.eq [] xs) ys
inductive UP (K : Kd α) (v : Value) (fs : List Fact) (zs zn : List α) : Prop
  | mk (p : Addr) (us : List Value) (xs : List α) (e : v = .ref p) (hl : Fact.li p us ∈ fs) (hx : Fact.l us (xs.map K.av) ∈ fs) (ok : ∀ x ∈ xs, K.ok x) (ok0 : ∀ x ∈ zs, K.ok x) (hz : zs.length + xs.length ≤ 100000) (hn : zn = uni K.eq zs xs)
theorem union_K {K : Kd α} {p a b : Addr} {us vs : List Value} {xs ys : List α} (C : St w S₀ cs fs s) (r : Room A 18) (hp : Cell.li p [.ref a, .ref b] ∈ cs) (ha : Fact.li a us ∈ fs) (hb : Fact.li b vs ∈ fs) (hxa : Fact.l us (xs.map K.av) ∈ fs) (hxb : Fact.l vs (ys.map K.av) ∈ fs)
    (hx : ∀ x ∈ xs, K.ok x) (hy : ∀ x ∈ ys, K.ok x) (hz : xs.length + ys.length ≤ 100000) (h : ∀ q rs s', St w S₀ cs (.li q rs :: .l rs ((uni K.eq (uni K.eq [] xs) ys).map K.av) :: fs) s' → Q (.ref q) s') :
    wpAny (model pw w) A (call (.ref 85) [.ref p]) Q E' s := by
  refine wpAny_call (callF (n := 17) (binds := [("parts", .ref p)]) ok85 C r (binds0 (by kernel_rfl)) (by kernel_rfl) (by kernel_rfl) fun L A' s' r' C => ?_)
  walk_at "B"
  kd_p1
  rename_i f _ C0 _ C1 it s2 C
  let __I : Nat → List Cell → List Fact → Prop := UI f L K.av (uz K xs ys) fs cs
  refine forW (I := __I) (drwL (vs := [.ref a, .ref b]) r'.hand) ?_ ?_ C.nilL ?_ ?_
  · intro i cs' fs' hI
    obtain ⟨m, rs, hc, _⟩ := hI
    rw [hc]
    exact ⟨.inl (.tail _ (.tail _ hp)), _, .head _⟩
  · exact ⟨_, [], rfl, rfl, fun g hg => .tail _ hg, .head _⟩
  · intro i v cs' fs' s3 E3 hi hv hI C
    walk_at "k"
    obtain ⟨m, rs, hc, hf, hfs, hrs⟩ := hI
    replace C := C.eq1 hc
    have hU : UP K v fs (uz K xs ys i) (uz K xs ys (i + 1)) := by
      match i, hv with
      | 0, hv => cases hv; exact ⟨a, us, xs, rfl, ha, hxa, hx, (fun x h => nomatch h), by show 0 + _ ≤ _; kd_p, rfl⟩
      | 1, hv => cases hv; exact ⟨b, vs, ys, rfl, hb, hxb, hy, uni_ok hx (fun x h => nomatch h), by have := @uni_len α K.eq xs []; show (uni K.eq [] xs).length + _ ≤ _; simp at this; kd_p, rfl⟩
    obtain ⟨part, us', xs', hvp, hl, hx', hok, hok0, hlen, hnext⟩ := hU
    generalize uz K xs ys i = zs at hrs hok0 hlen hnext
    subst hvp
    have hl' := hfs _ hl
    refine wpAny_pure ?_
    kd_p1
    rename_i it2 s4 C
    let __R : List Cell := itC it p (i + 1) :: cs
    let __I : Nat → List Cell → List Fact → Prop := UI f L K.av (fun j => uni K.eq zs (xs'.take j)) fs __R
    refine forW (I := __I)
      (drwL (l := part) (vs := us') r'.hand) ?_ ?_ (C.permC (cs' := itC it2 part 0 :: .li f rs :: .ns L (("part", .ref part) :: m) :: __R) (.cons _ ?_)) ?_ ?_
    · intro j cs' fs' hI
      obtain ⟨m, rs, hc, _, hfs, _⟩ := hI
      rw [hc]
      exact ⟨.inr (hfs _ hl), _, .head _⟩
    · exact ⟨_, rs, rfl, hf, hfs, hrs⟩
    · exact ((List.Perm.cons _ (List.Perm.swap _ _ _)).trans (List.Perm.swap _ _ _))
    · intro j v cs' fs' s5 E5 hj hv hI C
      walk_at "k"
      obtain ⟨m, rs, hc, hf, hfs, hrs⟩ := hI
      replace C := C.eq1 hc
      obtain ⟨x, hxj, C⟩ := C.itemOf (hfs _ hx') hv
      refine wpAny_pure ?_
      kd_p1
      rename_i s6 C
      have e := uni_snoc (eq := K.eq) (found := zs) hxj
      have hk := uni_ok (K := K) (zs := zs) (xs := xs'.take j) (fun x h => hok x (List.mem_of_mem_take h)) hok0
      have hlr := C.len (.tail _ hrs)
      have hlu := @uni_len α K.eq (xs'.take j) zs
      rw [List.length_map] at hlr
      rw [List.length_take] at hlu
      refine notIn_K (K := K) C (r'.le (by kd_p)) (hok x (List.mem_of_getElem? hxj)) hk (L := L) (by kd_in) (.inl (by kd_in)) (.tail _ hrs) (.head _) fun s7 C => ?_
      cases q : (uni K.eq zs (xs'.take j)).any fun y => K.eq y x with
      | true =>
        rw [q, if_pos rfl] at e
        kd_p1
        exact ⟨_, _, ⟨("one", v) :: m, rs, rfl, hf, fun g hg => .tail _ (hfs g hg), by rw [e]; exact .tail _ hrs⟩, C⟩
      | false =>
        rw [q, if_neg Bool.false_ne_true] at e
        kd_p1
        rename_i s8 C
        refine ⟨_, _, ⟨("one", v) :: m, rs ++ [v], rfl, hf, fun g hg => .tail _ (.tail _ (hfs g hg)), ?_⟩, C.snoc (.tail _ hrs) (.head _)⟩
        rw [e, List.map_append]
        exact .head _
    · intro cs' fs' s5 hI C
      walk_at "k"
      obtain ⟨m, rs, hc, hf, hfs, hrs⟩ := hI
      rw [hc] at C
      have e : xs'.take us'.length = xs' := List.take_of_length_le (by have := C.len (hfs _ hx'); rw [List.length_map] at this; kd_p)
      rw [e] at hrs
      kd_p1
      exact ⟨_, fs', ⟨m, rs, rfl, hf, hfs, hnext ▸ hrs⟩, C.permC ((List.Perm.swap _ _ _).trans (List.Perm.cons _ (List.Perm.swap _ _ _)))⟩
  · intro cs' fs' s3 hI C
    walk_at "k"
    obtain ⟨m, rs, hc, hf, hfs, hrs⟩ := hI
    rw [hc] at C
    kd_p1
    exact h f rs _ ((C.freezeL.drop).weakF fun g hg => (List.mem_cons.mp hg).elim (fun e => e ▸ .head _) fun hg => (List.mem_cons.mp hg).elim (fun e => e ▸ .tail _ hrs) fun hg => .tail _ (hfs g hg))
end
section
variable {w : World} {S₀ s : Shared} {cs cs' : List Cell} {fs : List Fact} {A : Around} {E' : Value → Shared → Prop} {Q : Value → Shared → Prop} {env : Env}
theorem conS {x : Str} {k : Nat} {pos : Pos} (C : St w S₀ cs fs s) (h : ∀ t s', St w S₀ cs fs s' → Q (.str x t) s') : wpAny (model pw w) A (eval (.Constant (.str x) k pos) env) Q E' s := wpAny_Constant_str (h _ _ C.tick)
theorem conI {i : Int} {k : Nat} {pos : Pos} (C : St w S₀ cs fs s) (h : ∀ t s', St w S₀ cs fs s' → Q (.int i t) s') : wpAny (model pw w) A (eval (.Constant (.int i) k pos) env) Q E' s := wpAny_Constant_int (h _ _ C.tick)
noncomputable def slObj (l u : Value) : Obj := { cls := .type "slice", data := .fields #[l, u, .none] }
noncomputable def NewSl (l u : Value) (Q : Value → Shared → Prop) (s : Shared) : Prop := Q (.ref s.heap.objs.size) { s with heap := s.heap.push (slObj l u) }
theorem newSl {l u : Value} (C : St w S₀ cs fs s) (h : ∀ a s', St w S₀ cs (.ob a (slObj l u) :: fs) s' → Q (.ref a) s') : NewSl l u Q s := h _ _ (C.pushF (slObj l u) rfl (tk := s.toks))
theorem Slice_ {lower upper : Option Expr} {p : Pos} (h : wpAny (model pw w) A (evalPart lower env) (fun l s₁ => wpAny (model pw w) A (evalPart upper env) (fun u s₂ => NewSl l u Q s₂) E' s₁) E' s) : wpAny (model pw w) A (eval (.Slice lower upper none p) env) Q E' s :=
  wpAny_Slice (wpAny_mono h (fun l s₁ h₁ => wpAny_mono h₁ (fun u s₂ h₂ => evalPart_none_step h₂) fun _ _ e => e) fun _ _ e => e)
theorem partN {Q : Value → Shared → Prop} (h : Q .none s) : wpAny (model pw w) A (evalPart none env) Q E' s := evalPart_none_step h
theorem partS {e : Expr} {Q : Value → Shared → Prop} (h : wpAny (model pw w) A (eval e env) Q E' s) : wpAny (model pw w) A (evalPart (some e) env) Q E' s := h
theorem tailS0 {value slice : Expr} {x : Str} {t k : Tok} {a : Addr} (C : St w S₀ cs fs s) (ho : Fact.ob a (slObj .none (.int 1 k)) ∈ fs) (hz : Nat.ble x.length 1000 = true)
    (h : ∀ t' s', St w S₀ cs fs s' → Q (.str (Txt.slice x none (some 1)) t') s')
    (hs : autoParam (subscripted slice false (.str x t) (.ref a) = operate [.ref a, .str x t] (getItem (.str x t) (.ref a))) tWr) :
    wpAny (model pw w) A (subscriptTail value slice (.str x t) (.ref a)) Q E' s :=
  tail_any (typeIs_str s x t) F.slot_str_getitem.lookup (wpAny_getItem_str_slice (l := none) (u := (some (1, k))) (st := none) ⟨_, C.obj ho, rfl, rfl⟩ rfl
    (post_val_or_str ⟨Nat.le_trans (Txt.slice_le x none (some 1)) (Nat.le_trans (Nat.le_of_ble_eq_true hz) (by decide)), fun t' k => h _ _ C.tick⟩)) hs
theorem tailS1 {value slice : Expr} {x : Str} {t k : Tok} {a : Addr} (C : St w S₀ cs fs s) (ho : Fact.ob a (slObj (.int 1 k) .none) ∈ fs) (hz : Nat.ble x.length 1000 = true)
    (h : ∀ t' s', St w S₀ cs fs s' → Q (.str (Txt.slice x (some 1) none) t') s')
    (hs : autoParam (subscripted slice false (.str x t) (.ref a) = operate [.ref a, .str x t] (getItem (.str x t) (.ref a))) tWr) :
    wpAny (model pw w) A (subscriptTail value slice (.str x t) (.ref a)) Q E' s :=
  tail_any (typeIs_str s x t) F.slot_str_getitem.lookup (wpAny_getItem_str_slice (l := (some (1, k))) (u := none) (st := none) ⟨_, C.obj ho, rfl, rfl⟩ rfl
    (post_val_or_str ⟨Nat.le_trans (Txt.slice_le x (some 1) none) (Nat.le_trans (Nat.le_of_ble_eq_true hz) (by decide)), fun t' k => h _ _ C.tick⟩)) hs
theorem inS {x y : Str} {t u : Tok} (h : Q (.bool (Txt.contains x y)) s) : wpAny (model pw w) A (compareOp .In (.str y u) (.str x t)) Q E' s := P.in_str h
theorem ninS {x y : Str} {t u : Tok} (h : Q (.bool (!Txt.contains x y)) s) : wpAny (model pw w) A (compareOp .NotIn (.str y u) (.str x t)) Q E' s := P.notIn_str h
theorem iterS {x : Str} {t : Tok} (C : St w S₀ cs fs s) (ha : x.cps.all (· < 128) = true) (h : ∀ it s', St w S₀ (.pr it (fun o => o.cls = .type "str_ascii_iterator" ∧ o.data = .fields #[.str x t, .int (0 : Nat) 0]) :: cs) fs s' → Q (.ref it) s') : wpAny (model pw w) A (pyIter (.str x t)) Q E' s :=
  wpAny_pyIter_ascii ha (h _ _ (C.pushC (.pr _ _) _ rfl ⟨_, Heap.get?_push_size _ rfl, rfl, rfl⟩ (tk := s.toks)))
noncomputable def isC (it : Addr) (x : Str) (t : Tok) (i : Nat) : Cell := .pr it fun o => o.cls = .type "str_ascii_iterator" ∧ o.data = .fields #[.str x t, .int (i : Nat) 0]
theorem drwS {it : Addr} {x : Str} {t : Tok} (r : A.handled = none) : Drw w S₀ A it x.cps.size (fun i v => ∃ c tk, x.cps[i]? = some c ∧ v = .str ⟨#[c]⟩ tk) (isC it x t) (fun _ _ => True) where
  item := by
    intro i cs fs s Q E hi hn C h
    have C' := C
    obtain ⟨o, e, c1, c2⟩ := C.cell (.head _)
    refine wpAny_pyNext_ascii_item (i := i) (c := x.cps[i]) ⟨o, e, c1, c2⟩ (by simp [hi]) fun h' hi' hs => ?_
    obtain ⟨o', e', c1', c2'⟩ := hi'
    exact h _ _ ⟨_, _, by simp [hi], rfl⟩ (C'.upd (tk := s.toks + 1) (.head (c' := isC it x t (i + 1))) hs rfl ⟨o', e', c1', c2'⟩)
  done := by
    intro cs fs d s Q E hn hd C h
    have C' := C
    obtain ⟨o, e, c1, c2⟩ := C.cell (.head _)
    exact wpAny_pyNext_ascii_end (i := x.cps.size) r ⟨o, e, c1, c2⟩ (by simp) fun h' hs => h _ (C'.gone (tk := s.toks) hd hs)
  self := by
    intro i cs fs s Q E C h
    obtain ⟨o, e, c1, c2⟩ := C.cell (.head _)
    exact wpAny_pyIter_striter_ascii ⟨o, e, c1, c2⟩ h
  up := fun _ _ => trivial
end
noncomputable def headS (x : Str) : Str := Txt.slice x none (some 1)
noncomputable def restS (x : Str) : Str := Txt.slice x (some 1) none
noncomputable def ildS (x ls : Str) : Bool := !(headS x == "") && (Txt.contains ls (headS x) && (restS x).cps.toList.all fun c => Txt.contains "0123456789" ⟨#[c]⟩)
section
variable {w : World} {S₀ s : Shared} {cs cs' : List Cell} {fs : List Fact} {A : Around} {E' : Value → Shared → Prop} {Q : Value → Shared → Prop}
theorem all_take {α : Type} {p : α → Bool} {l : List α} {i : Nat} {c : α} (h : l[i]? = some c) : (l.take (i + 1)).all p = ((l.take i).all p && p c) := by
  rw [List.take_add_one, h, List.all_append]
  simp
theorem slice_ascii {x : Str} {l u : Option Int} (hx : x.cps.all (· < 128) = true) : (Txt.slice x l u).cps.all (· < 128) = true := by
  unfold Txt.slice
  split
  · exact hx
  · rw [Array.all_eq_true']
    intro c hc
    simp only [List.mem_toArray, List.mem_filterMap] at hc
    obtain ⟨i, _, hi⟩ := hc
    have hm := Array.mem_of_getElem? hi
    exact Array.all_eq_true'.mp hx c hm
theorem call_ild {x ls : Str} {t u : Tok} (C : St w S₀ cs fs s) (r : Room A 3) (hx : x.cps.all (· < 128) = true) (hz : Nat.ble x.length 1000 = true) (h : ∀ s', St w S₀ cs fs s' → Q (.bool (ildS x ls)) s') :
    wpAny (model pw w) A (call (.ref 1089) [.str x t, .str ls u]) Q E' s := by
  refine wpAny_call (callF (n := 2) (binds := [("expr", .str x t), ("letters", .str ls u)]) ok1089 C r (binds0 (by kernel_rfl)) (by kernel_rfl) (by kernel_rfl) fun L A' s' r' C => ?_)
  walk_at "B"
  kd_p1
  cases e1 : Txt.slice x none (some 1) == Str.ofString "" with
  | true =>
    kd_p1
    rename_i C
    have e : ildS x ls = false := by unfold ildS headS; rw [e1]; rfl
    exact e ▸ h _ (C.drop.weakF (by walk_at "w"))
  | false =>
    kd_p1
    cases e2 : Txt.contains ls (Txt.slice x none (some 1)) with
    | false =>
      kd_p1
      rename_i C
      have e : ildS x ls = false := by unfold ildS headS; rw [e1, e2]; rfl
      exact e ▸ h _ (C.drop.weakF (by walk_at "w"))
    | true =>
      have e : ildS x ls = (restS x).cps.toList.all fun c => Txt.contains "0123456789" ⟨#[c]⟩ := by unfold ildS headS; rw [e1, e2]; rfl
      kd_p1
      rename_i t' s2 C
      refine iterS C (slice_ascii hx) fun it s3 C => ?_
      let __I : Nat → List Cell → List Fact → Prop := fun i cs' fs' => ∃ m, cs' = .ns L m :: cs ∧ (∀ g ∈ fs, g ∈ fs') ∧ (((restS x).cps.toList.take i).all fun c => Txt.contains "0123456789" ⟨#[c]⟩) = true
      refine forW (I := __I) (drwS r'.hand) (fun i cs fs h => ⟨trivial, by obtain ⟨m, rfl, _⟩ := h; exact ⟨_, .head _⟩⟩) ⟨_, rfl, (by intro g hg; simp [hg]), rfl⟩ C ?_ ?_
      · rintro i v cs' fs' s4 E4 hi ⟨c, tk, hc, rfl⟩ hI C
        walk_at "k"
        obtain ⟨m, rfl, hfs, ha⟩ := hI
        have hc' : (restS x).cps.toList[i]? = some c := by rw [Array.getElem?_toList]; exact hc
        have hn := all_take (p := fun c => Txt.contains "0123456789" ⟨#[c]⟩) hc'
        rw [ha, Bool.true_and] at hn
        refine wpAny_pure ?_
        kd_p1
        cases e3 : Txt.contains "0123456789" ⟨#[c]⟩ with
        | true =>
          kd_p1
          rename_i C
          exact ⟨_, fs', ⟨_, rfl, hfs, hn.trans e3⟩, C⟩
        | false =>
          kd_p1
          rename_i C
          rw [e, show ((restS x).cps.toList.all fun c => Txt.contains "0123456789" ⟨#[c]⟩) = false from List.all_eq_false.mpr ⟨c, List.mem_of_getElem? hc', by rw [e3]; exact Bool.false_ne_true⟩] at h
          exact h _ ((C.drop.drop).weakF hfs)
      · intro cs' fs' s4 hI C
        walk_at "k"
        obtain ⟨m, rfl, hfs, ha⟩ := hI
        rw [List.take_of_length_le (by simp [restS])] at ha
        kd_p1
        rw [e, ha] at h
        exact h _ (C.drop.weakF hfs)
end
noncomputable def indL : Str := "abcdfghijklmnopqrstuvwxyz"
noncomputable def funL : Str := "ABCDEFGHIJKLMNOPQRSTUVWXYZ"
noncomputable def eveL : Str := "e"
noncomputable def varK (x : Str) : Option E := if ildS x indL then some (.iv x) else if ildS x funL then none else if ildS x eveL then none else some (.con x)
noncomputable def okN (x : Str) : Bool := x.cps.all (· < 128) && Nat.ble x.length 1000
section
variable {w : World} {S₀ s : Shared} {cs cs' : List Cell} {fs : List Fact} {A : Around} {E' : Value → Shared → Prop} {Q : Value → Shared → Prop}
theorem call_ind {x : Str} {t : Tok} (C : St w S₀ cs fs s) (r : Room A 5) (hx : okN x = true) (h : ∀ s', St w S₀ cs fs s' → Q (.bool (ildS x indL)) s') : wpAny (model pw w) A (call (.ref 1096) [.str x t]) Q E' s := by
  have hx := Bool.and_eq_true_iff.mp hx
  refine wpAny_call (callF (n := 4) (binds := [("expr", .str x t)]) ok1096 C r (binds0 (by kernel_rfl)) (by kernel_rfl) (by kernel_rfl) fun L A' s' r' C => ?_)
  have nb_isinstance := b_isinstance; have nb_str := b_str; have ng__is_letter_and_digits := g__is_letter_and_digits
  walk_at "B"
  kd_p1
  rename_i C
  exact call_ild C (r'.le (by kd_p)) hx.1 hx.2 fun s' C => h _ (C.drop.weakF (by walk_at "w"))
theorem call_fun {x : Str} {t : Tok} (C : St w S₀ cs fs s) (r : Room A 5) (hx : okN x = true) (h : ∀ s', St w S₀ cs fs s' → Q (.bool (ildS x funL)) s') : wpAny (model pw w) A (call (.ref 1103) [.str x t]) Q E' s := by
  have hx := Bool.and_eq_true_iff.mp hx
  refine wpAny_call (callF (n := 4) (binds := [("expr", .str x t)]) ok1103 C r (binds0 (by kernel_rfl)) (by kernel_rfl) (by kernel_rfl) fun L A' s' r' C => ?_)
  have nb_isinstance := b_isinstance; have nb_str := b_str; have ng__is_letter_and_digits := g__is_letter_and_digits
  walk_at "B"
  kd_p1
  rename_i C
  exact call_ild C (r'.le (by kd_p)) hx.1 hx.2 fun s' C => h _ (C.drop.weakF (by walk_at "w"))
theorem call_eve {x : Str} {t : Tok} (C : St w S₀ cs fs s) (r : Room A 5) (hx : okN x = true) (h : ∀ s', St w S₀ cs fs s' → Q (.bool (ildS x eveL)) s') : wpAny (model pw w) A (call (.ref 1110) [.str x t]) Q E' s := by
  have hx := Bool.and_eq_true_iff.mp hx
  refine wpAny_call (callF (n := 4) (binds := [("expr", .str x t)]) ok1110 C r (binds0 (by kernel_rfl)) (by kernel_rfl) (by kernel_rfl) fun L A' s' r' C => ?_)
  have nb_isinstance := b_isinstance; have nb_str := b_str; have ng__is_letter_and_digits := g__is_letter_and_digits
  walk_at "B"
  kd_p1
  rename_i C
  exact call_ild C (r'.le (by kd_p)) hx.1 hx.2 fun s' C => h _ (C.drop.weakF (by walk_at "w"))
theorem call_VE {v : Addr} {x : Str} {y : E} (C : St w S₀ cs fs s) (r : Room A 7) (hv : Fact.v (.ref v) (.var x) ∈ fs) (hx : okN x = true) (hy : varK x = some y) (h : ∀ a s', St w S₀ cs (.v (.ref a) (.e y) :: fs) s' → Q (.ref a) s') :
    wpAny (model pw w) A (call (.ref 612) [.ref v]) Q E' s := by
  refine wpAny_call (callF (n := 6) (binds := [("variable", .ref v)]) ok612 C r (binds0 (by kernel_rfl)) (by kernel_rfl) (by kernel_rfl) fun L A' s' r' C => ?_)
  obtain ⟨t, t', C⟩ := C.openVar hv
  have nb_isinstance := b_isinstance; have ng_Variable := g_Variable; have ng_is_indvar := g_is_indvar; have ng_IndividualVariableExpression := g_IndividualVariableExpression; have ng_is_funcvar := g_is_funcvar; have ng_FunctionVariableExpression := g_FunctionVariableExpression; have ng_is_eventvar := g_is_eventvar; have ng_EventVariableExpression := g_EventVariableExpression; have ng_ConstantExpression := g_ConstantExpression
  walk_at "B"
  kd_p1
  rename_i C
  refine call_ind C (r'.le (by kd_p)) hx fun s' C => ?_
  unfold varK at hy
  cases e1 : ildS x indL with
  | true =>
    rw [e1] at hy; cases hy
    kd_p1
    rename_i C
    exact mk_Iv C (r'.le (by kd_p)) (.tail _ hv) fun a s' C => h _ _ (C.drop.weakF (by walk_at "w"))
  | false =>
    rw [e1] at hy
    kd_p1
    rename_i C
    refine call_fun C (r'.le (by kd_p)) hx fun s' C => ?_
    cases e2 : ildS x funL with
    | true => rw [e2] at hy; cases hy
    | false =>
      rw [e2] at hy
      kd_p1
      rename_i C
      refine call_eve C (r'.le (by kd_p)) hx fun s' C => ?_
      cases e3 : ildS x eveL with
      | true => rw [e3] at hy; cases hy
      | false =>
        rw [e3] at hy; cases hy
        kd_p1
        rename_i C
        exact mk_Con C (r'.le (by kd_p)) (.tail _ hv) fun a s' C => h _ _ (C.drop.weakF (by walk_at "w"))
end
theorem bmain_ok (P : Params) : nsIn (KK P) 3 "__builtins__" = some (some (.ref 4)) := by kernel_rfl
theorem bmain_hd (P : Params) : ((KK P).lookup 4).map (fun o => (o.cls, o.dict, o.data)) = some (.type "module", some 0, .plain) := by kernel_rfl
theorem code284 (P : Params) : codeHdIn (KK P) 288 284 = true := by kernel_rfl
theorem code298 (P : Params) : codeHdIn (KK P) 302 298 = true := by kernel_rfl
section
variable {w : World} {S₀ s : Shared} {cs cs' : List Cell} {fs : List Fact} {A : Around} {E' : Value → Shared → Prop} {Q : Value → Shared → Prop} {env : Env}
theorem builtinsAt_of {P : Addr} (X : (KK w.params).In s.heap) (hP : P ≠ 4) : s.heap.BuiltinsAt (s.heap.nsMap 3) P := by
  obtain ⟨⟨c, d, da, sl⟩, e, h⟩ := Option.map_eq_some_iff.mp (bmain_hd w.params)
  cases h
  exact ⟨4, _, ns_some_of X (ns3 X) (bmain_ok w.params), by decide, by decide, Ne.symm hP, X _ _ e, rfl, rfl, rfl⟩
theorem Stg.code {g : PM} (X : Stg w S₀ g cs s) {v : Vol} (hv : v ∈ vols) {ps : Array Value} {c' : Addr} {oc : Obj} {h' : Heap} {tk : Tok} {vs : Array Value} {t : Tok} (e0 : s.heap.get? v.t = some (tabObj ps)) (et : TriplesOk ps.toList) (en : codeAmong v.pos ps.toList = none)
    (k : Heap.ExtBut v.t s.heap h') (hc : s.heap.objs.size ≤ c') (ho : h'.get? c' = some oc) (hd : oc.data = .fields vs) (hq : vs[1]? = some (.str v.q t)) (hT : h'.get? v.t = some (tabObj (ps ++ #[rawInt v.pos.line, rawInt v.pos.col, .ref c']))) :
    ∃ g', Ge g g' ∧ g' c' = some oc ∧ Stg w S₀ g' cs { s with heap := h', toks := tk } := by
  have F := X.fresh hc
  have hvol := vols_vol v hv
  have kg : Ge g (pPut g c' oc) := fun b o' e => by
    unfold pPut
    by_cases q : b = c'
    · subst q; rw [F.1] at e; cases e
    · rw [if_neg q]; exact e
  have lt : c' < h'.objs.size := Heap.lt_size ho
  refine ⟨pPut g c' oc, kg, if_pos rfl, ⟨X.hs, by have := X.sh; rw [this], fun b o' e q => kg _ _ (X.base b o' e q), fun b o' e => ?_, fun b q => ?_, fun c h => ?_, fun c h => ⟨?_, (X.off c h).2⟩, X.nod, fun u hu => ?_, X.up, ?_⟩⟩
  · unfold pPut at e
    by_cases q : b = c'
    · subst q; rw [if_pos rfl] at e; cases e; exact ho
    · rw [if_neg q] at e; exact k b o' (fun z => by rw [z, X.gv _ hvol] at e; cases e) (X.sub _ _ e)
  · unfold pPut
    by_cases z : b = c'
    · subst z; rw [F.2.1] at q; cases q
    · rw [if_neg z]; exact X.gv _ q
  · exact Cell.keep (fun o e => k _ o (fun z => by have := (X.off c h).2; rw [z, hvol] at this; cases this) e) (X.cells c h)
  · unfold pPut; rw [if_neg (F.2.2 c h)]; exact (X.off c h).1
  · by_cases z : u.t = v.t
    · have : u = v := by
        simp only [vols, List.mem_cons, List.not_mem_nil, or_false] at hu hv
        rcases hu with rfl | rfl <;> rcases hv with rfl | rfl <;> first | rfl | cases z
      subst this
      refine ⟨_, hT, ?_, .inr ⟨c', oc, vs, t, ?_, if_pos rfl, hd, hq⟩⟩
      · rw [Array.toList_append]; exact TriplesOk_snoc _ _ _ _ et
      · rw [Array.toList_append]; exact codeAmong_snoc _ et en
    · exact Vol.ok.keep kg (fun o e => k _ o z e) (X.tab u hu)
  · show S₀.heap.objs.size ≤ h'.objs.size
    exact Nat.le_trans X.big (Nat.le_trans hc (Nat.le_of_lt lt))
theorem lamE {v : Vol} {params : Arguments} {body : Expr} {scope : Scope} {pos : Pos} {clos : List (Str × Addr)} {c : Addr} (C : St w S₀ cs fs s) (hv : v ∈ vols) (hpos : v.pos = pos) (hq : v.q = env.qual ++ "<lambda>") (hdef : defaultsOf params env = ([], [])) (hcl : closureFor scope env = pure clos)
    (hge : env.globals = mainGlobals) (hcode : env.code = .ref c) (hC : codeHdIn (KK w.params) c v.t = true)
    (h : ∀ f c' oc vs tk pm ctv s', oc.data = .fields vs → vs[1]? = some (.str v.q tk) → St w S₀ cs (.ob f (kla_obj "<lambda>" v.q params body scope clos pm c' ctv) :: .ob c' oc :: fs) s' → Q (.ref f) s') :
    wpAny (model pw w) A (eval (.Lambda params body scope pos) env) Q E' s := by
  refine kla_eval hdef ?_
  rw [← hq, ← hpos]
  have hP4 : v.t ≠ 4 := by
    simp only [vols, List.mem_cons, List.not_mem_nil, or_false] at hv
    rcases hv with rfl | rfl <;> decide
  have hP3 : mainGlobals ≠ v.t := by
    simp only [vols, List.mem_cons, List.not_mem_nil, or_false] at hv
    rcases hv with rfl | rfl <;> decide
  have X := C.kin
  obtain ⟨g, Y, Z⟩ := C
  obtain ⟨ps, e0, et, en⟩ := Y.tab v hv
  rcases en with en | ⟨c', o, vs, tk, ec, eg, ed, ev⟩
  · refine kla_makeFunction (mg := s.heap.nsMap 3) hcl hge (ns3 X) hcode (codeHd_of_K X hC) e0 et en hP3 (builtinsAt_of X hP4) fun c' ctv h' tk hx hle hlt hrec htb => ?_
    obtain ⟨c₂, oc, vs, t, e2, hoc, hd, hv1⟩ := hrec
    cases e2
    obtain ⟨g', kg, eg, Y'⟩ := Y.code (tk := tk) hv e0 et en hx hle hoc hd hv1 htb
    have C' : St w S₀ cs (.ob c' oc :: fs) { s with heap := h', toks := tk } := ⟨g', Y', fun f hf => (List.mem_cons.mp hf).elim (fun q => q ▸ eg) fun hf => Fact.mono kg (Z f hf)⟩
    exact h _ c' oc vs t _ ctv _ hd hv1 (C'.pushF _ rfl (tk := tk))
  · refine kla_makeFunctionHit (mg := s.heap.nsMap 3) hcl hge (ns3 X) hcode (codeHd_of_K X hC) e0 et ec (builtinsAt_of X hP4) fun ctv h' tk' hk hsz => ?_
    have C' : St w S₀ cs (.ob c' o :: fs) { s with heap := h', toks := tk' } := ⟨g, Y.grow hk hsz, fun f hf => (List.mem_cons.mp hf).elim (fun q => q ▸ eg) fun hf => Z f hf⟩
    exact h _ c' o vs tk _ ctv _ ed ev (C'.pushF _ rfl (tk := tk'))
theorem callLam {f c' : Addr} {oc : Obj} {vs : Array Value} {tk : Tok} {pm ctv : Value} {name qual : Str} {params : Arguments} {body : Expr} {scope : Scope} {clos : List (Str × Addr)} {args : Args} {binds : List (Str × Value)} {R : Result → Shared → Prop} {n : Nat}
    (C : St w S₀ cs fs s) (r : Room A (n + 1)) (ho : Fact.ob f (kla_obj name qual params body scope clos pm c' ctv) ∈ fs) (hc : Fact.ob c' oc ∈ fs) (hd : oc.data = .fields vs) (hq : vs[1]? = some (.str qual tk))
    (hbind : bindArgs (kla_fn name qual params body scope clos pm (.ref c') ctv) args = pure binds) (hloc : (binds.all fun x => scope.names.lookup x.1 == some .local) = true) (hcell : (scope.names.all fun x => x.2 != .cell) = true)
    (hco : scope.isCoroutine = false) (hgen : scope.isGenerator = false) (hk : scope.kind = .function)
    (h : ∀ (L : Addr) (A' : Around) (s' : Shared), Room A' n → St w S₀ (.ns L binds.reverse :: cs) fs s' → wpAny (model pw w) A' (eval body (envX qual scope L f (.ref c') clos)) (fun v s' => R (.ok (.ret v)) s') (fun _ _ => False) s') :
    codeAny (model pw w) A (.call (.ref f) args) R s := by
  refine kla_callFunE r.depth (C.obj ho) rfl hco hgen rfl ⟨c', oc, vs, tk, rfl, C.obj hc, hd, hq⟩ ?_
  rw [hbind]
  refine wpAny_pure (wpAny_newFunctionEnv (fun x hx q => by have := List.all_eq_true.mp hcell x hx; rw [q] at this; cases this) (fun x hx => beq_iff_eq.mp (List.all_eq_true.mp hloc x hx)) (fun h₁ hns hsb => ⟨(nolim_of C.kin).fresh _ hsb, ?_⟩) hk)
  show codeAny _ _ (.expr body (envX qual scope s.heap.objs.size f (.ref c') clos)) _ _
  refine kla_codeExpr (wpAny_mono (h s.heap.objs.size _ _ r.deeper ?_) (fun _ _ z => z) (fun _ _ z => z.elim))
  have C3 := C.pushC (.ns s.heap.objs.size []) { cls := .type "frame", data := .dict #[] } rfl (Heap.Ns.new s.heap (.type "frame")) (tk := s.toks)
  exact C3.upd (tk := s.toks + binds.length) (.head (c' := .ns s.heap.objs.size binds.reverse)) hsb rfl hns
end
noncomputable def vol1 : Vol := ⟨284, ⟨154, 37, 154, 108⟩, "Expression.replace.<locals>.<lambda>"⟩
noncomputable def vol2 : Vol := ⟨298, ⟨160, 36, 160, 67⟩, "Expression.visit_structured.<locals>.<lambda>"⟩
theorem vol1_mem : vol1 ∈ vols := .head _
theorem vol2_mem : vol2 ∈ vols := .tail _ (.head _)
noncomputable def noFld (n : Str) : Bool := [("variable" : Str), "function", "argument", "first", "second", "term"].all (· != n)
noncomputable def sub (x : Str) (y : E) : E → E
  | .con n => if n == x then y else .con n
  | .iv n => if n == x then y else .iv n
  | .app f a => .app (sub x y f) (sub x y a)
  | .neg t => .neg (sub x y t)
  | .and a b => .and (sub x y a) (sub x y b)
  | .or a b => .or (sub x y a) (sub x y b)
  | .imp a b => .imp (sub x y a) (sub x y b)
  | .all z t => if z == x then .all z t else .all z (sub x y t)
  | .ex z t => if z == x then .ex z t else .ex z (sub x y t)
noncomputable def hgt : E → Nat
  | .con _ => 0 | .iv _ => 0
  | .app f x => max (hgt f) (hgt x) + 1
  | .neg f => hgt f + 1
  | .and f x => max (hgt f) (hgt x) + 1 | .or f x => max (hgt f) (hgt x) + 1 | .imp f x => max (hgt f) (hgt x) + 1
  | .all _ f => hgt f + 1 | .ex _ f => hgt f + 1
noncomputable def noCatch (y : E) : E → Prop
  | .con _ => True | .iv _ => True
  | .app f a => noCatch y f ∧ noCatch y a
  | .neg t => noCatch y t
  | .and f a => noCatch y f ∧ noCatch y a | .or f a => noCatch y f ∧ noCatch y a | .imp f a => noCatch y f ∧ noCatch y a
  | .all z t => y ≠ .iv z ∧ noCatch y t
  | .ex z t => y ≠ .iv z ∧ noCatch y t
noncomputable def repF : E → Addr
  | .con _ => 482 | .iv _ => 482 | .all _ _ => 634 | .ex _ _ => 634 | _ => 289
theorem repF_tab (x : E) : mTab.lookup (cls x, ("replace" : Str)) = some (repF x) := by cases x <;> exact rfl
noncomputable def IsArgs (args : Args) (a v b : Addr) : Prop := args = ⟨[.ref a, .ref v, .ref b], []⟩ ∨ args = ⟨[.ref a, .ref v, .ref b, .bool false, .bool true], []⟩
noncomputable def rbinds (a v b : Addr) : List (Str × Value) := [("self", .ref a), ("variable", .ref v), ("expression", .ref b), ("replace_bound", .bool false), ("alpha_convert", .bool true)]
section
variable {w : World} {S₀ s : Shared} {cs cs' : List Cell} {fs : List Fact} {A : Around} {E' : Value → Shared → Prop} {Q : Value → Shared → Prop} {env : Env} {R : Result → Shared → Prop}
noncomputable def fldN : List Str := ["variable", "function", "argument", "first", "second", "term"]
theorem fld_ne {n k : Str} (hk : noFld k = true) (hn : fldN.contains n = true) : (k == n) = false := beq_eq_false_iff_ne.mpr (bne_iff_ne.mp (List.all_eq_true.mp hk _ (List.contains_iff_mem.mp hn))).symm
theorem Ji1.fld {P : Params} {g : PM} {a C : Addr} {n : Str} {p : Addr → Prop} (h : Ji1 P g a C n p) (hn : fldN.contains n = true) : ∃ l, InsF P g a C l ∧ ∀ k, noFld k = true → l.lookup k = none := by
  obtain ⟨t, v, x, _⟩ := h
  exact ⟨_, x, fun k hk => by rw [List.lookup_cons, fld_ne hk hn]; rfl⟩
theorem Ji2.fld {P : Params} {g : PM} {a C : Addr} {n m : Str} {p q : Addr → Prop} (h : Ji2 P g a C n m p q) (hn : fldN.contains n = true) (hm : fldN.contains m = true) : ∃ l, InsF P g a C l ∧ ∀ k, noFld k = true → l.lookup k = none := by
  obtain ⟨t, u, v, z, x, _⟩ := h
  exact ⟨_, x, fun k hk => by rw [List.lookup_cons, fld_ne hk hn, List.lookup_cons, fld_ne hk hm]; rfl⟩
theorem isE_fld {P : Params} {g : PM} {x : E} {a : Addr} (h : IsE P g x a) : ∃ l, InsF P g a (cls x) l ∧ ∀ k, noFld k = true → l.lookup k = none := by
  cases x <;> first | exact Ji1.fld h (by kernel_rfl) | exact Ji2.fld h (by kernel_rfl) (by kernel_rfl)
inductive OM (w : World) (S₀ : Shared) (cs : List Cell) (fs : List Fact) (s : Shared) (a C : Addr) : Prop | mk (l : Flds) (hl : ∀ n, noFld n = true → l.lookup n = none) (X : St w S₀ cs (.ins a C l :: fs) s)
theorem St.openM {a : Addr} (C : St w S₀ cs fs s) {x : E} (h : Fact.v (.ref a) (.e x) ∈ fs) : OM w S₀ cs fs s a (cls x) := by
  obtain ⟨g, X, Y⟩ := C
  obtain ⟨l, k, hl⟩ := isE_fld (isE_of (Y _ h))
  exact ⟨l, hl, g, X, fun f hf => (List.mem_cons.mp hf).elim (fun q => q ▸ k) (Y f)⟩
theorem gmE {a f : Addr} {x : E} {n : Str} {pl : Sem Bool} {Q : Value × List Value → Shared → Prop} (C : St w S₀ cs fs s) (h : Fact.v (.ref a) (.e x) ∈ fs) (hm : mTab.lookup (cls x, n) = some f) (k : Q (.ref f, [.ref a]) s) (hn : autoParam (noFld n = true) tKr) :
    wpAny (model pw w) A (getMethod (.ref a) n pl) Q E' s := by
  obtain ⟨l, hl, C⟩ := C.openM h
  exact gmI C (.inl (.head _)) hm (hl n hn) k (cls_tab x)
theorem cwF0 {f : Addr} {o : Obj} {e : Expr} {r : List Expr} {pos : Pos} (C : St w S₀ cs fs s) (ho : Fact.ob f o ∈ fs) (hf : (match o with | ⟨_, _, .func _, _⟩ => True | _ => False))
    (h : wpAny (model pw w) A (spliced (backTo pos (starEach (e :: r) env))) (fun vs s₁ => FnAt f s₁.heap ∧ wpAny (model pw w) A (call (.ref f) vs) Q E' s₁) E' s)
    (he : autoParam (starEach (e :: r) env = (false, eval e env) :: starEach r env) tRfl) (hp : autoParam ((backTo pos (starEach r env)).any (·.1) = false) tRfl) :
    wpAny (model pw w) A (callWith pos (.ref f) [] (backTo pos (starEach (e :: r) env)) []) Q E' s := by
  obtain ⟨oc, od, d, sl⟩ := o
  cases d with
  | func fd => exact callWith_F (first := []) ⟨oc, od, fd, sl, C.obj ho⟩ h he hp
  | _ => exact hf.elim
theorem fnAnd {f : Addr} {o : Obj} {Q : Prop} (C : St w S₀ cs fs s) (ho : Fact.ob f o ∈ fs) (hf : (match o with | ⟨_, _, .func _, _⟩ => True | _ => False)) (h : Q) : FnAt f s.heap ∧ Q := by
  obtain ⟨oc, od, d, sl⟩ := o
  cases d with
  | func fd => exact ⟨⟨oc, od, fd, sl, C.obj ho⟩, h⟩
  | _ => exact hf.elim
theorem rb289 {args : Args} {a v b : Addr} (X : (KK w.params).In s.heap) (h : IsArgs args a v b) : BindsTo s F289 args (rbinds a v b) := by
  rcases h with rfl | rfl
  · exact kp_binds X fun S => by kernel_rfl
  · exact kp_binds X fun S => by kernel_rfl
theorem rb482 {args : Args} {a v b : Addr} (X : (KK w.params).In s.heap) (h : IsArgs args a v b) : BindsTo s F482 args (rbinds a v b) := by
  rcases h with rfl | rfl
  · exact kp_binds X fun S => by kernel_rfl
  · exact kp_binds X fun S => by kernel_rfl
theorem rb634 {args : Args} {a v b : Addr} (X : (KK w.params).In s.heap) (h : IsArgs args a v b) : BindsTo s F634 args (rbinds a v b) := by
  rcases h with rfl | rfl
  · exact kp_binds X fun S => by kernel_rfl
  · exact kp_binds X fun S => by kernel_rfl
theorem rep_Abs {a v b : Addr} {x n : Str} {y e : E} {args : Args} (C : St w S₀ cs fs s) (r : Room A 8) (he : nameE e = some n) (h1 : Fact.v (.ref a) (.e e) ∈ fs) (h2 : Fact.v (.ref v) (.var x) ∈ fs) (h3 : Fact.v (.ref b) (.e y) ∈ fs) (ha : IsArgs args a v b)
    (h : ∀ q s', St w S₀ cs (.v (.ref q) (.e (sub x y e)) :: fs) s' → R (.ok (.ret (.ref q))) s') : codeAny (model pw w) A (.call (.ref 482) args) R s := by
  refine callF (n := 7) (binds := rbinds a v b) ok482 C r (rb482 C.kin ha) (by kernel_rfl) (by kernel_rfl) fun L A' s' r' C => ?_
  have hab : (ups e).contains 513 = true := by cases e <;> first | rfl | cases he
  obtain ⟨n', D, t, u, hD, nx, C⟩ := C.openAbs h1 hab
  rw [he] at nx
  cases nx
  have hs : sub x y e = if n == x then y else e := by cases e <;> first | (cases he; rfl) | cases he
  have nb_isinstance := b_isinstance; have ng_Variable := g_Variable; have ng_Expression := g_Expression
  walk_at "B"
  rcases hD with rfl | rfl <;>
  · kd_p1
    rename_i C
    refine cmp_Var C (r'.le (by kd_p)) (L := L) (by kd_in) (x := n) (y := x) (.tail _ (.head _)) (.tail _ (.tail _ h2)) fun s' C => ?_
    cases q : n == x with
    | true =>
      rw [q, if_pos rfl] at hs
      kd_p1
      walk_at "zC"
      exact h _ _ (C.drop.weakF (by rw [hs]; walk_at "w"))
    | false =>
      rw [q, if_neg Bool.false_ne_true] at hs
      kd_p1
      walk_at "zC"
      exact h _ _ (C.drop.weakF (by rw [hs]; walk_at "w"))
end
theorem repF_keep (x : E) : (cTab.contains (repF x) || keeps.contains (repF x)) = true := by cases x <;> exact rfl
section
variable {w : World} {S₀ s : Shared} {cs cs' : List Cell} {fs : List Fact} {A : Around} {E' : Value → Shared → Prop} {Q : Value → Shared → Prop}
theorem tailL {value slice : Expr} {l : Addr} {vs : List Value} {k : Int} {u : Tok} {v : Value} (C : St w S₀ cs fs s) (hl : Cell.li l vs ∈ cs ∨ Fact.li l vs ∈ fs) (h0 : 0 ≤ k) (hk : k < 2 ^ 63) (hv : vs[k.toNat]? = some v) (h : Q v s)
    (hs : autoParam (subscripted slice false (.ref l) (.int k u) = operate [.ref l, .int k u] (getItem (.ref l) (.int k u))) tWr) : wpAny (model pw w) A (subscriptTail value slice (.ref l) (.int k u)) Q E' s :=
  tail_any (C.plain hl).isList.typeIs slot_list_getitem.lookup (wpAny_getItem_list (C.plain hl).isList h0 hk (by simpa using hv) h) hs
theorem tailT {value slice : Expr} {l : Addr} {vs : List Value} {k : Int} {u : Tok} {v : Value} (C : St w S₀ cs fs s) (hl : Fact.ob l (tupObj vs) ∈ fs) (h0 : 0 ≤ k) (hk : k < 2 ^ 63) (hj : seqIndex? k vs.length = some k.toNat) (hv : vs[k.toNat]? = some v) (h : Q v s)
    (hs : autoParam (subscripted slice false (.ref l) (.int k u) = operate [.ref l, .int k u] (getItem (.ref l) (.int k u))) tWr) : wpAny (model pw w) A (subscriptTail value slice (.ref l) (.int k u)) Q E' s :=
  item_tupleT (l := vs) ⟨_, C.obj hl, rfl, 0, rfl⟩ (by kd_p) hk hj hv h hs
end
theorem St.uniqV {w : World} {S₀ s : Shared} {cs : List Cell} {fs : List Fact} (C : St w S₀ cs fs s) {a : Addr} {x y : Str} (h : Fact.v (.ref a) (.var x) ∈ fs) (k : Fact.v (.ref a) (.var y) ∈ fs) : x = y := by
  obtain ⟨g, X, Y⟩ := C
  exact isVar_uniq (isVar_of (Y _ h)) (isVar_of (Y _ k))
theorem St.refV {w : World} {S₀ s : Shared} {cs : List Cell} {fs : List Fact} (C : St w S₀ cs fs s) {v : Value} {x : Str} (h : Fact.v v (.var x) ∈ fs) : ∃ a, v = .ref a := by obtain ⟨g, _, Y⟩ := C; have := Y _ h; obtain ⟨a, e, _⟩ := this; exact ⟨a, e⟩
noncomputable def kV : Kd Str where
  av := .var
  eq := fun x y => x == y
  ok := fun _ => True
  asks := by
    intro w S₀ cs fs s x y L m u v hx hy hm C h1 h2
    obtain ⟨b, rfl⟩ := C.refV h1
    obtain ⟨a, rfl⟩ := C.refV h2
    intro A E Q s r C h
    unfold eqBool
    refine wpAny_holding ?_
    by_cases e : (Value.ref b == Value.ref a) = true
    · rw [if_pos e]
      have e' : b = a := by injection (beq_iff_eq.mp e)
      subst e'
      have := C.uniqV h1 h2
      subst this
      rw [beq_self_eq_true] at h
      exact wpAny_bind (wpAny_rule (wpAny_pure (h s C)))
    · rw [if_neg e]
      show wpAny _ _ (richCompare .Eq (.ref b) (.ref a) >>= truthOfDropped) _ _ _
      refine wpAny_bind ?_
      exact cmp_Var (Q := fun v s' => wpAny (model pw w) A (truthOfDropped v) Q E s') C (r.le (by kd_p)) hm h1 h2 fun s' C => truthOf_bool (h s' C)
noncomputable def freF : E → Addr
  | .iv _ => 529
  | _ => 593
noncomputable def freN : E → List Str
  | .iv n => [n]
  | _ => []
section
variable {w : World} {S₀ s : Shared} {cs cs' : List Cell} {fs : List Fact} {A : Around} {E' : Value → Shared → Prop} {Q : Value → Shared → Prop}
theorem call_free {y : E} {b : Addr} {m : Str} (C : St w S₀ cs fs s) (r : Room A 4) (hy : nameE y = some m) (h1 : Fact.v (.ref b) (.e y) ∈ fs) (h : ∀ l vs s', St w S₀ (.li l vs :: cs) (.l vs ((freN y).map kV.av) :: fs) s' → Q (.ref l) s') :
    wpAny (model pw w) A (call (.ref (freF y)) [.ref b]) Q E' s := by
  cases y with
  | con n =>
    refine wpAny_call (callF (n := 3) (binds := [("self", .ref b)]) ok593 C r (binds0 (by kernel_rfl)) (by kernel_rfl) (by kernel_rfl) fun L A' s' r' C => ?_)
    walk_at "B"
    kd_p1
    rename_i l s2 C
    exact h l [] s2 (((C.permC (List.Perm.swap _ _ _)).drop).nilL)
  | iv n =>
    obtain ⟨t, v, C⟩ := C.openIv h1
    refine wpAny_call (callF (n := 3) (binds := [("self", .ref b)]) ok529 C r (binds0 (by kernel_rfl)) (by kernel_rfl) (by kernel_rfl) fun L A' s' r' C => ?_)
    walk_at "B"
    kd_p1
    rename_i l s2 C
    have C := (C.permC (List.Perm.swap _ _ _)).drop
    have C := C.nilL.snoc (v := .ref v) (a := .var n) (.head _) (.tail _ (.tail _ (.head _)))
    exact h l [.ref v] s2 (C.weakF (List.forall_mem_cons.mpr ⟨.head _, by walk_at "w"⟩))
  | _ => cases hy
theorem freF_tab {y : E} {m : Str} (hy : nameE y = some m) : mTab.lookup (cls y, ("free" : Str)) = some (freF y) ∧ (cTab.contains (freF y) || keeps.contains (freF y)) = true := by cases y <;> first | exact ⟨rfl, rfl⟩ | cases hy
theorem not_free {y : E} {n m : Str} (hy : nameE y = some m) (h : y ≠ .iv n) : ((freN y).any fun z => kV.eq z n) = false := by
  cases y with
  | con k => rfl
  | iv k => show (k == n || false) = false; rw [Bool.or_false]; exact beq_eq_false_iff_ne.mpr fun e => h (by rw [e])
  | _ => cases hy
end
section
variable {w : World} {S₀ : Shared}
noncomputable def RepOK (w : World) (S₀ : Shared) (x : Str) (y e : E) : Prop := ∀ {s : Shared} {cs : List Cell} {fs : List Fact} {A : Around} {R : Result → Shared → Prop} {a v b : Addr} {args : Args}, St w S₀ cs fs s → Room A (6 * hgt e + 14) →
    Fact.v (.ref a) (.e e) ∈ fs → Fact.v (.ref v) (.var x) ∈ fs → Fact.v (.ref b) (.e y) ∈ fs → IsArgs args a v b → (∀ q s', St w S₀ cs (.v (.ref q) (.e (sub x y e)) :: fs) s' → R (.ok (.ret (.ref q))) s') →
    codeAny (model pw w) A (.call (.ref (repF e)) args) R s
noncomputable def Fn1 (w : World) (S₀ : Shared) (x : Str) (y : E) (cs' : List Cell) (fs' : List Fact) (f1 : Addr) : Prop := ∀ {e : E} {k : Addr} {cs : List Cell} {fs : List Fact} {s : Shared} {A : Around} {Q : Value → Shared → Prop} {E' : Value → Shared → Prop},
    RepOK w S₀ x y e → St w S₀ cs fs s → (∀ c ∈ cs', c ∈ cs) → (∀ f ∈ fs', f ∈ fs) → Room A (6 * hgt e + 15) → Fact.v (.ref k) (.e e) ∈ fs → (∀ q s', St w S₀ cs (.v (.ref q) (.e (sub x y e)) :: fs) s' → Q (.ref q) s') →
    wpAny (model pw w) A (call (.ref f1) [.ref k]) Q E' s
noncomputable def Fn2 (w : World) (S₀ : Shared) (cs' : List Cell) (fs' : List Fact) (f2 a mk : Addr) : Prop := ∀ {p : Addr} {n : Nat} {cs : List Cell} {fs : List Fact} {s : Shared} {A : Around} {Q : Value → Shared → Prop} {E' : Value → Shared → Prop},
    St w S₀ cs fs s → (∀ c ∈ cs', c ∈ cs) → (∀ f ∈ fs', f ∈ fs) → Room A (n + 1) →
    (∀ L A' s', Room A' n → St w S₀ (.ns L [("parts", .ref p)] :: cs) fs s' → wpAny (model pw w) A' (call (.ref mk) [.ref a, .ref p]) Q (fun _ _ => False) s') →
    wpAny (model pw w) A (call (.ref f2) [.ref p]) Q E' s
theorem St.obIn {s : Shared} {cs : List Cell} {fs : List Fact} {f : Addr} {o : Obj} (C : St w S₀ cs fs s) (h : Fact.ob f o ∈ fs) : Fact.ob f o ∈ fs := h
theorem rep_head {e : E} {s : Shared} {cs : List Cell} {fs : List Fact} {A : Around} {R : Result → Shared → Prop} {a v b vf mk : Addr} {x : Str} {y : E} {args : Args} {n : Nat}
    (hv : mTab.lookup (cls e, ("visit" : Str)) = some vf) (kv : (cTab.contains vf || keeps.contains vf) = true) (hs : mTab.lookup (cls e, ("visit_structured" : Str)) = some 303)
    (hm : mTab.lookup (cls e, ("_made" : Str)) = some mk) (km : (cTab.contains mk || keeps.contains mk) = true)
    (C : St w S₀ cs fs s) (r : Room A (n + 3)) (h1 : Fact.v (.ref a) (.e e) ∈ fs) (h2 : Fact.v (.ref v) (.var x) ∈ fs) (h3 : Fact.v (.ref b) (.e y) ∈ fs) (ha : IsArgs args a v b)
    (k : ∀ cs' fs' f1 f2 A' s' x1 x2 x3 fd x4 x5 x6 fe, Room A' (n + 1) → cs.Sublist cs' → (∀ f ∈ fs, f ∈ fs') → Fn1 w S₀ x y cs' fs' f1 → Fn2 w S₀ cs' fs' f2 a mk → Fact.ob f1 ⟨x1, x2, .func fd, x3⟩ ∈ fs' → Fact.ob f2 ⟨x4, x5, .func fe, x6⟩ ∈ fs' → St w S₀ cs' fs' s' →
      wpAny (model pw w) A' (call (.ref vf) [.ref a, .ref f1, .ref f2]) (fun v s => R (.ok (.ret v)) s) (fun _ _ => False) s') :
    codeAny (model pw w) A (.call (.ref 289) args) R s := by
  refine callFC (n := n + 2) (binds := rbinds a v b) (lm := [("self", .ref a)]) (cc := fun L => [cvC (L+1+1+1+1) (.bool true), cvC (L+1+1+1) (.bool false), cvC (L+1+1) (.ref b), cvC (L+1) (.ref v)]) ok289 C r (rb289 C.kin ha) (by kernel_rfl) (by kernel_rfl) (fun L => by kernel_rfl) (by kernel_rfl) (fun L => by kernel_rfl) fun L0 A' s' r' C => ?_
  have nb_isinstance := b_isinstance; have ng_Variable := g_Variable; have ng_Expression := g_Expression
  walk_at "B"
  dsimp only [List.cons_append, List.nil_append] at C
  kd_p1
  walk_at "lam1"
  rename_i f1 c1 oc1 vs1 tk1 pm1 ctv1 s1 hd1 hq1 C
  kd_p1
  rename_i C
  refine wpAny_call (callFC (n := n + 1) (binds := [("self", .ref a), ("function", .ref f1)]) (lm := [("function", .ref f1)]) (cc := fun L => [cvC (L+1) (.ref a)]) ok303 C r' (binds0 (by kernel_rfl)) (by kernel_rfl) (by kernel_rfl) (fun L => by kernel_rfl) (by kernel_rfl) (fun L => by kernel_rfl) fun L A' s' r' C => ?_)
  walk_at "B"
  dsimp only [List.cons_append, List.nil_append] at C
  kd_p1
  walk_at "lam2"
  rename_i f2 c2 oc2 vs2 tk2 pm2 ctv2 s2 hd2 hq2 C
  kd_p1
  rename_i C
  have y1 := C.obIn (f := f1) (by kd_in)
  have y2 := C.obIn (f := f2) (by kd_in)
  refine wpAny_mono (k _ _ f1 f2 _ _ _ _ _ _ _ _ _ _ r' (by walk_at "s") (by walk_at "w") ?_ ?_ y1 y2 C) (fun _ _ h => h) (fun _ _ h => h.elim)
  · intro e k cs1 fs1 s A Q E' ih C hc hf r hk h
    have h2' := hf _ (show Fact.v (.ref v) (.var x) ∈ _ by kd_in)
    have h3' := hf _ (show Fact.v (.ref b) (.e y) ∈ _ by kd_in)
    have m1 := hc _ (show cvC (L0+1) (.ref v) ∈ _ by kd_in)
    have m2 := hc _ (show cvC (L0+1+1) (.ref b) ∈ _ by kd_in)
    have m3 := hc _ (show cvC (L0+1+1+1) (.bool false) ∈ _ by kd_in)
    have m4 := hc _ (show cvC (L0+1+1+1+1) (.bool true) ∈ _ by kd_in)
    have o1 := hf _ (show Fact.ob f1 _ ∈ _ by kd_in)
    have o2 := hf _ (show Fact.ob c1 oc1 ∈ _ by kd_in)
    clear hf hc
    refine wpAny_call (callLam (n := 6 * hgt e + 14) (binds := [("e", .ref k)]) C r o1 o2 hd1 hq1 (by kernel_rfl) (by kernel_rfl) (by kernel_rfl) (by kernel_rfl) (by kernel_rfl) (by kernel_rfl) fun L1 A1 s1 r1 C => ?_)
    have g1 := repF_tab e
    have p1 := repF_keep e
    kd_p1
    rename_i C
    exact wpAny_call (ih C r1 hk h2' h3' (.inr rfl) fun q s C => h q s C.drop)
  · intro p n cs1 fs1 s A Q E' C hc hf r h
    have m1 := hc _ (show cvC (L+1) (.ref a) ∈ _ by kd_in)
    have h1' := hf _ (show Fact.v (.ref a) (.e e) ∈ _ by kd_in)
    refine wpAny_call (callLam (n := n) (binds := [("parts", .ref p)]) C r (hf _ (by kd_in)) (hf _ (by kd_in)) hd2 hq2 (by kernel_rfl) (by kernel_rfl) (by kernel_rfl) (by kernel_rfl) (by kernel_rfl) (by kernel_rfl) fun L1 A1 s1 r1 C => ?_)
    clear hf hc
    kd_p1
    rename_i C
    exact h _ _ _ r1 C
theorem St.only {s : Shared} {cs cs1 : List Cell} {fs fs1 : List Fact} {q : Fact} (C : St w S₀ cs1 fs1 s) (hq : q ∈ fs1) (hs : cs.Sublist cs1) (hf : ∀ f ∈ fs, f ∈ fs1) : St w S₀ cs (q :: fs) s := (C.weakC hs).weakF (wkCons hq hf)
theorem rep_OK {x : Str} {y : E} {yn : Str} (hyn : nameE y = some yn) : ∀ {e : E}, noCatch y e → RepOK w S₀ x y e := by
  intro e
  induction e with
  | app f z ihf ihz =>
    intro hn s cs fs A R a v b args C r h1 h2 h3 ha h
    have d1 : hgt f + 1 ≤ hgt (.app f z) := Nat.succ_le_succ (Nat.le_max_left _ _)
    have d2 : hgt z + 1 ≤ hgt (.app f z) := Nat.succ_le_succ (Nat.le_max_right _ _)
    refine rep_head (n := 6 * hgt (.app f z) + 11) (vf := 404) (mk := 383) (by kernel_rfl) (by kernel_rfl) (by kernel_rfl) (by kernel_rfl) (by kernel_rfl) C r h1 h2 h3 ha fun cs' fs' f1 f2 A' s' x1 x2 x3 fd x4 x5 x6 fe r' hs hf F1 F2 o1 o2 C => ?_
    obtain ⟨t, u, k, l, C⟩ := C.openApp (hf _ h1)
    refine wpAny_call (callF (n := 6 * hgt (.app f z) + 11) (binds := [("self", .ref a), ("function", .ref f1), ("combinator", .ref f2)]) ok404 C r' (binds0 (by kernel_rfl)) (by kernel_rfl) (by kernel_rfl) fun L A' s' r' C => ?_)
    walk_at "B"
    kd_p1
    rename_i C
    refine F1 (ihf hn.1) C (by walk_at "w") (by walk_at "w") (r'.le (by kd_p)) (by kd_in) fun q1 s1 C => ?_
    kd_p1
    rename_i C
    refine F1 (ihz hn.2) C (by walk_at "w") (by walk_at "w") (r'.le (by kd_p)) (by kd_in) fun q2 s1 C => ?_
    kd_p1
    rename_i p _ C
    refine F2 (n := 6 * hgt (.app f z) + 10) C (by walk_at "w") (by walk_at "w") r' fun L1 A1 s1 r1 C => ?_
    refine wpAny_call (callF (n := 6 * hgt (.app f z) + 9) (binds := [("self", .ref a), ("parts", .ref p)]) ok383 C r1 (binds0 (by kernel_rfl)) (by kernel_rfl) (by kernel_rfl) fun L2 A2 s2 r2 C => ?_)
    have ng_ApplicationExpression := g_ApplicationExpression
    walk_at "B"
    kd_p1
    rename_i C
    refine mk_App (x1 := sub x y f) (x2 := sub x y z) C (r2.le (by kd_p)) (by kd_in) (by kd_in) fun q s3 C => ?_
    exact h q s3 (C.only (.head _) (by walk_at "s") fun f k => by have := hf f k; kd_in)
  | and f z ihf ihz =>
    intro hn s cs fs A R a v b args C r h1 h2 h3 ha h
    have d1 : hgt f + 1 ≤ hgt (.and f z) := Nat.succ_le_succ (Nat.le_max_left _ _)
    have d2 : hgt z + 1 ≤ hgt (.and f z) := Nat.succ_le_succ (Nat.le_max_right _ _)
    refine rep_head (n := 6 * hgt (.and f z) + 11) (vf := 865) (mk := 917) (by kernel_rfl) (by kernel_rfl) (by kernel_rfl) (by kernel_rfl) (by kernel_rfl) C r h1 h2 h3 ha fun cs' fs' f1 f2 A' s' x1 x2 x3 fd x4 x5 x6 fe r' hs hf F1 F2 o1 o2 C => ?_
    obtain ⟨t, u, k, l, C⟩ := C.openAnd (hf _ h1)
    refine wpAny_call (callF (n := 6 * hgt (.and f z) + 11) (binds := [("self", .ref a), ("function", .ref f1), ("combinator", .ref f2)]) ok865 C r' (binds0 (by kernel_rfl)) (by kernel_rfl) (by kernel_rfl) fun L A' s' r' C => ?_)
    walk_at "B"
    kd_p1
    rename_i C
    refine F1 (ihf hn.1) C (by walk_at "w") (by walk_at "w") (r'.le (by kd_p)) (by kd_in) fun q1 s1 C => ?_
    kd_p1
    rename_i C
    refine F1 (ihz hn.2) C (by walk_at "w") (by walk_at "w") (r'.le (by kd_p)) (by kd_in) fun q2 s1 C => ?_
    kd_p1
    rename_i p _ C
    refine F2 (n := 6 * hgt (.and f z) + 10) C (by walk_at "w") (by walk_at "w") r' fun L1 A1 s1 r1 C => ?_
    refine wpAny_call (callF (n := 6 * hgt (.and f z) + 9) (binds := [("self", .ref a), ("parts", .ref p)]) ok917 C r1 (binds0 (by kernel_rfl)) (by kernel_rfl) (by kernel_rfl) fun L2 A2 s2 r2 C => ?_)
    have ng_AndExpression := g_AndExpression
    walk_at "B"
    kd_p1
    rename_i C
    refine mk_And (x1 := sub x y f) (x2 := sub x y z) C (r2.le (by kd_p)) (by kd_in) (by kd_in) fun q s3 C => ?_
    exact h q s3 (C.only (.head _) (by walk_at "s") fun f k => by have := hf f k; kd_in)
  | or f z ihf ihz =>
    intro hn s cs fs A R a v b args C r h1 h2 h3 ha h
    have d1 : hgt f + 1 ≤ hgt (.or f z) := Nat.succ_le_succ (Nat.le_max_left _ _)
    have d2 : hgt z + 1 ≤ hgt (.or f z) := Nat.succ_le_succ (Nat.le_max_right _ _)
    refine rep_head (n := 6 * hgt (.or f z) + 11) (vf := 865) (mk := 957) (by kernel_rfl) (by kernel_rfl) (by kernel_rfl) (by kernel_rfl) (by kernel_rfl) C r h1 h2 h3 ha fun cs' fs' f1 f2 A' s' x1 x2 x3 fd x4 x5 x6 fe r' hs hf F1 F2 o1 o2 C => ?_
    obtain ⟨t, u, k, l, C⟩ := C.openOr (hf _ h1)
    refine wpAny_call (callF (n := 6 * hgt (.or f z) + 11) (binds := [("self", .ref a), ("function", .ref f1), ("combinator", .ref f2)]) ok865 C r' (binds0 (by kernel_rfl)) (by kernel_rfl) (by kernel_rfl) fun L A' s' r' C => ?_)
    walk_at "B"
    kd_p1
    rename_i C
    refine F1 (ihf hn.1) C (by walk_at "w") (by walk_at "w") (r'.le (by kd_p)) (by kd_in) fun q1 s1 C => ?_
    kd_p1
    rename_i C
    refine F1 (ihz hn.2) C (by walk_at "w") (by walk_at "w") (r'.le (by kd_p)) (by kd_in) fun q2 s1 C => ?_
    kd_p1
    rename_i p _ C
    refine F2 (n := 6 * hgt (.or f z) + 10) C (by walk_at "w") (by walk_at "w") r' fun L1 A1 s1 r1 C => ?_
    refine wpAny_call (callF (n := 6 * hgt (.or f z) + 9) (binds := [("self", .ref a), ("parts", .ref p)]) ok957 C r1 (binds0 (by kernel_rfl)) (by kernel_rfl) (by kernel_rfl) fun L2 A2 s2 r2 C => ?_)
    have ng_OrExpression := g_OrExpression
    walk_at "B"
    kd_p1
    rename_i C
    refine mk_Or (x1 := sub x y f) (x2 := sub x y z) C (r2.le (by kd_p)) (by kd_in) (by kd_in) fun q s3 C => ?_
    exact h q s3 (C.only (.head _) (by walk_at "s") fun f k => by have := hf f k; kd_in)
  | imp f z ihf ihz =>
    intro hn s cs fs A R a v b args C r h1 h2 h3 ha h
    have d1 : hgt f + 1 ≤ hgt (.imp f z) := Nat.succ_le_succ (Nat.le_max_left _ _)
    have d2 : hgt z + 1 ≤ hgt (.imp f z) := Nat.succ_le_succ (Nat.le_max_right _ _)
    refine rep_head (n := 6 * hgt (.imp f z) + 11) (vf := 865) (mk := 997) (by kernel_rfl) (by kernel_rfl) (by kernel_rfl) (by kernel_rfl) (by kernel_rfl) C r h1 h2 h3 ha fun cs' fs' f1 f2 A' s' x1 x2 x3 fd x4 x5 x6 fe r' hs hf F1 F2 o1 o2 C => ?_
    obtain ⟨t, u, k, l, C⟩ := C.openImp (hf _ h1)
    refine wpAny_call (callF (n := 6 * hgt (.imp f z) + 11) (binds := [("self", .ref a), ("function", .ref f1), ("combinator", .ref f2)]) ok865 C r' (binds0 (by kernel_rfl)) (by kernel_rfl) (by kernel_rfl) fun L A' s' r' C => ?_)
    walk_at "B"
    kd_p1
    rename_i C
    refine F1 (ihf hn.1) C (by walk_at "w") (by walk_at "w") (r'.le (by kd_p)) (by kd_in) fun q1 s1 C => ?_
    kd_p1
    rename_i C
    refine F1 (ihz hn.2) C (by walk_at "w") (by walk_at "w") (r'.le (by kd_p)) (by kd_in) fun q2 s1 C => ?_
    kd_p1
    rename_i p _ C
    refine F2 (n := 6 * hgt (.imp f z) + 10) C (by walk_at "w") (by walk_at "w") r' fun L1 A1 s1 r1 C => ?_
    refine wpAny_call (callF (n := 6 * hgt (.imp f z) + 9) (binds := [("self", .ref a), ("parts", .ref p)]) ok997 C r1 (binds0 (by kernel_rfl)) (by kernel_rfl) (by kernel_rfl) fun L2 A2 s2 r2 C => ?_)
    have ng_ImpExpression := g_ImpExpression
    walk_at "B"
    kd_p1
    rename_i C
    refine mk_Imp (x1 := sub x y f) (x2 := sub x y z) C (r2.le (by kd_p)) (by kd_in) (by kd_in) fun q s3 C => ?_
    exact h q s3 (C.only (.head _) (by walk_at "s") fun f k => by have := hf f k; kd_in)
  | neg f ihf =>
    intro hn s cs fs A R a v b args C r h1 h2 h3 ha h
    have d1 : hgt f + 1 ≤ hgt (.neg f) := Nat.le_refl _
    refine rep_head (n := 6 * hgt (.neg f) + 11) (vf := 818) (mk := 811) (by kernel_rfl) (by kernel_rfl) (by kernel_rfl) (by kernel_rfl) (by kernel_rfl) C r h1 h2 h3 ha fun cs' fs' f1 f2 A' s' x1 x2 x3 fd x4 x5 x6 fe r' hs hf F1 F2 o1 o2 C => ?_
    obtain ⟨t, k, C⟩ := C.openNeg (hf _ h1)
    refine wpAny_call (callF (n := 6 * hgt (.neg f) + 11) (binds := [("self", .ref a), ("function", .ref f1), ("combinator", .ref f2)]) ok818 C r' (binds0 (by kernel_rfl)) (by kernel_rfl) (by kernel_rfl) fun L A' s' r' C => ?_)
    walk_at "B"
    kd_p1
    rename_i C
    refine F1 (ihf hn) C (by walk_at "w") (by walk_at "w") (r'.le (by kd_p)) (by kd_in) fun q1 s1 C => ?_
    kd_p1
    rename_i p _ C
    refine F2 (n := 6 * hgt (.neg f) + 10) C (by walk_at "w") (by walk_at "w") r' fun L1 A1 s1 r1 C => ?_
    refine wpAny_call (callF (n := 6 * hgt (.neg f) + 9) (binds := [("self", .ref a), ("parts", .ref p)]) ok811 C r1 (binds0 (by kernel_rfl)) (by kernel_rfl) (by kernel_rfl) fun L2 A2 s2 r2 C => ?_)
    have ng_NegatedExpression := g_NegatedExpression
    walk_at "B"
    kd_p1
    rename_i C
    refine mk_Neg (x1 := sub x y f) C (r2.le (by kd_p)) (by kd_in) fun q s3 C => ?_
    exact h q s3 (C.only (.head _) (by walk_at "s") fun f k => by have := hf f k; kd_in)
  | con n => exact fun _ _ _ _ _ _ _ _ _ _ C r h1 h2 h3 ha h => rep_Abs C (r.le (by kd_p)) rfl h1 h2 h3 ha h
  | iv n => exact fun _ _ _ _ _ _ _ _ _ _ C r h1 h2 h3 ha h => rep_Abs C (r.le (by kd_p)) rfl h1 h2 h3 ha h
  | all n f ihf =>
    intro hn s cs fs A R a v b args C r h1 h2 h3 ha h
    have d1 : hgt f + 1 ≤ hgt (.all n f) := Nat.le_refl _
    have hs : sub x y (.all n f) = if n == x then .all n f else .all n (sub x y f) := rfl
    obtain ⟨t, u, k, l, C⟩ := C.openAll h1
    refine callF (n := 6 * hgt (.all n f) + 13) (binds := rbinds a v b) ok634 C r (rb634 C.kin ha) (by kernel_rfl) (by kernel_rfl) fun L A' s' r' C => ?_
    have nb_isinstance := b_isinstance; have ng_Variable := g_Variable; have ng_Expression := g_Expression; have ng_AbstractVariableExpression := g_AbstractVariableExpression; have ng__union := g__union; have ng_unique_variable := g_unique_variable
    walk_at "B"
    kd_p1
    rename_i C
    refine cmp_Var C (r'.le (by kd_p)) (L := L) (by kd_in) (x := n) (y := x) (by kd_in) (by kd_in) fun s' C => ?_
    cases q : n == x with
    | true =>
      rw [q, if_pos rfl] at hs
      kd_p1
      have C : St w S₀ cs (.v (.ref a) (.e (.all n f)) :: fs) s' := (C.weakC (by walk_at "s")).weakF (by walk_at "w")
      rw [← hs] at C
      exact h _ _ C
    | false =>
      rw [q, if_neg Bool.false_ne_true] at hs
      have g1 := repF_tab f
      have p1 := repF_keep f
      kd_p1
      obtain ⟨g2, p2⟩ := freF_tab hyn
      kd_p1
      rename_i C
      refine call_free C (r'.le (by kd_p)) hyn (by kd_in) fun q1 vs s3 C => ?_
      kd_p1
      refine in_K (K := kV) (x := n) (xs := freN y) C (r'.le (by kd_p)) trivial (fun _ _ => trivial) (L := L) (by kd_in) (.inl (by kd_in)) (by kd_in) (by show Fact.v _ (AV.var n) ∈ _; kd_in) fun s4 C => ?_
      rw [not_free hyn hn.1]
      kd_p1
      rename_i C
      refine wpAny_call (ihf hn.2 C (r'.le (by kd_p)) (by kd_in) (by kd_in) (by kd_in) (.inr rfl) fun q2 s5 C => ?_)
      kd_p1
      rename_i C
      refine wpAny_call (callF (n := 6 * hgt (.all n f) + 12) (binds := [("self", .ref a), ("variable", .ref k), ("term", .ref q2)]) ok771 C r' (binds0 (by kernel_rfl)) (by kernel_rfl) (by kernel_rfl) fun L2 A2 s2 r2 C => ?_)
      have ng_AllExpression := g_AllExpression
      walk_at "B"
      kd_p1
      rename_i C
      refine mk_All (x1 := n) (x2 := sub x y f) C (r2.le (by kd_p)) (by kd_in) (by kd_in) fun q s6 C => ?_
      have C : St w S₀ cs (.v (.ref q) (.e (.all n (sub x y f))) :: fs) s6 := (C.weakC (by walk_at "s")).weakF (by walk_at "w")
      rw [← hs] at C
      exact h _ _ C
  | ex n f ihf =>
    intro hn s cs fs A R a v b args C r h1 h2 h3 ha h
    have d1 : hgt f + 1 ≤ hgt (.ex n f) := Nat.le_refl _
    have hs : sub x y (.ex n f) = if n == x then .ex n f else .ex n (sub x y f) := rfl
    obtain ⟨t, u, k, l, C⟩ := C.openEx h1
    refine callF (n := 6 * hgt (.ex n f) + 13) (binds := rbinds a v b) ok634 C r (rb634 C.kin ha) (by kernel_rfl) (by kernel_rfl) fun L A' s' r' C => ?_
    have nb_isinstance := b_isinstance; have ng_Variable := g_Variable; have ng_Expression := g_Expression; have ng_AbstractVariableExpression := g_AbstractVariableExpression; have ng__union := g__union; have ng_unique_variable := g_unique_variable
    walk_at "B"
    kd_p1
    rename_i C
    refine cmp_Var C (r'.le (by kd_p)) (L := L) (by kd_in) (x := n) (y := x) (by kd_in) (by kd_in) fun s' C => ?_
    cases q : n == x with
    | true =>
      rw [q, if_pos rfl] at hs
      kd_p1
      have C : St w S₀ cs (.v (.ref a) (.e (.ex n f)) :: fs) s' := (C.weakC (by walk_at "s")).weakF (by walk_at "w")
      rw [← hs] at C
      exact h _ _ C
    | false =>
      rw [q, if_neg Bool.false_ne_true] at hs
      have g1 := repF_tab f
      have p1 := repF_keep f
      kd_p1
      obtain ⟨g2, p2⟩ := freF_tab hyn
      kd_p1
      rename_i C
      refine call_free C (r'.le (by kd_p)) hyn (by kd_in) fun q1 vs s3 C => ?_
      kd_p1
      refine in_K (K := kV) (x := n) (xs := freN y) C (r'.le (by kd_p)) trivial (fun _ _ => trivial) (L := L) (by kd_in) (.inl (by kd_in)) (by kd_in) (by show Fact.v _ (AV.var n) ∈ _; kd_in) fun s4 C => ?_
      rw [not_free hyn hn.1]
      kd_p1
      rename_i C
      refine wpAny_call (ihf hn.2 C (r'.le (by kd_p)) (by kd_in) (by kd_in) (by kd_in) (.inr rfl) fun q2 s5 C => ?_)
      kd_p1
      rename_i C
      refine wpAny_call (callF (n := 6 * hgt (.ex n f) + 12) (binds := [("self", .ref a), ("variable", .ref k), ("term", .ref q2)]) ok738 C r' (binds0 (by kernel_rfl)) (by kernel_rfl) (by kernel_rfl) fun L2 A2 s2 r2 C => ?_)
      have ng_ExistsExpression := g_ExistsExpression
      walk_at "B"
      kd_p1
      rename_i C
      refine mk_Ex (x1 := n) (x2 := sub x y f) C (r2.le (by kd_p)) (by kd_in) (by kd_in) fun q s6 C => ?_
      have C : St w S₀ cs (.v (.ref q) (.e (.ex n (sub x y f))) :: fs) s6 := (C.weakC (by walk_at "s")).weakF (by walk_at "w")
      rw [← hs] at C
      exact h _ _ C
theorem rep_E {e : E} {s : Shared} {cs : List Cell} {fs : List Fact} {A : Around} {R : Result → Shared → Prop} {a v b : Addr} {x : Str} {y : E} {args : Args} {yn : Str} (hyn : nameE y = some yn) (hn : noCatch y e) (C : St w S₀ cs fs s) (r : Room A (6 * hgt e + 14)) (h1 : Fact.v (.ref a) (.e e) ∈ fs) (h2 : Fact.v (.ref v) (.var x) ∈ fs) (h3 : Fact.v (.ref b) (.e y) ∈ fs)
    (ha : IsArgs args a v b) (h : ∀ q s', St w S₀ cs (.v (.ref q) (.e (sub x y e)) :: fs) s' → R (.ok (.ret (.ref q))) s') : codeAny (model pw w) A (.call (.ref (repF e)) args) R s := rep_OK hyn hn C r h1 h2 h3 ha h
end
section
variable {w : World} {S₀ s : Shared} {cs cs' : List Cell} {fs : List Fact} {A : Around} {E' : Value → Shared → Prop} {Q : Value → Shared → Prop} {env : Env}
theorem addI {a b : Int} {t u : Tok} (C : St w S₀ cs fs s) (h : ∀ t s', St w S₀ cs fs s' → Q (.int (a + b) t) s') : wpAny (model pw w) A (binaryOp .Add (.int a t) (.int b u)) Q E' s := PyProof.Rows.add_int (h _ _ C.tick)
theorem subI {a b : Int} {t u : Tok} (C : St w S₀ cs fs s) (h : ∀ t s', St w S₀ cs fs s' → Q (.int (a - b) t) s') : wpAny (model pw w) A (binaryOp .Sub (.int a t) (.int b u)) Q E' s := PyProof.Rows.sub_int (h _ _ C.tick)
theorem iaddI {a b : Int} {t u : Tok} (C : St w S₀ cs fs s) (h : ∀ t s', St w S₀ cs fs s' → Q (.int (a + b) t) s') : wpAny (model pw w) A (inplaceOp .Add (.int a t) (.int b u)) Q E' s := AutoIntOps.iadd_0 (h _ _ C.tick)
theorem isubI {a b : Int} {t u : Tok} (C : St w S₀ cs fs s) (h : ∀ t s', St w S₀ cs fs s' → Q (.int (a - b) t) s') : wpAny (model pw w) A (inplaceOp .Sub (.int a t) (.int b u)) Q E' s := AutoIntOps.isub_0 (h _ _ C.tick)
theorem truthyL {l : Addr} {vs : List Value} {Q : Bool → Shared → Prop} (C : St w S₀ cs fs s) (hl : Cell.li l vs ∈ cs ∨ Fact.li l vs ∈ fs) (hz : vs.length ≤ 100000) (h : ∀ s', St w S₀ cs fs s' → Q (!vs.isEmpty) s') : wpAny (model pw w) A (truthy (.ref l)) Q E' s :=
  wpAny_truthy_list (C.plain hl).isList (by rw [List.size_toArray]; kd_p) (by
    have e : (!vs.toArray.isEmpty) = !vs.isEmpty := by simp
    rw [e]; exact h _ C.tick)
theorem isN (h : Q (.bool true) s) : wpAny (model pw w) A (compareOp .Is .none .none) Q E' s := PyProof.Rows.is_none_none h
theorem isR {a : Addr} (h : Q (.bool false) s) : wpAny (model pw w) A (compareOp .Is (.ref a) .none) Q E' s := PyProof.Rows.is_ref_none h
theorem isnN (h : Q (.bool false) s) : wpAny (model pw w) A (compareOp .IsNot .none .none) Q E' s := PyProof.Rows.isnot_none_none h
theorem isnR {a : Addr} (h : Q (.bool true) s) : wpAny (model pw w) A (compareOp .IsNot (.ref a) .none) Q E' s := PyProof.Rows.isnot_ref_none h
theorem ltI {a b : Int} {t u : Tok} (h : Q (.bool (decide (a < b))) s) : wpAny (model pw w) A (compareOp .Lt (.int a t) (.int b u)) Q E' s := PyProof.Rows.lt_int h
theorem gtI {a b : Int} {t u : Tok} (h : Q (.bool (decide (b < a))) s) : wpAny (model pw w) A (compareOp .Gt (.int a t) (.int b u)) Q E' s := PyProof.Rows.gt_int h
theorem eqI {a b : Int} {t u : Tok} (h : Q (.bool (a == b)) s) : wpAny (model pw w) A (compareOp .Eq (.int a t) (.int b u)) Q E' s := PyProof.Rows.eq_int h
theorem fmtS {x : Str} {t : Tok} (C : St w S₀ cs fs s) (hz : Nat.ble x.length 1000 = true) (h : ∀ t s', St w S₀ cs fs s' → Q (.str x t) s') : wpAny (model pw w) A (formatField (.str x t) Str.empty) Q E' s :=
  PyProof.Rows.formatField_str (fun _ _ => h _ _ C.tick) (Nat.le_trans (Nat.le_of_ble_eq_true hz) (by decide))
theorem fmtI {a : Int} {t : Tok} (C : St w S₀ cs fs s) (hd : a.natAbs.log2 < 1920) (h : ∀ t s', St w S₀ cs fs s' → Q (.str (toString a) t) s') : wpAny (model pw w) A (formatField (.int a t) Str.empty) Q E' s :=
  PyProof.Rows.formatField_int_small hd (h _ _ C.tick)
theorem joinN {out : Str} (C : St w S₀ cs fs s) (hz : out.length ≤ sizeLine) (h : ∀ t s', St w S₀ cs fs s' → Q (.str out t) s') : wpAny (model pw w) A (joinParts out []) Q E' s := PyProof.Rows.joinParts_nil (h _ _ C.tick) hz
theorem Upd.perm {c c' : Cell} {cs cs' : List Cell} (U : Upd c c' cs cs') : ∃ rest, (c :: rest).Perm cs ∧ cs'.Perm (c' :: rest) := by
  induction U with
  | head => exact ⟨_, .refl _, .refl _⟩
  | tail U ih =>
    obtain ⟨rest, p, q⟩ := ih
    exact ⟨_ :: rest, (List.Perm.swap _ _ _).trans (p.cons _), (q.cons _).trans (List.Perm.swap _ _ _)⟩
theorem St.recell {c c' : Cell} (C : St w S₀ (c :: cs) fs s) (e : c'.a = c.a) (ok : c.ok w.params s.heap → c'.ok w.params s.heap) : St w S₀ (c' :: cs) fs s :=
  C.upd (tk := s.toks) (.head (c' := c')) (Heap.SameBut.refl ..) e (ok (C.cell (.head _)))
noncomputable def cntC (w : World) (d : Addr) (k : Int) : Cell := .pr d fun o => ∃ t u, o = mkD w.params [("_value", t, .int k u)]
noncomputable def dlC (w : World) (d : Addr) (k : Int) : Cell := .pr d fun o => ∃ t u, o = mkD w.params [("looks", t, .int k u)]
theorem St.openCnt {d : Addr} {k : Int} (C : St w S₀ (cntC w d k :: cs) fs s) : ∃ t u, St w S₀ (.di d [("_value", t, .int k u)] :: cs) fs s := by
  obtain ⟨o, e, t, u, rfl⟩ := C.cell (.head _)
  exact ⟨t, u, C.recell rfl fun _ => e⟩
theorem St.closeCnt {d : Addr} {k : Int} {t u : Tok} (C : St w S₀ (.di d [("_value", t, .int k u)] :: cs) fs s) : St w S₀ (cntC w d k :: cs) fs s := C.recell rfl fun h => ⟨_, h, t, u, rfl⟩
theorem St.openDl {d : Addr} {k : Int} (C : St w S₀ (dlC w d k :: cs) fs s) : ∃ t u, St w S₀ (.di d [("looks", t, .int k u)] :: cs) fs s := by
  obtain ⟨o, e, t, u, rfl⟩ := C.cell (.head _)
  exact ⟨t, u, C.recell rfl fun _ => e⟩
theorem St.closeDl {d : Addr} {k : Int} {t u : Tok} (C : St w S₀ (.di d [("looks", t, .int k u)] :: cs) fs s) : St w S₀ (dlC w d k :: cs) fs s := C.recell rfl fun h => ⟨_, h, t, u, rfl⟩
end
noncomputable def zN (k : Int) : Str := (Str.empty ++ ("z" : Str)) ++ Str.ofString (toString k)
noncomputable def decN (x : Str) : Nat := (x.cps.toList.drop 1).foldl (fun n c => n * 10 + (c - 48)) 0
theorem zN_dec : ((List.range 64).all fun k => decN (zN k) == k) = true := by kernel_rfl
theorem zN_ok : ((List.range 64).all fun k => okN (zN k) && ildS (zN k) indL) = true := by kernel_rfl
theorem zN_iv {k : Int} (h0 : 0 ≤ k) (h1 : k < 64) : okN (zN k) = true ∧ varK (zN k) = some (.iv (zN k)) := by
  obtain ⟨n, rfl⟩ := Int.eq_ofNat_of_zero_le h0
  have z := List.all_eq_true.mp zN_ok n (List.mem_range.mpr (by kd_p))
  rw [Bool.and_eq_true] at z
  exact ⟨z.1, by unfold varK; rw [z.2]; rfl⟩
theorem zN_inj {k l : Int} (h0 : 0 ≤ k) (h1 : k < 64) (g0 : 0 ≤ l) (g1 : l < 64) (e : zN k = zN l) : k = l := by
  obtain ⟨n, rfl⟩ := Int.eq_ofNat_of_zero_le h0
  obtain ⟨m, rfl⟩ := Int.eq_ofNat_of_zero_le g0
  have z := beq_iff_eq.mp (List.all_eq_true.mp zN_dec n (List.mem_range.mpr (by kd_p)))
  have z' := beq_iff_eq.mp (List.all_eq_true.mp zN_dec m (List.mem_range.mpr (by kd_p)))
  rw [e, z'] at z
  rw [z]
section
variable {w : World} {S₀ s : Shared} {cs cs' : List Cell} {fs : List Fact} {A : Around} {E' : Value → Shared → Prop} {Q : Value → Shared → Prop} {env : Env}
theorem call_get {c d : Addr} {k : Int} (C : St w S₀ cs fs s) (r : Room A 3) (ho : Fact.ob c (instObj 74 d) ∈ fs) (U : Upd (cntC w d k) (cntC w d (k + 1)) cs cs') (h : ∀ t s', St w S₀ cs' fs s' → Q (.int (k + 1) t) s') :
    wpAny (model pw w) A (call (.ref 71) [.ref c]) Q E' s := by
  obtain ⟨rest, p, p'⟩ := U.perm
  obtain ⟨t, u, C⟩ := (C.permC p).openCnt
  refine wpAny_call (callF (n := 2) (binds := [("self", .ref c)]) ok71 C r (binds0 (by kernel_rfl)) (by kernel_rfl) (by kernel_rfl) fun L A' s' r' C => ?_)
  walk_at "B"
  kd_p1
  rename_i C
  exact h _ _ ((C.drop.closeCnt).permC p')
theorem call_passed {c d : Addr} {k : Int} (C : St w S₀ cs fs s) (r : Room A 3) (ho : Fact.ob c (instObj 45 d) ∈ fs) (U : Upd (dlC w d k) (dlC w d (k - 1)) cs cs') (h : ∀ s', St w S₀ cs' fs s' → Q (.bool (decide (k - 1 < 0))) s') :
    wpAny (model pw w) A (call (.ref 42) [.ref c]) Q E' s := by
  obtain ⟨rest, p, p'⟩ := U.perm
  obtain ⟨t, u, C⟩ := (C.permC p).openDl
  refine wpAny_call (callF (n := 2) (binds := [("self", .ref c)]) ok42 C r (binds0 (by kernel_rfl)) (by kernel_rfl) (by kernel_rfl) fun L A' s' r' C => ?_)
  walk_at "B"
  kd_p1
  rename_i C
  exact h _ ((C.drop.closeDl).permC p')
theorem mk_Cnt (C : St w S₀ cs fs s) (r : Room A 5) (h : ∀ a d s', St w S₀ (cntC w d 0 :: cs) (.ob a (instObj 74 d) :: fs) s' → Q (.ref a) s') : wpAny (model pw w) A (call (.ref 74) []) Q E' s := by
  refine newI C (f := 64) rfl fun x d s' C => ?_
  refine callF (n := 3) (binds := [("self", .ref x), ("initial_value", .int 0 246)]) ok64 C r.made (kp_binds C.kin fun S => by kernel_rfl) (by kernel_rfl) (by kernel_rfl) fun L A' s' r' C => ?_
  walk_at "B"
  kd_p1
  refine ⟨rfl, ?_⟩
  rename_i s' C
  exact h _ _ _ (C.drop.closeCnt)
theorem mk_Dl {k : Int} {t : Tok} (C : St w S₀ cs fs s) (r : Room A 5) (h : ∀ a d s', St w S₀ (dlC w d k :: cs) (.ob a (instObj 45 d) :: fs) s' → Q (.ref a) s') : wpAny (model pw w) A (call (.ref 45) [.int k t]) Q E' s := by
  refine newI C (f := 35) rfl fun x d s' C => ?_
  refine callF (n := 3) (binds := [("self", .ref x), ("looks", .int k t)]) ok35 C r.made (binds0 (by kernel_rfl)) (by kernel_rfl) (by kernel_rfl) fun L A' s' r' C => ?_
  walk_at "B"
  kd_p1
  refine ⟨rfl, ?_⟩
  rename_i s' C
  exact h _ _ _ (C.drop.closeDl)
theorem mk_Debug {k : Int} {t : Tok} (C : St w S₀ cs fs s) (r : Room A 5) (h : ∀ a t' s', St w S₀ cs (.ins a 1435 [("indent", t', .int k t)] :: fs) s' → Q (.ref a) s') : wpAny (model pw w) A (call (.ref 1435) [.int k t]) Q E' s := by
  refine newI C (f := 1425) rfl fun x d s' C => ?_
  refine callF (n := 3) (binds := [("self", .ref x), ("indent", .int k t)]) ok1425 C r.made (kp_binds C.kin fun S => by kernel_rfl) (by kernel_rfl) (by kernel_rfl) fun L A' s' r' C => ?_
  walk_at "B"
  kd_p1
  refine ⟨rfl, ?_⟩
  rename_i s' C
  have C' := (C.drop).asIns (l := _) (x := x) (by kd_in)
  exact h _ _ _ (C'.weakF (List.forall_mem_cons.mpr ⟨.head _, by walk_at "w"⟩))
theorem mk_Debug0 (C : St w S₀ cs fs s) (r : Room A 5) (h : ∀ a t t' s', St w S₀ cs (.ins a 1435 [("indent", t', .int 0 t)] :: fs) s' → Q (.ref a) s') : wpAny (model pw w) A (call (.ref 1435) []) Q E' s := by
  refine newI C (f := 1425) rfl fun x d s' C => ?_
  refine callF (n := 3) (binds := [("self", .ref x), ("indent", .int 0 2220)]) ok1425 C r.made (kp_binds C.kin fun S => by kernel_rfl) (by kernel_rfl) (by kernel_rfl) fun L A' s' r' C => ?_
  walk_at "B"
  kd_p1
  refine ⟨rfl, ?_⟩
  rename_i s' C
  have C' := (C.drop).asIns (l := _) (x := x) (by kd_in)
  exact h _ _ _ _ (C'.weakF (List.forall_mem_cons.mpr ⟨.head _, by walk_at "w"⟩))
theorem code_dbgAdd {b : Addr} {k i : Int} {t t' u : Tok} {R : Result → Shared → Prop} (C : St w S₀ cs fs s) (r : Room A 7) (hb : Fact.ins b 1435 [("indent", t', .int k t)] ∈ fs) (h : ∀ a t t' s', St w S₀ cs (.ins a 1435 [("indent", t', .int (k + 1) t)] :: fs) s' → R (.ok (.ret (.ref a))) s') :
    codeAny (model pw w) A (.call (.ref 1432) ⟨[.ref b, .int i u], []⟩) R s := by
  refine callF (n := 6) (binds := [("self", .ref b), ("increment", .int i u)]) ok1432 C r (binds0 (by kernel_rfl)) (by kernel_rfl) (by kernel_rfl) fun L A' s' r' C => ?_
  have ng_Debug := g_Debug
  walk_at "B"
  kd_p1
  rename_i C
  exact mk_Debug C (r'.le (by kd_p)) fun a t' s' C => h _ _ _ _ ((C.weakC (by walk_at "s")))
theorem code_neg {a : Addr} {x : E} {R : Result → Shared → Prop} (C : St w S₀ cs fs s) (r : Room A 7) (h1 : Fact.v (.ref a) (.e x) ∈ fs) (h : ∀ q s', St w S₀ cs (.v (.ref q) (.e (.neg x)) :: fs) s' → R (.ok (.ret (.ref q))) s') :
    codeAny (model pw w) A (.call (.ref 232) ⟨[.ref a], []⟩) R s := by
  refine callF (n := 6) (binds := [("self", .ref a)]) ok232 C r (binds0 (by kernel_rfl)) (by kernel_rfl) (by kernel_rfl) fun L A' s' r' C => ?_
  have ng_NegatedExpression := g_NegatedExpression
  walk_at "B"
  kd_p1
  rename_i C
  exact mk_Neg C (r'.le (by kd_p)) h1 fun q s' C => h _ _ (C.weakC (by walk_at "s"))
theorem perm_of_mem {c : Cell} {cs : List Cell} (h : c ∈ cs) : ∃ rest, (c :: rest).Perm cs := by
  obtain ⟨a, b, rfl⟩ := List.append_of_mem h
  exact ⟨a ++ b, List.perm_middle.symm⟩
theorem gmCnt {c d : Addr} {k : Int} {pl : Sem Bool} {Q : Value × List Value → Shared → Prop} (C : St w S₀ cs fs s) (ho : Fact.ob c (instObj 74 d) ∈ fs) (hm : cntC w d k ∈ cs) (h : Q (.ref 71, [.ref c]) s) : wpAny (model pw w) A (getMethod (.ref c) "get" pl) Q E' s := by
  obtain ⟨rest, p⟩ := perm_of_mem hm
  obtain ⟨t, u, C⟩ := (C.permC p).openCnt
  exact gmI C (isI2 ho (.head _)) rfl rfl h
theorem gmDl {c d : Addr} {k : Int} {pl : Sem Bool} {Q : Value × List Value → Shared → Prop} (C : St w S₀ cs fs s) (ho : Fact.ob c (instObj 45 d) ∈ fs) (hm : dlC w d k ∈ cs) (h : Q (.ref 42, [.ref c]) s) : wpAny (model pw w) A (getMethod (.ref c) "passed" pl) Q E' s := by
  obtain ⟨rest, p⟩ := perm_of_mem hm
  obtain ⟨t, u, C⟩ := (C.permC p).openDl
  exact gmI C (isI2 ho (.head _)) rfl rfl h
theorem while_no {test : Expr} {body : List Stmt} {pos : Pos} {Q : Flow → Shared → Prop} (h : ∀ E, wpAny (model pw w) A (isTrue test env (eval test env)) (fun b s₂ => b = false ∧ Q .next s₂) E s) : wpAny (model pw w) A (exec (.While test body [] pos) env) Q E' s := by
  refine wpAny_While (codeAny_whileLoop (fun _ s' => s' = s) (fun n s' e => ?_) 0 rfl)
  subst e
  refine wpAny_mono (h _) (fun b s₂ h₂ => ?_) fun _ _ e => e
  rw [h₂.1]
  exact wpAny_execs_nil h₂.2
theorem zN_len {k : Int} (h0 : 0 ≤ k) (h1 : k < 64) : (zN k).length ≤ sizeLine := by
  have z := (zN_iv h0 h1).1
  unfold okN at z
  rw [Bool.and_eq_true] at z
  exact Nat.le_trans (Nat.le_of_ble_eq_true z.2) (by decide)
theorem code_uniq {c d : Addr} {k : Int} {R : Result → Shared → Prop} {args : Args} (C : St w S₀ cs fs s) (r : Room A 8) (hargs : BindsTo s F166 args [("pattern", .none), ("ignore", .none), ("counter", .ref c)]) (ho : Fact.ob c (instObj 74 d) ∈ fs) (U : Upd (cntC w d k) (cntC w d (k + 1)) cs cs') (h0 : 0 ≤ k) (h1 : k < 60)
    (h : ∀ q s', St w S₀ cs' (.v (.ref q) (.var (zN (k + 1))) :: fs) s' → R (.ok (.ret (.ref q))) s') :
    codeAny (model pw w) A (.call (.ref 166) args) R s := by
  refine callF (n := 7) (binds := [("pattern", .none), ("ignore", .none), ("counter", .ref c)]) ok166 C r hargs (by kernel_rfl) (by kernel_rfl) fun L A' s' r' C => ?_
  have ng_Variable := g_Variable; have ng_is_indvar := g_is_indvar; have ng_Counter := g_Counter; have ng_is_funcvar := g_is_funcvar; have ng_is_eventvar := g_is_eventvar
  walk_at "B"
  kd_p1
  rename_i C
  refine fmtS C (by kernel_rfl) fun t s1 C => ⟨by decide, ?_⟩
  kd_p1
  rename_i C
  refine gmCnt C ho (.tail _ U.mem) ?_
  kd_p1
  refine call_get C (r'.le (by kd_p)) ho (.tail U) fun t s1 C => ?_
  kd_p1
  refine fmtI C ?_ fun t s1 C => ⟨zN_len (k := k + 1) (by kd_p) (by kd_p), ?_⟩
  · obtain ⟨n, rfl⟩ := Int.eq_ofNat_of_zero_le h0
    have : ((n : Int) + 1).natAbs = n + 1 := rfl
    rw [this]
    exact Nat.lt_of_lt_of_le (Nat.log2_lt (by kd_p) |>.mpr (Nat.lt_of_lt_of_le (show n + 1 < 2 ^ 6 by kd_p) (Nat.pow_le_pow_right (by decide) (Nat.le_refl _)))) (by decide)
  refine joinN C (zN_len (k := k + 1) (by kd_p) (by kd_p)) fun t s1 C => ?_
  kd_p1
  rename_i C
  refine mk_Var C (r'.le (by kd_p)) fun q s1 C => ?_
  kd_p1
  refine while_no fun E => ?_
  kd_p1
  rename_i C
  exact h _ _ (C.weakC (by walk_at "s"))
end
theorem prop_ok (P : Params) : (findIn (KK P) (.ref 451) "args" == some (some (.ref 441)) && specialIn (KK P) (.ref 441) "__get__" == some (some (.builtin "property.__get__")) && takesIn (KK P) (.ref 441) == some true) = true := by kernel_rfl
theorem prop_hd (P : Params) : (recIn (KK P) 441 "property").bind List.head? = some (.ref 440) := by kernel_rfl
theorem sm_ok (P : Params) : (specialIn (KK P) (.ref 1311) "__getattribute__" == some (some (.builtin "type.__getattribute__")) && readsIn (KK P) 1311 (.type "type")) = true := by kernel_rfl
theorem sm_hd (P : Params) : (recIn (KK P) 1307 "staticmethod").bind List.head? = some (.ref 1305) := by kernel_rfl
theorem hd_of {α : Type} {o : Option (List α)} {x : α} (h : o.bind List.head? = some x) : ∃ r, o = some (x :: r) := by
  cases o with
  | none => cases h
  | some l => cases l with
    | nil => cases h
    | cons y r => cases h; exact ⟨r, rfl⟩
theorem sm_ok2 (P : Params) : findCls (KK P) (.ref 1311) (.type "type") "is_atom" = some (.get (.builtin "staticmethod.__get__") (.ref 1307) .none (.ref 1311)) := by kernel_rfl
noncomputable def argsE : E → List E
  | .app f x => argsE f ++ [x]
  | _ => []
section
variable {w : World} {S₀ s : Shared} {cs cs' : List Cell} {fs : List Fact} {A : Around} {E' : Value → Shared → Prop} {Q : Value → Shared → Prop} {env : Env} {R : Result → Shared → Prop}
theorem insL {a : Addr} {vs : List Value} {x : Value} {u : Tok} (C : St w S₀ cs fs s) (U : Upd (.li a vs) (.li a (x :: vs)) cs cs') (hz : vs.length ≤ 100000) (h : ∀ s', St w S₀ cs' fs s' → Q .none s') :
    wpAny (model pw w) A (call (.builtin "list.insert") [.ref a, .int 0 u, x]) Q E' s := by
  have hl := C.cell U.mem
  obtain ⟨n, e⟩ := hl
  refine call_meets F.slot_list_insert ⟨_, e, rfl⟩ F.entry_list_insert (F.args_list_insert_3 _ _ _) (AutoListH.list_insert_list_int_val_1 a vs.toArray n 0 u x (by decide) (Nat.le_trans (by rw [List.size_toArray]; exact hz) (by decide))) ⟨e, ?_⟩
  refine h _ (C.upd (tk := s.toks) U (Heap.SameBut.update ..) rfl ?_)
  have e2 : ∀ o : Obj, o = { cls := .type "list", data := .seq vs.toArray n } → (Obj.mapSeq (fun xs => have k := if (0 : Int) < 0 then ((0 : Int) + ((xs.size : Nat) : Int)).toNat else min (0 : Int).toNat xs.size; (xs.extract 0 k).push x ++ xs.extract k) o) = { cls := .type "list", data := .seq (x :: vs).toArray (n + 1) } := by
    intro o ho; subst ho
    simp [Obj.mapSeq]
  exact ⟨_, by rw [Heap.get?_update_self _ e (by rw [e2 _ rfl]; rfl), e2 _ rfl]⟩
theorem gmIns {a : Addr} {vs : List Value} {pl : Sem Bool} {Q : Value × List Value → Shared → Prop} (C : St w S₀ cs fs s) (hl : Cell.li a vs ∈ cs) (h : Q (.builtin "list.insert", [.ref a]) s) : wpAny (model pw w) A (getMethod (.ref a) "insert" pl) Q E' s := by
  obtain ⟨n, e⟩ := C.cell hl
  exact PyProof.Rows.getMethod_list_of F.slot_list_insert F.type_list_insert ⟨_, e, rfl, n, rfl⟩ ⟨_, e, rfl⟩ h
theorem atArgs {a : Addr} {l : Flds} {ex : Bool} (C : St w S₀ cs fs s) (hi : IsI cs fs a 451 l) (h : ∀ s', St w S₀ cs fs s' → codeAny (model pw w) A.in1 (.call (.ref 440) ⟨[.ref a], []⟩) (fun r s' => match r with | .ok (.ret v) => handedIn v = true ∧ Q v s' | _ => False) s') :
    wpAny (model pw w) A (getAttr (.ref a) "args" ex) Q E' s := by
  have z := prop_ok w.params
  rw [Bool.and_eq_true, Bool.and_eq_true] at z
  have z1 := beq_iff_eq.mp z.1.1
  have z2 := beq_iff_eq.mp z.1.2
  have z3 := beq_iff_eq.mp z.2
  obtain ⟨rest, hp⟩ := hd_of (prop_hd w.params)
  obtain ⟨ox, _, I⟩ := C.inst hi
  have c := cT (P := w.params) (D := 451) rfl
  have X := C.kin
  refine get_bind X I (plainGet_of (name := "") c.get).1 (findObj_data (by obtain ⟨cd, hc, _⟩ := any_some (show (clsIn (KK w.params) 451).any (·.hasDict) = true from c.dct); rw [hc]; rfl) z1 z2 z3) (plainGet_of (name := "") c.get).2 (wpAny_call (prop_get (s := { s with toks := s.toks + 1 }) X hp ?_))
  refine codeAny_mono (h _ C.tick) fun r s' k => ?_
  cases r with
  | ok f => cases f with
    | ret v => exact handed_on k.1 k.2
    | _ => exact k
  | error e => exact k.elim
theorem gmIsAtom {pl : Sem Bool} {Q : Value × List Value → Shared → Prop} (C : St w S₀ cs fs s) (h : ∀ s', St w S₀ cs fs s' → Q (.ref 1305, []) s') : wpAny (model pw w) A (getMethod (.ref 1311) "is_atom" pl) Q E' s := by
  have z := sm_ok w.params
  rw [Bool.and_eq_true] at z
  obtain ⟨rest, hp⟩ := hd_of (sm_hd w.params)
  have X := C.kin
  exact method_cls X (beq_iff_eq.mp z.1) (cls_bind X z.2 (sm_ok2 w.params) (wpAny_call (sm_get (s := { s with toks := s.toks + 1 }) X hp (handed_on rfl (h _ C.tick)))))
theorem atCat {n : Str} {k : Int} {ex : Bool} (C : St w S₀ cs fs s) (hk : catTab.lookup n = some k) (h : ∀ t s', St w S₀ cs fs s' → Q (.int k t) s') : wpAny (model pw w) A (getAttr (.ref 1449) n ex) Q E' s := by
  have z := catTab_ok w.params
  rw [Bool.and_eq_true] at z
  have z2 := List.all_eq_true.mp z.2 _ (lookup_mem hk)
  unfold isCat at z2
  split at z2
  · rename_i i t e
    have := beq_iff_eq.mp z2
    dsimp only at this
    subst this
    exact cls_value C.kin z.1 e rfl (h _ _ C.tick)
  · cases z2
theorem whileW {test : Expr} {body : List Stmt} {pos : Pos} {Q : Flow → Shared → Prop} (I : Nat → List Cell → List Fact → Prop) (n : Nat) (h0 : I n cs fs) (C : St w S₀ cs fs s)
    (turn : ∀ (n : Nat) (cs : List Cell) (fs : List Fact) (s : Shared) (E : Value → Shared → Prop), I n cs fs → St w S₀ cs fs s → wpAny (model pw w) A (isTrue test env (eval test env)) (fun b s₂ =>
      if b = true then wpAny (model pw w) A (execs body env) (fun f s₃ => match f with | .next | .cont => ∃ m cs fs, m < n ∧ I m cs fs ∧ St w S₀ cs fs s₃ | .brk => Q .next s₃ | .ret v => Q (.ret v) s₃) E s₂ else Q .next s₂) E s) :
    wpAny (model pw w) A (exec (.While test body [] pos) env) Q E' s := by
  refine wpAny_While (codeAny_whileLoop (fun n s' => ∃ cs fs, I n cs fs ∧ St w S₀ cs fs s') (fun n s' h => ?_) n ⟨cs, fs, h0, C⟩)
  obtain ⟨cs, fs, hI, C⟩ := h
  refine wpAny_mono (turn n cs fs s' _ hI C) (fun b s₂ h₂ => ?_) fun _ _ e => e
  cases b with
  | false => exact wpAny_execs_nil h₂
  | true =>
    refine wpAny_mono h₂ (fun f s₃ h₃ => ?_) fun _ _ e => e
    cases f with
    | next => obtain ⟨m, cs, fs, hm, hI, C⟩ := h₃; exact ⟨m, hm, cs, fs, hI, C⟩
    | cont => obtain ⟨m, cs, fs, hm, hI, C⟩ := h₃; exact ⟨m, hm, cs, fs, hI, C⟩
    | brk => exact h₃
    | ret v => exact h₃
theorem St.consL (C : St w S₀ cs fs s) {vs : List Value} {as : List AV} {v : Value} {a : AV} (h : Fact.l vs as ∈ fs) (k : Fact.v v a ∈ fs) : St w S₀ cs (.l (v :: vs) (a :: as) :: fs) s := C.fact fun g Y => by
  exact relL1 (Y _ k) (Y _ h)
inductive UN (L l' : Addr) (e0 : List E) (F : List Fact) (cs : List Cell) (n : Nat) (cs' : List Cell) (fs' : List Fact) : Prop
  | mk (m : List (Str × Value)) (vs : List Value) (cur : Addr) (ec : E) (acc : List E) (hc : cs' = .li l' vs :: .ns L m :: cs) (h1 : m.lookup ("function" : Str) = some (.ref cur)) (h2 : m.lookup ("args" : Str) = some (.ref l')) (h3 : Fact.v (.ref cur) (.e ec) ∈ fs') (h4 : Fact.l vs (acc.map AV.e) ∈ fs') (h5 : ∀ g ∈ F, g ∈ fs') (h6 : e0 = argsE ec ++ acc) (h7 : depE ec = n) (h8 : vs.length + n ≤ 200)
theorem call_uncurry {a : Addr} {e : E} (C : St w S₀ cs fs s) (r : Room A 4) (he : ∃ f x, e = .app f x) (hd : depE e ≤ 100) (h1 : Fact.v (.ref a) (.e e) ∈ fs)
    (h : ∀ p q l vs s', St w S₀ (.li l vs :: cs) (.ob p (tupObj [q, .ref l]) :: .l vs ((argsE e).map .e) :: fs) s' → Q (.ref p) s') : wpAny (model pw w) A (call (.ref 425) [.ref a]) Q E' s := by
  obtain ⟨f, x, rfl⟩ := he
  obtain ⟨t, u, k, l, C⟩ := C.openApp h1
  refine wpAny_call (callF (n := 3) (binds := [("self", .ref a)]) ok425 C r (binds0 (by kernel_rfl)) (by kernel_rfl) (by kernel_rfl) fun L A' s' r' C => ?_)
  have nb_isinstance := b_isinstance; have ng_ApplicationExpression := g_ApplicationExpression
  walk_at "B"
  kd_p1
  rename_i l' _ C0 _ C
  have C := (C.nilL).consL (v := .ref l) (a := .e x) (.head _) (by kd_in)
  let __I : Nat → List Cell → List Fact → Prop := UN L l' (argsE (.app f x)) fs cs
  refine whileW (I := __I) (depE f) ⟨_, [.ref l], k, f, [x], rfl, rfl, rfl, by kd_in, .head _, by walk_at "w", rfl, rfl, ?_⟩ C ?_
  · have : depE f + 1 ≤ depE (.app f x) := Nat.succ_le_succ (Nat.le_max_left _ _)
    simp only [List.length_cons, List.length_nil]; kd_p
  · intro n cs' fs' s2 E2 hI C
    walk_at "k"
    obtain ⟨m, vs, cur, ec, acc, hc0, hm1, hm2, hcur, hvs, hfs, harg, hdep, hlen⟩ := hI
    rw [hc0] at C
    kd_p1
    rename_i C
    refine isiE C hcur (by exact rfl) fun s3 C => ?_
    cases hc : (ups ec).contains 451 with
    | false =>
      kd_p1
      rename_i C
      have ea : argsE ec = [] := by cases ec <;> first | rfl | cases hc
      rw [ea, List.nil_append] at harg
      refine h _ _ l' vs _ ((C.permC (List.Perm.swap _ _ _)).drop.weakF (List.forall_mem_cons.mpr ⟨.head _, List.forall_mem_cons.mpr ⟨?_, fun g hg => .tail _ (hfs g hg)⟩⟩))
      rw [harg]
      kd_in
    | true =>
      obtain ⟨g, y, rfl⟩ : ∃ g y, ec = .app g y := by cases ec <;> first | exact ⟨_, _, rfl⟩ | cases hc
      obtain ⟨t', u', k', y', C⟩ := C.openApp hcur
      have d1 : depE g + 1 ≤ depE (.app g y) := Nat.succ_le_succ (Nat.le_max_left _ _)
      have hz : vs.length ≤ 100000 := by kd_p
      kd_p1
      try refine gmIns (by assumption) (by kd_in) ?_
      kd_p1
      try refine insL (by assumption) (by walk_at "u") hz fun s4 C => ?_
      kd_p1
      rename_i C
      refine ⟨depE g, _, _, by kd_p, ⟨("function", .ref k') :: m, _, k', g, y :: acc, rfl, rfl, hm2, ?_, ?_, ?_, ?_, rfl, ?_⟩, C.consL (v := .ref y') (a := .e y) (vs := vs) (as := acc.map .e) (by kd_in) (by kd_in)⟩
      · kd_in
      · exact .head _
      · intro g hg; have := hfs g hg; kd_in
      · rw [harg]; simp [argsE]
      · simp only [List.length_cons]; kd_p
theorem isiT {a D Cl : Addr} {l : Flds} {up : List Addr} (C : St w S₀ cs fs s) (hi : IsI cs fs a D l) (ht : isaT.lookup D = some up) (ha : askT.contains Cl = true) (hc : cTab.contains D = true) (hu : up.contains Cl = true) (h : ∀ s', St w S₀ cs fs s' → Q (.bool true) s') :
    wpAny (model pw w) A (call (.builtin "isinstance") [.ref a, .ref Cl]) Q E' s := isiI C hi ht ha (fun s' C => by rw [hu]; exact h s' C) hc
theorem isiF {a D Cl : Addr} {l : Flds} {up : List Addr} (C : St w S₀ cs fs s) (hi : IsI cs fs a D l) (ht : isaT.lookup D = some up) (ha : askT.contains Cl = true) (hc : cTab.contains D = true) (hu : up.contains Cl = false) (h : ∀ s', St w S₀ cs fs s' → Q (.bool false) s') :
    wpAny (model pw w) A (call (.builtin "isinstance") [.ref a, .ref Cl]) Q E' s := isiI C hi ht ha (fun s' C => by rw [hu]; exact h s' C) hc
end
section
variable {w : World} {S₀ s : Shared} {cs cs' : List Cell} {fs : List Fact} {A : Around} {E' : Value → Shared → Prop} {Q : Value → Shared → Prop} {env : Env} {R : Result → Shared → Prop}
theorem getArgs {a : Addr} {e : E} {ex : Bool} (C : St w S₀ cs fs s) (r : Room A 7) (he : ∃ f x, e = .app f x) (hd : depE e ≤ 100) (h1 : Fact.v (.ref a) (.e e) ∈ fs)
    (h : ∀ l vs s', St w S₀ (.li l vs :: cs) (.l vs ((argsE e).map .e) :: fs) s' → Q (.ref l) s') : wpAny (model pw w) A (getAttr (.ref a) "args" ex) Q E' s := by
  obtain ⟨f, x, rfl⟩ := he
  obtain ⟨t, u, k, l, C⟩ := C.openApp h1
  refine atArgs C (.inl (.head _)) fun s' C => ?_
  refine callF (n := 5) (binds := [("self", .ref a)]) ok440 C r.in1 (binds0 (by kernel_rfl)) (by kernel_rfl) (by kernel_rfl) fun L A' s' r' C => ?_
  walk_at "B"
  kd_p1
  rename_i C
  refine call_uncurry C (r'.le (by kd_p)) ⟨f, x, rfl⟩ hd (by kd_in) fun p q l' vs s' C => ?_
  kd_p1
  rename_i C
  exact h l' vs _ ((C.permC (List.Perm.swap _ _ _)).drop.weakF (by walk_at "w"))
theorem isAtom_name {a : Addr} {e : E} {n : Str} (C : St w S₀ cs fs s) (r : Room A 5) (he : nameE e = some n) (h1 : Fact.v (.ref a) (.e e) ∈ fs) (h : ∀ s', St w S₀ cs fs s' → Q (.bool true) s') : wpAny (model pw w) A (call (.ref 1305) [.ref a]) Q E' s := by
  refine wpAny_call (callF (n := 4) (binds := [("e", .ref a)]) ok1305 C r (binds0 (by kernel_rfl)) (by kernel_rfl) (by kernel_rfl) fun L A' s' r' C => ?_)
  have nb_isinstance := b_isinstance; have ng_NegatedExpression := g_NegatedExpression; have ng_ApplicationExpression := g_ApplicationExpression; have ng_AbstractVariableExpression := g_AbstractVariableExpression; have ng_LambdaExpression := g_LambdaExpression; have ng_TableauProver := g_TableauProver
  walk_at "B"
  cases e with
  | con n =>
    obtain ⟨t, v, C⟩ := C.openCon h1
    kd_p1
    rename_i C
    exact h _ ((C.weakC (by walk_at "s")).weakF (by walk_at "w"))
  | iv n =>
    obtain ⟨t, v, C⟩ := C.openIv h1
    kd_p1
    rename_i C
    exact h _ ((C.weakC (by walk_at "s")).weakF (by walk_at "w"))
  | _ => cases he
noncomputable def atomE (e : E) : Prop := (∃ f x, e = .app f x) ∧ okE e ∧ ∀ x ∈ argsE e, ∃ n, nameE x = some n
inductive IA (L l' : Addr) (vs : List Value) (as : List AV) (F : List Fact) (cs : List Cell) (_ : Nat) (cs' : List Cell) (fs' : List Fact) : Prop
  | mk (m : List (Str × Value)) (hc : cs' = .li l' vs :: .ns L m :: cs) (hf : ∀ g ∈ F, g ∈ fs') (hv : Fact.l vs as ∈ fs')
theorem isAtom_app {a : Addr} {e : E} (C : St w S₀ cs fs s) (r : Room A 9) (he : atomE e) (h1 : Fact.v (.ref a) (.e e) ∈ fs) (h : ∀ s', St w S₀ cs fs s' → Q (.bool true) s') : wpAny (model pw w) A (call (.ref 1305) [.ref a]) Q E' s := by
  obtain ⟨⟨f, x, rfl⟩, hok, hargs⟩ := he
  refine wpAny_call (callF (n := 8) (binds := [("e", .ref a)]) ok1305 C r (binds0 (by kernel_rfl)) (by kernel_rfl) (by kernel_rfl) fun L A' s' r' C => ?_)
  have nb_isinstance := b_isinstance; have ng_NegatedExpression := g_NegatedExpression; have ng_ApplicationExpression := g_ApplicationExpression; have ng_AbstractVariableExpression := g_AbstractVariableExpression; have ng_LambdaExpression := g_LambdaExpression; have ng_TableauProver := g_TableauProver
  walk_at "B"
  obtain ⟨t, u, k, l, C⟩ := C.openApp h1
  kd_p1
  rename_i C
  refine getArgs C (r'.le (by kd_p)) ⟨f, x, rfl⟩ (by have := hok.2; kd_p) (by kd_in) fun l' vs s2 C => ?_
  kd_p1
  rename_i it s3 C
  let __I : Nat → List Cell → List Fact → Prop := IA L l' vs ((argsE (.app f x)).map kE.av) fs cs
  refine forW (I := __I) (drwL (vs := vs) r'.hand) ?_ ⟨_, rfl, (by walk_at "w"), .head _⟩ C ?_ ?_
  · intro i cs' fs' hI
    obtain ⟨m, hc, _⟩ := hI
    rw [hc]
    exact ⟨.inl (.head _), _, .head _⟩
  · intro i v cs' fs' s4 E4 hi hv hI C
    walk_at "k"
    obtain ⟨m, hc, hfs, hvs⟩ := hI
    replace C := C.eq1 hc
    obtain ⟨y, hy, C⟩ := C.itemOf hvs hv
    obtain ⟨n, hn⟩ := hargs y (List.mem_of_getElem? hy)
    obtain ⟨b, rfl⟩ := C.ref (.head _)
    refine wpAny_pure ?_
    kd_p1
    rename_i C
    refine isAtom_name C (r'.le (by kd_p)) hn (.head _) fun s5 C => ?_
    kd_p1
    rename_i C
    exact ⟨_, _, ⟨_, rfl, (by intro g hg; have := hfs g hg; kd_in), .tail _ hvs⟩, C⟩
  · intro cs' fs' s4 hI C
    walk_at "k"
    obtain ⟨m, hc, hfs, hvs⟩ := hI
    rw [hc] at C
    kd_p1
    rename_i C
    exact h _ ((C.weakC (by walk_at "s")).weakF hfs)
theorem isAtom_no {a D : Addr} {l : Flds} (C : St w S₀ cs fs s) (r : Room A 3) (hi : IsI cs fs a D l) (hD : D = 788 ∨ D = 755 ∨ D = 941 ∨ D = 981 ∨ D = 1014) (h : ∀ s', St w S₀ cs fs s' → Q (.bool false) s') : wpAny (model pw w) A (call (.ref 1305) [.ref a]) Q E' s := by
  refine wpAny_call (callF (n := 2) (binds := [("e", .ref a)]) ok1305 C r (binds0 (by kernel_rfl)) (by kernel_rfl) (by kernel_rfl) fun L A' s' r' C => ?_)
  have nb_isinstance := b_isinstance; have ng_NegatedExpression := g_NegatedExpression; have ng_ApplicationExpression := g_ApplicationExpression; have ng_AbstractVariableExpression := g_AbstractVariableExpression; have ng_LambdaExpression := g_LambdaExpression; have ng_TableauProver := g_TableauProver
  walk_at "B"
  have hi' : IsI (.ns L [(("e" : Str), Value.ref a)].reverse :: cs) fs a D l := hi.imp id fun ⟨d, x, y⟩ => ⟨d, x.imp id (.tail _), y.imp (.tail _) id⟩
  obtain ⟨up, u0, u1, u2, u3, u4, u5⟩ : ∃ up, isaT.lookup D = some up ∧ cTab.contains D = true ∧ up.contains 842 = false ∧ up.contains 451 = false ∧ up.contains 513 = false ∧ up.contains 703 = false := by
    rcases hD with rfl | rfl | rfl | rfl | rfl <;> exact ⟨_, rfl, rfl, rfl, rfl, rfl, rfl⟩
  kd_p1
  refine isiF (by assumption) hi' u0 (by exact rfl) u1 u2 fun s' C => ?_
  kd_p1
  refine isiF (by assumption) hi' u0 (by exact rfl) u1 u3 fun s' C => ?_
  kd_p1
  refine isiF (by assumption) hi' u0 (by exact rfl) u1 u4 fun s' C => ?_
  kd_p1
  refine isiF (by assumption) hi' u0 (by exact rfl) u1 u5 fun s' C => ?_
  kd_p1
  rename_i C
  exact h _ C.drop
end
noncomputable def wfE : E → Prop
  | .con _ => False | .iv _ => False
  | .app f x => atomE (.app f x)
  | .neg t => wfE t
  | .and a b => wfE a ∧ wfE b | .or a b => wfE a ∧ wfE b | .imp a b => wfE a ∧ wfE b
  | .all _ t => wfE t | .ex _ t => wfE t
noncomputable def catE : E → Int
  | .neg (.neg _) => 7 | .neg (.app _ _) => 2 | .neg (.all _ _) => 8 | .neg (.and _ _) => 15 | .neg (.or _ _) => 11 | .neg (.imp _ _) => 12 | .neg (.ex _ _) => 9 | .neg _ => 2
  | .app _ _ => 0 | .all _ _ => 20 | .and _ _ => 10 | .or _ _ => 13 | .imp _ _ => 14 | .ex _ _ => 19 | _ => 0
section
variable {w : World} {S₀ s : Shared} {cs cs' : List Cell} {fs : List Fact} {A : Around} {E' : Value → Shared → Prop} {Q : Value → Shared → Prop} {env : Env} {R : Result → Shared → Prop}
theorem catNeg {a ag : Addr} {t : E} (C : St w S₀ cs fs s) (r : Room A 11) (hw : wfE t) (h1 : Fact.v (.ref a) (.e (.neg t)) ∈ fs) (h : ∀ u s', St w S₀ cs fs s' → Q (.int (catE (.neg t)) u) s') : wpAny (model pw w) A (call (.ref 1403) [.ref ag, .ref a]) Q E' s := by
  refine wpAny_call (callF (n := 10) (binds := [("self", .ref ag), ("current", .ref a)]) ok1403 C r (binds0 (by kernel_rfl)) (by kernel_rfl) (by kernel_rfl) fun L A' s' r' C => ?_)
  have nb_isinstance := b_isinstance; have ng_NegatedExpression := g_NegatedExpression; have nc_D_NEG := c_D_NEG; have ng_Categories := g_Categories; have ng_FunctionVariableExpression := g_FunctionVariableExpression; have nc_N_PROP := c_N_PROP; have nc_N_ATOM := c_N_ATOM; have ng_TableauProver := g_TableauProver; have ng_AllExpression := g_AllExpression; have nc_N_ALL := c_N_ALL; have ng_AndExpression := g_AndExpression; have nc_N_AND := c_N_AND; have ng_OrExpression := g_OrExpression; have nc_N_OR := c_N_OR; have ng_ImpExpression := g_ImpExpression; have nc_N_IMP := c_N_IMP; have ng_IffExpression := g_IffExpression; have nc_N_IFF := c_N_IFF; have ng_EqualityExpression := g_EqualityExpression; have nc_N_EQ := c_N_EQ; have ng_ExistsExpression := g_ExistsExpression; have nc_N_EXISTS := c_N_EXISTS; have ng_ApplicationExpression := g_ApplicationExpression; have nc_N_APP := c_N_APP
  walk_at "B"
  obtain ⟨k, b, C⟩ := C.openNeg h1
  cases t with
  | con n => exact hw.elim
  | iv n => exact hw.elim
  | neg t =>
    obtain ⟨k, b', C⟩ := C.openNeg (a := b) (.tail _ (.head _))
    kd_p1
    rename_i C
    exact h _ _ ((C.weakC (by walk_at "s")).weakF (by walk_at "w"))
  | app f x =>
    obtain ⟨k1, k2, k3, k4, C⟩ := C.openApp (a := b) (.tail _ (.head _))
    kd_p1
    rename_i C
    refine isAtom_app C (r'.le (by kd_p)) hw (by kd_in) fun s2 C => ?_
    kd_p1
    rename_i C
    exact h _ _ ((C.weakC (by walk_at "s")).weakF (by walk_at "w"))
  | and f x =>
    obtain ⟨k1, k2, k3, k4, C⟩ := C.openAnd (a := b) (.tail _ (.head _))
    kd_p1
    rename_i C
    refine isAtom_no C (r'.le (by kd_p)) (.inl (by kd_in)) (by simp) fun s2 C => ?_
    kd_p1
    rename_i C
    exact h _ _ ((C.weakC (by walk_at "s")).weakF (by walk_at "w"))
  | or f x =>
    obtain ⟨k1, k2, k3, k4, C⟩ := C.openOr (a := b) (.tail _ (.head _))
    kd_p1
    rename_i C
    refine isAtom_no C (r'.le (by kd_p)) (.inl (by kd_in)) (by simp) fun s2 C => ?_
    kd_p1
    rename_i C
    exact h _ _ ((C.weakC (by walk_at "s")).weakF (by walk_at "w"))
  | imp f x =>
    obtain ⟨k1, k2, k3, k4, C⟩ := C.openImp (a := b) (.tail _ (.head _))
    kd_p1
    rename_i C
    refine isAtom_no C (r'.le (by kd_p)) (.inl (by kd_in)) (by simp) fun s2 C => ?_
    kd_p1
    rename_i C
    exact h _ _ ((C.weakC (by walk_at "s")).weakF (by walk_at "w"))
  | all n f =>
    obtain ⟨k1, k2, k3, k4, C⟩ := C.openAll (a := b) (.tail _ (.head _))
    kd_p1
    rename_i C
    refine isAtom_no C (r'.le (by kd_p)) (.inl (by kd_in)) (by simp) fun s2 C => ?_
    kd_p1
    rename_i C
    exact h _ _ ((C.weakC (by walk_at "s")).weakF (by walk_at "w"))
  | ex n f =>
    obtain ⟨k1, k2, k3, k4, C⟩ := C.openEx (a := b) (.tail _ (.head _))
    kd_p1
    rename_i C
    refine isAtom_no C (r'.le (by kd_p)) (.inl (by kd_in)) (by simp) fun s2 C => ?_
    kd_p1
    rename_i C
    exact h _ _ ((C.weakC (by walk_at "s")).weakF (by walk_at "w"))
end
section
variable {w : World} {S₀ s : Shared} {cs cs' : List Cell} {fs : List Fact} {A : Around} {E' : Value → Shared → Prop} {Q : Value → Shared → Prop} {env : Env} {R : Result → Shared → Prop}
theorem IsI.more {cs : List Cell} {fs : List Fact} {a D : Addr} {l : Flds} {c : Cell} (h : IsI cs fs a D l) : IsI (c :: cs) fs a D l := h.imp id fun ⟨d, x, y⟩ => ⟨d, x.imp id (.tail _), y.imp (.tail _) id⟩
theorem cat_All {a ag : Addr} {l : Flds} (C : St w S₀ cs fs s) (r : Room A 13) (hi : IsI cs fs a 788 l) (h : ∀ u s', St w S₀ cs fs s' → Q (.int 20 u) s') : wpAny (model pw w) A (call (.ref 1396) [.ref ag, .ref a]) Q E' s := by
  refine wpAny_call (callF (n := 12) (binds := [("self", .ref ag), ("current", .ref a)]) ok1396 C r (binds0 (by kernel_rfl)) (by kernel_rfl) (by kernel_rfl) fun L A' s' r' C => ?_)
  have nb_isinstance := b_isinstance; have ng_NegatedExpression := g_NegatedExpression; have ng_FunctionVariableExpression := g_FunctionVariableExpression; have nc_PROP := c_PROP; have ng_Categories := g_Categories; have nc_ATOM := c_ATOM; have ng_TableauProver := g_TableauProver; have ng_AllExpression := g_AllExpression; have nc_ALL := c_ALL; have ng_AndExpression := g_AndExpression; have nc_AND := c_AND; have ng_OrExpression := g_OrExpression; have nc_OR := c_OR; have ng_ImpExpression := g_ImpExpression; have nc_IMP := c_IMP; have ng_IffExpression := g_IffExpression; have nc_IFF := c_IFF; have ng_EqualityExpression := g_EqualityExpression; have nc_EQ := c_EQ; have ng_ExistsExpression := g_ExistsExpression; have nc_EXISTS := c_EXISTS; have ng_ApplicationExpression := g_ApplicationExpression; have nc_APP := c_APP
  walk_at "B"
  have hi' := hi.more (c := .ns L [(("self" : Str), Value.ref ag), ("current", Value.ref a)].reverse)
  kd_p1
  refine isiF (by assumption) hi' rfl (by exact rfl) rfl rfl fun s' C => ?_
  kd_p1
  refine isiF (by assumption) hi' rfl (by exact rfl) rfl rfl fun s' C => ?_
  kd_p1
  rename_i C
  refine isAtom_no C (r'.le (by kd_p)) hi' (by simp) fun s2 C => ?_
  kd_p1
  refine isiT (by assumption) hi' rfl (by exact rfl) rfl rfl fun s' C => ?_
  kd_p1
  rename_i C
  exact h _ _ C.drop
theorem cat_E {a ag d sl : Addr} {t : Tok} {e : E} (C : St w S₀ cs fs s) (r : Room A 13) (hag : Fact.ob ag (instObj 1406 d) ∈ fs) (hd : Cell.di d [("sets", t, .ref sl)] ∈ cs) (hw : wfE e) (h1 : Fact.v (.ref a) (.e e) ∈ fs) (h : ∀ u s', St w S₀ cs fs s' → Q (.int (catE e) u) s') :
    wpAny (model pw w) A (call (.ref 1396) [.ref ag, .ref a]) Q E' s := by
  cases e with
  | con n => exact hw.elim
  | iv n => exact hw.elim
  | all n f =>
    obtain ⟨k1, k2, k3, k4, C⟩ := C.openAll h1
    exact cat_All C r (.inl (.head _)) fun u s' C => h _ _ (C.weakF (by walk_at "w"))
  | neg t =>
    obtain ⟨k1, k2, C⟩ := C.openNeg h1
    refine wpAny_call (callF (n := 12) (binds := [("self", .ref ag), ("current", .ref a)]) ok1396 C r (binds0 (by kernel_rfl)) (by kernel_rfl) (by kernel_rfl) fun L A' s' r' C => ?_)
    have nb_isinstance := b_isinstance; have ng_NegatedExpression := g_NegatedExpression; have ng_FunctionVariableExpression := g_FunctionVariableExpression; have nc_PROP := c_PROP; have ng_Categories := g_Categories; have nc_ATOM := c_ATOM; have ng_TableauProver := g_TableauProver; have ng_AllExpression := g_AllExpression; have nc_ALL := c_ALL; have ng_AndExpression := g_AndExpression; have nc_AND := c_AND; have ng_OrExpression := g_OrExpression; have nc_OR := c_OR; have ng_ImpExpression := g_ImpExpression; have nc_IMP := c_IMP; have ng_IffExpression := g_IffExpression; have nc_IFF := c_IFF; have ng_EqualityExpression := g_EqualityExpression; have nc_EQ := c_EQ; have ng_ExistsExpression := g_ExistsExpression; have nc_EXISTS := c_EXISTS; have ng_ApplicationExpression := g_ApplicationExpression; have nc_APP := c_APP
    walk_at "B"
    kd_p1
    rename_i C
    refine catNeg (t := t) C (r'.le (by kd_p)) hw (by kd_in) fun u s2 C => ?_
    kd_p1
    rename_i C
    exact h _ _ ((C.weakC (by walk_at "s")).weakF (by walk_at "w"))
  | app f x =>
    obtain ⟨k1, k2, k3, k4, C⟩ := C.openApp h1
    refine wpAny_call (callF (n := 12) (binds := [("self", .ref ag), ("current", .ref a)]) ok1396 C r (binds0 (by kernel_rfl)) (by kernel_rfl) (by kernel_rfl) fun L A' s' r' C => ?_)
    have nb_isinstance := b_isinstance; have ng_NegatedExpression := g_NegatedExpression; have ng_FunctionVariableExpression := g_FunctionVariableExpression; have nc_PROP := c_PROP; have ng_Categories := g_Categories; have nc_ATOM := c_ATOM; have ng_TableauProver := g_TableauProver; have ng_AllExpression := g_AllExpression; have nc_ALL := c_ALL; have ng_AndExpression := g_AndExpression; have nc_AND := c_AND; have ng_OrExpression := g_OrExpression; have nc_OR := c_OR; have ng_ImpExpression := g_ImpExpression; have nc_IMP := c_IMP; have ng_IffExpression := g_IffExpression; have nc_IFF := c_IFF; have ng_EqualityExpression := g_EqualityExpression; have nc_EQ := c_EQ; have ng_ExistsExpression := g_ExistsExpression; have nc_EXISTS := c_EXISTS; have ng_ApplicationExpression := g_ApplicationExpression; have nc_APP := c_APP
    walk_at "B"
    kd_p1
    rename_i C
    refine isAtom_app C (r'.le (by kd_p)) hw (by kd_in) fun s2 C => ?_
    kd_p1
    rename_i C
    exact h _ _ ((C.weakC (by walk_at "s")).weakF (by walk_at "w"))
  | and f x =>
    obtain ⟨k1, k2, k3, k4, C⟩ := C.openAnd h1
    refine wpAny_call (callF (n := 12) (binds := [("self", .ref ag), ("current", .ref a)]) ok1396 C r (binds0 (by kernel_rfl)) (by kernel_rfl) (by kernel_rfl) fun L A' s' r' C => ?_)
    have nb_isinstance := b_isinstance; have ng_NegatedExpression := g_NegatedExpression; have ng_FunctionVariableExpression := g_FunctionVariableExpression; have nc_PROP := c_PROP; have ng_Categories := g_Categories; have nc_ATOM := c_ATOM; have ng_TableauProver := g_TableauProver; have ng_AllExpression := g_AllExpression; have nc_ALL := c_ALL; have ng_AndExpression := g_AndExpression; have nc_AND := c_AND; have ng_OrExpression := g_OrExpression; have nc_OR := c_OR; have ng_ImpExpression := g_ImpExpression; have nc_IMP := c_IMP; have ng_IffExpression := g_IffExpression; have nc_IFF := c_IFF; have ng_EqualityExpression := g_EqualityExpression; have nc_EQ := c_EQ; have ng_ExistsExpression := g_ExistsExpression; have nc_EXISTS := c_EXISTS; have ng_ApplicationExpression := g_ApplicationExpression; have nc_APP := c_APP
    walk_at "B"
    kd_p1
    rename_i C
    refine isAtom_no C (r'.le (by kd_p)) (.inl (by kd_in)) (by simp) fun s2 C => ?_
    kd_p1
    rename_i C
    exact h _ _ ((C.weakC (by walk_at "s")).weakF (by walk_at "w"))
  | or f x =>
    obtain ⟨k1, k2, k3, k4, C⟩ := C.openOr h1
    refine wpAny_call (callF (n := 12) (binds := [("self", .ref ag), ("current", .ref a)]) ok1396 C r (binds0 (by kernel_rfl)) (by kernel_rfl) (by kernel_rfl) fun L A' s' r' C => ?_)
    have nb_isinstance := b_isinstance; have ng_NegatedExpression := g_NegatedExpression; have ng_FunctionVariableExpression := g_FunctionVariableExpression; have nc_PROP := c_PROP; have ng_Categories := g_Categories; have nc_ATOM := c_ATOM; have ng_TableauProver := g_TableauProver; have ng_AllExpression := g_AllExpression; have nc_ALL := c_ALL; have ng_AndExpression := g_AndExpression; have nc_AND := c_AND; have ng_OrExpression := g_OrExpression; have nc_OR := c_OR; have ng_ImpExpression := g_ImpExpression; have nc_IMP := c_IMP; have ng_IffExpression := g_IffExpression; have nc_IFF := c_IFF; have ng_EqualityExpression := g_EqualityExpression; have nc_EQ := c_EQ; have ng_ExistsExpression := g_ExistsExpression; have nc_EXISTS := c_EXISTS; have ng_ApplicationExpression := g_ApplicationExpression; have nc_APP := c_APP
    walk_at "B"
    kd_p1
    rename_i C
    refine isAtom_no C (r'.le (by kd_p)) (.inl (by kd_in)) (by simp) fun s2 C => ?_
    kd_p1
    rename_i C
    exact h _ _ ((C.weakC (by walk_at "s")).weakF (by walk_at "w"))
  | imp f x =>
    obtain ⟨k1, k2, k3, k4, C⟩ := C.openImp h1
    refine wpAny_call (callF (n := 12) (binds := [("self", .ref ag), ("current", .ref a)]) ok1396 C r (binds0 (by kernel_rfl)) (by kernel_rfl) (by kernel_rfl) fun L A' s' r' C => ?_)
    have nb_isinstance := b_isinstance; have ng_NegatedExpression := g_NegatedExpression; have ng_FunctionVariableExpression := g_FunctionVariableExpression; have nc_PROP := c_PROP; have ng_Categories := g_Categories; have nc_ATOM := c_ATOM; have ng_TableauProver := g_TableauProver; have ng_AllExpression := g_AllExpression; have nc_ALL := c_ALL; have ng_AndExpression := g_AndExpression; have nc_AND := c_AND; have ng_OrExpression := g_OrExpression; have nc_OR := c_OR; have ng_ImpExpression := g_ImpExpression; have nc_IMP := c_IMP; have ng_IffExpression := g_IffExpression; have nc_IFF := c_IFF; have ng_EqualityExpression := g_EqualityExpression; have nc_EQ := c_EQ; have ng_ExistsExpression := g_ExistsExpression; have nc_EXISTS := c_EXISTS; have ng_ApplicationExpression := g_ApplicationExpression; have nc_APP := c_APP
    walk_at "B"
    kd_p1
    rename_i C
    refine isAtom_no C (r'.le (by kd_p)) (.inl (by kd_in)) (by simp) fun s2 C => ?_
    kd_p1
    rename_i C
    exact h _ _ ((C.weakC (by walk_at "s")).weakF (by walk_at "w"))
  | ex n f =>
    obtain ⟨k1, k2, k3, k4, C⟩ := C.openEx h1
    refine wpAny_call (callF (n := 12) (binds := [("self", .ref ag), ("current", .ref a)]) ok1396 C r (binds0 (by kernel_rfl)) (by kernel_rfl) (by kernel_rfl) fun L A' s' r' C => ?_)
    have nb_isinstance := b_isinstance; have ng_NegatedExpression := g_NegatedExpression; have ng_FunctionVariableExpression := g_FunctionVariableExpression; have nc_PROP := c_PROP; have ng_Categories := g_Categories; have nc_ATOM := c_ATOM; have ng_TableauProver := g_TableauProver; have ng_AllExpression := g_AllExpression; have nc_ALL := c_ALL; have ng_AndExpression := g_AndExpression; have nc_AND := c_AND; have ng_OrExpression := g_OrExpression; have nc_OR := c_OR; have ng_ImpExpression := g_ImpExpression; have nc_IMP := c_IMP; have ng_IffExpression := g_IffExpression; have nc_IFF := c_IFF; have ng_EqualityExpression := g_EqualityExpression; have nc_EQ := c_EQ; have ng_ExistsExpression := g_ExistsExpression; have nc_EXISTS := c_EXISTS; have ng_ApplicationExpression := g_ApplicationExpression; have nc_APP := c_APP
    walk_at "B"
    kd_p1
    rename_i C
    refine isAtom_no C (r'.le (by kd_p)) (.inl (by kd_in)) (by simp) fun s2 C => ?_
    kd_p1
    rename_i C
    exact h _ _ ((C.weakC (by walk_at "s")).weakF (by walk_at "w"))
end
section
variable {w : World} {S₀ s : Shared} {cs cs' : List Cell} {fs : List Fact} {A : Around} {E' : Value → Shared → Prop} {Q : Value → Shared → Prop} {env : Env} {R : Result → Shared → Prop}
theorem St.extGrow {h' : Heap} {tk : Tok} (C : St w S₀ cs fs s) {d : Cell} (hd : d ∈ cs) (k : Heap.ExtBut s.heap.objs.size s.heap h') : St w S₀ cs fs { s with heap := h', toks := tk } := by
  have k' : ∀ b o, s.heap.get? b = some o → h'.get? b = some o := fun b o e => k b o (Nat.ne_of_lt (Heap.lt_size e)) e
  have z : S₀.heap.objs.size ≤ h'.objs.size := by
    obtain ⟨g, X, Y⟩ := C
    have : d.ok w.params h' := Cell.keep (fun o e => k' _ o e) (X.cells d hd)
    exact Nat.le_trans (X.up d hd) (Nat.le_of_lt (Cell.lt this))
  obtain ⟨g, X, Y⟩ := C
  exact ⟨g, ⟨X.hs, by have := X.sh; rw [this], X.base, fun a o e => k' a o (X.sub a o e), X.gv, fun c hc => Cell.keep (fun o e => k' _ o e) (X.cells c hc), X.off, X.nod, fun v hv => Vol.ok.keep (Ge.refl _) (fun o e => k' _ o e) (X.tab v hv), X.up, z⟩, Y⟩
theorem asT2 {t1 t2 : Expr} {k : Nat} {pos : Pos} {p : Addr} {u v : Value} {Q : Unit → Shared → Prop} {d : Cell} (C : St w S₀ cs fs s) (hd : d ∈ cs) (hh : A.handled = none) (ho : Fact.ob p (tupObj [u, v]) ∈ fs)
    (he : assignEach [t1, t2] env = [(false, assign t1 env), (false, assign t2 env)]) (h : ∀ s', St w S₀ cs fs s' → wpAny (model pw w) A (assign t1 env u) (fun _ s₁ => wpAny (model pw w) A (assign t2 env v) (fun _ s₂ => Q () s₂) E' s₁) E' s') :
    wpAny (model pw w) A (assign (.Tuple [t1, t2] k pos) env (.ref p)) Q E' s := by
  refine wpAny_assign_Tuple hh (items := #[u, v]) ⟨_, C.obj ho, rfl, 0, rfl⟩ (by rw [he]; rfl) (by rw [he]; rfl) fun h₃ hx₃ => ?_
  have C3 := C.extGrow (tk := s.toks) hd hx₃
  rw [he]
  show wpAny _ A (do holding [v] (assign t1 env u); do holding [] (assign t2 env v); pure ()) _ _ _
  refine wpAny_bind (wpAny_holding (wpAny_mono (h _ C3) (fun _ s₁ h₁ => ?_) fun _ _ e => e))
  exact wpAny_bind (wpAny_holding (wpAny_mono h₁ (fun _ s₂ h₂ => wpAny_pure h₂) fun _ _ e => e))
noncomputable def tgtOk : Expr → Bool | .List _ _ => false | _ => true
theorem lotL {target : Expr} {it l : Addr} {i : Nat} {v : Value} {Q : Unit → Shared → Prop} (C : St w S₀ cs fs s) (hi : itC it l i ∈ cs) (h : Q () s) (ht : autoParam (tgtOk target = true) tKr) : wpAny (model pw w) A (letOwnedTupleGo target (.ref it) v) Q E' s := by
  have hit := C.cell hi
  cases target with
  | Tuple e x p => cases v with
    | ref T => exact wpAny_letOwnedTupleGo_listiter hit h
    | _ => exact wpAny_pure h
  | List e x => cases ht
  | _ => exact wpAny_pure h
end
theorem getT_ok (P : Params) : (findIn (KK P) (.ref 1406) "__getitem__" == some (some (.ref 1339)) && fnIn (KK P) 1339 && isFn (KK P) (.ref 1339)) = true := by kernel_rfl
section
variable {w : World} {S₀ s : Shared} {cs cs' : List Cell} {fs : List Fact} {A : Around} {E' : Value → Shared → Prop} {Q : Value → Shared → Prop} {env : Env} {R : Result → Shared → Prop}
theorem subG {value slice : Expr} {ag d sl L : Addr} {t u : Tok} {k : Int} {vs : List Value} {v : Value} {m : List (Str × Value)} (C : St w S₀ cs fs s) (r : Room A 4) (hm : Cell.ns L m ∈ cs) (hag : Fact.ob ag (instObj 1406 d) ∈ fs) (hd : Cell.di d [("sets", t, .ref sl)] ∈ cs) (hl : Cell.li sl vs ∈ cs)
    (h0 : 0 ≤ k) (hk : k < 2 ^ 63) (hv : vs[k.toNat]? = some v) (h : ∀ s', St w S₀ cs fs s' → Q v s')
    (hsl : autoParam (subscripted slice true (.ref ag) (.int k u) = runValue (.builtin "lifetime.subscript" ⟨[.ref ag, .int k u], []⟩)) tWr) :
    wpAny (model pw w) A (subscriptTail value slice (.ref ag) (.int k u)) Q E' s := by
  have z := getT_ok w.params
  simp only [Bool.and_eq_true, beq_iff_eq] at z
  obtain ⟨⟨z1, z2⟩, z3⟩ := z
  obtain ⟨_, _, I⟩ := C.inst (isI2 hag hd)
  refine sub_K (C.fr hm) C.kin0 I z1 z2 z3 (wpAny_call ?_) hsl
  refine callF (n := 2) (binds := [("self", .ref ag), ("index", .int k u)]) ok1339 C r.in1 (binds0 (by kernel_rfl)) (by kernel_rfl) (by kernel_rfl) fun L A' s' r' C => ?_
  walk_at "B"
  kd_p1
  rename_i C
  refine tailL C (.inl (by kd_in)) h0 hk hv ?_
  kd_p1
  exact h _ C.drop
noncomputable def enC (e it : Addr) (i : Int) (old : Value) : Cell := .ob e { cls := .type "enumerate", dict := none, data := .fields #[.none, .bool false, .ref it, rawInt i, .none, old], slots := #[] }
theorem St.upd2 {c1 c2 c1' c2' : Cell} {h' : Heap} {tk : Tok} {a : Addr} {o : Obj} (C : St w S₀ (c1 :: c2 :: cs) fs s) (k : ∀ b o, b ≠ c1.a → b ≠ c2.a → s.heap.get? b = some o → h'.get? b = some o) (z : s.heap.objs.size ≤ h'.objs.size)
    (e1 : c1'.a = c1.a) (e2 : c2'.a = c2.a) (ok1 : c1'.ok w.params h') (ok2 : c2'.ok w.params h') (ha : s.heap.objs.size ≤ a) (ho : h'.get? a = some o) : St w S₀ (c1' :: c2' :: cs) (.ob a o :: fs) { s with heap := h', toks := tk } := by
  obtain ⟨g, X, Y⟩ := C
  have F := X.fresh ha
  have o1 := X.off c1 (.head _)
  have o2 := X.off c2 (.tail _ (.head _))
  have n := X.nod
  simp only [List.map_cons, List.nodup_cons, List.mem_cons, List.mem_map, not_or, not_exists, not_and] at n
  have gne : ∀ b o, g b = some o → b ≠ c1.a ∧ b ≠ c2.a := by
    intro b o e
    exact ⟨fun q => (by rw [q, o1.1] at e; cases e), fun q => (by rw [q, o2.1] at e; cases e)⟩
  have Z : Stg w S₀ g (c1' :: c2' :: cs) { s with heap := h', toks := tk } := by
    refine ⟨X.hs, by have := X.sh; rw [this], X.base, fun b o e => k b o (gne b o e).1 (gne b o e).2 (X.sub b o e), X.gv, fun c hc => ?_, fun c hc => ?_, ?_, fun v hv => ?_, fun c hc => ?_, Nat.le_trans X.big z⟩
    · rcases List.mem_cons.mp hc with rfl | hc
      · exact ok1
      · rcases List.mem_cons.mp hc with rfl | hc
        · exact ok2
        · exact Cell.keep (fun o e => k _ o (fun q => n.1.2 c hc q) (fun q => n.2.1 c hc q) e) (X.cells c (.tail _ (.tail _ hc)))
    · rcases List.mem_cons.mp hc with rfl | hc
      · rw [e1]; exact o1
      · rcases List.mem_cons.mp hc with rfl | hc
        · rw [e2]; exact o2
        · exact X.off c (.tail _ (.tail _ hc))
    · have := X.nod
      simp only [List.map_cons] at this ⊢
      rw [e1, e2]; exact this
    · have vv := vols_vol v hv
      exact Vol.ok.keep (Ge.refl _) (fun o e => k _ o (fun q => (by rw [q, o1.2] at vv; cases vv)) (fun q => (by rw [q, o2.2] at vv; cases vv)) e) (X.tab v hv)
    · rcases List.mem_cons.mp hc with rfl | hc
      · rw [e1]; exact X.up c1 (.head _)
      · rcases List.mem_cons.mp hc with rfl | hc
        · rw [e2]; exact X.up c2 (.tail _ (.head _))
        · exact X.up c (.tail _ (.tail _ hc))
  obtain ⟨W, kg, eg⟩ := Z.addF (a := a) ho F.2.1 fun c hc => by
    rcases List.mem_cons.mp hc with rfl | hc
    · rw [e1]; exact F.2.2 c1 (.head _)
    · rcases List.mem_cons.mp hc with rfl | hc
      · rw [e2]; exact F.2.2 c2 (.tail _ (.head _))
      · exact F.2.2 c (.tail _ (.tail _ hc))
  exact ⟨_, W, fun f hf => (List.mem_cons.mp hf).elim (fun q => q ▸ eg) fun hf => Fact.mono kg (Y f hf)⟩
theorem callEnum {l : Addr} {vs : List Value} (C : St w S₀ cs fs s) (hl : Cell.li l vs ∈ cs ∨ Fact.li l vs ∈ fs) (h : ∀ e it s', St w S₀ (enC e it 0 .none :: itC it l 0 :: cs) fs s' → Q (.ref e) s') : wpAny (model pw w) A (call (.type "enumerate") [.ref l]) Q E' s := by
  refine call_enumerate_list (C.plain hl).isList fun h' he hit hz hk => h (s.heap.objs.size + 1) s.heap.objs.size _ ?_
  obtain ⟨g, X, Y⟩ := C
  have F := X.fresh (Nat.le_refl s.heap.objs.size)
  have G := X.fresh (a := s.heap.objs.size + 1) (Nat.le_succ _)
  have Z := X.grow (h' := h') (tk := s.toks) hk (by kd_p)
  have Z1 := Z.addC (c := itC s.heap.objs.size l 0) hit F.1 F.2.1 F.2.2 X.big
  have Z2 := Z1.addC (c := enC (s.heap.objs.size + 1) s.heap.objs.size 0 .none) he G.1 G.2.1 (fun d hd => by
    rcases List.mem_cons.mp hd with rfl | hd
    · exact Nat.ne_of_lt (Nat.lt_succ_self _)
    · exact G.2.2 d hd) (Nat.le_trans X.big (Nat.le_succ _))
  exact ⟨g, Z2, Y⟩
inductive EnSt (w : World) (S₀ : Shared) (I : Nat → List Cell → List Fact → Prop) (e it l : Addr) (n k : Nat) (s : Shared) : Prop
  | mk (i : Nat) (old : Value) (cs : List Cell) (fs : List Fact) (hk : k = n - i) (hi : i ≤ n) (hI : I i cs fs) (C : St w S₀ (enC e it (i : Nat) old :: itC it l i :: cs) fs s)
theorem enumW {e it l : Addr} {vs : List Value} {xi xv : Str} {pi pv pt : Pos} {x1 : Nat} {body : List Stmt} (I : Nat → List Cell → List Fact → Prop) (hh : A.handled = none) (hl : ∀ i cs fs, I i cs fs → (Cell.li l vs ∈ cs ∨ Fact.li l vs ∈ fs) ∧ ∃ d, d ∈ cs)
    (h0 : I 0 cs fs) (C : St w S₀ (enC e it 0 .none :: itC it l 0 :: cs) fs s)
    (turn : ∀ (i : Nat) (v : Value) (tk : Tok) (old : Value) (cs : List Cell) (fs : List Fact) (s : Shared) (E : Value → Shared → Prop), vs[i]? = some v → I i cs fs → St w S₀ (enC e it (i + 1 : Nat) old :: itC it l (i + 1) :: cs) fs s →
      wpAny (model pw w) A (assign (.Name xi pi) env (.int i tk)) (fun _ s₁ => wpAny (model pw w) A (assign (.Name xv pv) env v) (fun _ s₂ => wpAny (model pw w) A (execs body env) (fun f s₃ => match f with
        | .next | .cont => ∃ old cs fs, I (i + 1) cs fs ∧ St w S₀ (enC e it (i + 1 : Nat) old :: itC it l (i + 1) :: cs) fs s₃
        | .brk => R (.ok .next) s₃
        | .ret v => R (.ok (.ret v)) s₃) E s₂) E s₁) E s)
    (done : ∀ (cs : List Cell) (fs : List Fact) (s : Shared), I vs.length cs fs → St w S₀ cs fs s → R (.ok .next) s) : codeAny (model pw w) A (.forLoop (.Tuple [.Name xi pi, .Name xv pv] x1 pt) (.ref e) body [] env) R s := by
  refine codeAny_forLoop_any (EnSt w S₀ I e it l vs.length) ?_ vs.length ⟨0, .none, cs, fs, rfl, Nat.zero_le _, h0, C⟩
  intro k s hs
  walk_at "k"
  obtain ⟨i, old, cs, fs, hk, hi, hI, C⟩ := hs
  obtain ⟨hls, d, hd⟩ := hl i cs fs hI
  have hne : e ≠ it := by
    obtain ⟨g, X, Y⟩ := C
    have n := X.nod
    simp only [List.map_cons, List.nodup_cons, List.mem_cons, not_or] at n
    exact n.1.1
  have he := C.cell (.head _)
  obtain ⟨o, eo, o1, o2⟩ := C.cell (.tail _ (.head _))
  have hL := (C.plain (l := l) (vs := vs) (hls.imp (fun h => .tail _ (.tail _ h)) id)).isList
  rcases Nat.lt_or_ge i vs.length with hlt | hge
  · refine wpAny_pyNext_enum_item (i := i) (x := vs[i]) he ⟨o, eo, o1, o2⟩ hL (by simp [hlt]) hne fun h₁ heo hit₁ ht₁ hz₁ hk₁ => ?_
    refine wpAny_letOwnedTupleGo_enum heo fun h₂ he₂ hs₂ => ?_
    have heH : e < s.heap.objs.size := Heap.lt_size he
    have hiH : it < s.heap.objs.size := Heap.lt_size eo
    have C2 : St w S₀ (enC e it (i + 1 : Nat) vs[i] :: itC it l (i + 1) :: cs) (.ob s.heap.objs.size (tupObj [.int i s.toks, vs[i]]) :: fs) { s with heap := h₂, toks := s.toks + 1 } := by
      refine C.upd2 (c1' := enC e it (i + 1 : Nat) vs[i]) (c2' := itC it l (i + 1)) (fun b o hb1 hb2 z => (hs₂.2 b hb1).trans (hk₁ b o hb1 hb2 z)) (by rw [hs₂.1]; show _ ≤ h₁.objs.size; kd_p) rfl rfl he₂ ?_ (Nat.le_refl _) ?_
      · obtain ⟨o', e', c1', c2'⟩ := hit₁
        exact ⟨o', (hs₂.2 it (Ne.symm hne)).trans e', c1', c2'⟩
      · exact (hs₂.2 _ (Nat.ne_of_gt heH)).trans ht₁
    refine asT2 C2 (.head _) hh (.head _) rfl fun s3 C3 => ?_
    refine wpAny_mono (turn i vs[i] s.toks vs[i] cs fs s3 _ (by simp [hlt]) hI (C3.weakF fun f hf => .tail _ hf)) (fun _ s₁ h₁ => wpAny_mono h₁ (fun _ s₂ h₂ => wpAny_mono h₂ (fun f s₃ h₃ => ?_) fun _ _ e => e) fun _ _ e => e) fun _ _ e => e
    cases f with
    | next => obtain ⟨old, cs, fs, h, C⟩ := h₃; exact ⟨vs.length - (i + 1), ar2 hk hlt, i + 1, old, cs, fs, rfl, hlt, h, C⟩
    | cont => obtain ⟨old, cs, fs, h, C⟩ := h₃; exact ⟨vs.length - (i + 1), ar2 hk hlt, i + 1, old, cs, fs, rfl, hlt, h, C⟩
    | brk => exact h₃
    | ret v => exact h₃
  · have : i = vs.length := Nat.le_antisymm hi hge
    subst this
    refine wpAny_pyNext_enum_end (i := vs.length) hh he ⟨o, eo, o1, o2⟩ hL (by simp) fun h₁ he₁ => wpAny_execs_nil (done cs fs _ hI ?_)
    exact ((C.permC (List.Perm.swap _ _ _)).gone (tk := s.toks) (c := itC it l vs.length) (.head _) he₁).drop
end
noncomputable def uF : Option (Tok × Addr) → Flds
  | none => []
  | some (t, q) => [("_used_vars", t, .ref q)]
noncomputable def eF : Option (Tok × Bool) → Flds
  | none => []
  | some (t, b) => [("_exhausted", t, .bool b)]
noncomputable def allF (t1 t2 : Tok) (v z : Addr) (u : Option (Tok × Addr)) (e : Option (Tok × Bool)) (o : Bool) : Flds :=
  ("variable", t1, .ref v) :: ("term", t2, .ref z) :: (if o then uF u ++ eF e else eF e ++ uF u)
noncomputable def allC (w : World) (d v z : Addr) (u : Option Addr) (b : Bool) : Cell := .pr d fun o => ∃ t1 t2 u' e' ord, o = mkD w.params (allF t1 t2 v z u' e' ord) ∧ u'.map (·.2) = u ∧ (e'.map (·.2)).getD false = b
theorem allF_putU {t1 t2 tk : Tok} {v z q : Addr} {u : Option (Tok × Addr)} {e : Option (Tok × Bool)} {o : Bool} : ∃ t' o', putF "_used_vars" tk (.ref q) (allF t1 t2 v z u e o) = allF t1 t2 v z (some (t', q)) e o' := by
  rcases u with _ | ⟨t, q'⟩ <;> rcases e with _ | ⟨t', b⟩ <;> cases o <;> first | exact ⟨tk, true, rfl⟩ | exact ⟨tk, false, rfl⟩ | exact ⟨t, true, rfl⟩ | exact ⟨t, false, rfl⟩
theorem allF_putE {t1 t2 tk : Tok} {v z : Addr} {u : Option (Tok × Addr)} {e : Option (Tok × Bool)} {o b : Bool} : ∃ t' o', putF "_exhausted" tk (.bool b) (allF t1 t2 v z u e o) = allF t1 t2 v z u (some (t', b)) o' := by
  rcases u with _ | ⟨t, q'⟩ <;> rcases e with _ | ⟨t', b'⟩ <;> cases o <;> first | exact ⟨tk, true, rfl⟩ | exact ⟨tk, false, rfl⟩ | exact ⟨t', true, rfl⟩ | exact ⟨t', false, rfl⟩
theorem allF_len {t1 t2 : Tok} {v z : Addr} {u : Option (Tok × Addr)} {e : Option (Tok × Bool)} {o : Bool} : Nat.blt (allF t1 t2 v z u e o).length 900 = true := by
  rcases u with _ | ⟨t, q'⟩ <;> rcases e with _ | ⟨t', b'⟩ <;> cases o <;> rfl
section
variable {w : World} {S₀ s : Shared} {cs cs' : List Cell} {fs : List Fact} {A : Around} {E' : Value → Shared → Prop} {Q : Value → Shared → Prop} {env : Env} {R : Result → Shared → Prop} {a d v z : Addr} {u : Option Addr} {b : Bool}
theorem St.openA (C : St w S₀ (allC w d v z u b :: cs) fs s) : ∃ t1 t2 u' e' ord, St w S₀ (.di d (allF t1 t2 v z u' e' ord) :: cs) fs s ∧ u'.map (·.2) = u ∧ (e'.map (·.2)).getD false = b := by
  obtain ⟨o, e, t1, t2, u', e', ord, rfl, h1, h2⟩ := C.cell (.head _)
  exact ⟨t1, t2, u', e', ord, C.recell rfl fun _ => e, h1, h2⟩
theorem St.closeA {t1 t2 : Tok} {u' : Option (Tok × Addr)} {e' : Option (Tok × Bool)} {ord : Bool} (C : St w S₀ (.di d (allF t1 t2 v z u' e' ord) :: cs) fs s) (h1 : u'.map (·.2) = u) (h2 : (e'.map (·.2)).getD false = b) : St w S₀ (allC w d v z u b :: cs) fs s :=
  C.recell rfl fun h => ⟨_, h, t1, t2, u', e', ord, rfl, h1, h2⟩
theorem getUsed {ex : Bool} (C : St w S₀ cs fs s) (ho : Fact.ob a (instObj 788 d) ∈ fs) (hm : allC w d v z u b ∈ cs) (h : ∀ s', St w S₀ cs fs s' → Q (match u with | none => .none | some q => .ref q) s') : wpAny (model pw w) A (getAttr (.ref a) "_used_vars" ex) Q E' s := by
  obtain ⟨rest, p⟩ := perm_of_mem hm
  obtain ⟨t1, t2, u', e', ord, C, h1, h2⟩ := (C.permC p).openA
  rcases u' with _ | ⟨t, q⟩
  · subst h1
    exact atK C (isI2 ho (.head _)) rfl (by rcases e' with _ | ⟨t, b'⟩ <;> cases ord <;> rfl) fun s' C => h s' ((C.closeA rfl h2).permC p.symm)
  · subst h1
    exact atI C (isI2 ho (.head _)) rfl (show (allF t1 t2 v z (some (t, q)) e' ord).lookup ("_used_vars" : Str) = some (t, .ref q) by rcases e' with _ | ⟨t, b'⟩ <;> cases ord <;> rfl) fun s' C => h s' ((C.closeA rfl h2).permC p.symm)
theorem getExh {ex : Bool} (C : St w S₀ cs fs s) (ho : Fact.ob a (instObj 788 d) ∈ fs) (hm : allC w d v z u b ∈ cs) (h : ∀ s', St w S₀ cs fs s' → Q (.bool b) s') : wpAny (model pw w) A (getAttr (.ref a) "_exhausted" ex) Q E' s := by
  obtain ⟨rest, p⟩ := perm_of_mem hm
  obtain ⟨t1, t2, u', e', ord, C, h1, h2⟩ := (C.permC p).openA
  rcases e' with _ | ⟨t, b'⟩
  · subst h2
    exact atK C (isI2 ho (.head _)) rfl (by rcases u' with _ | ⟨t, b'⟩ <;> cases ord <;> rfl) fun s' C => h s' ((C.closeA h1 rfl).permC p.symm)
  · subst h2
    exact atI C (isI2 ho (.head _)) rfl (show (allF t1 t2 v z u' (some (t, b')) ord).lookup ("_exhausted" : Str) = some (t, .bool b') by rcases u' with _ | ⟨t, b'⟩ <;> cases ord <;> rfl) fun s' C => h s' ((C.closeA h1 rfl).permC p.symm)
theorem getVarA {ex : Bool} (C : St w S₀ cs fs s) (ho : Fact.ob a (instObj 788 d) ∈ fs) (hm : allC w d v z u b ∈ cs) (h : ∀ s', St w S₀ cs fs s' → Q (.ref v) s') : wpAny (model pw w) A (getAttr (.ref a) "variable" ex) Q E' s := by
  obtain ⟨rest, p⟩ := perm_of_mem hm
  obtain ⟨t1, t2, u', e', ord, C, h1, h2⟩ := (C.permC p).openA
  exact atI C (isI2 ho (.head _)) rfl rfl fun s' C => h s' ((C.closeA h1 h2).permC p.symm)
theorem getTermA {ex : Bool} (C : St w S₀ cs fs s) (ho : Fact.ob a (instObj 788 d) ∈ fs) (hm : allC w d v z u b ∈ cs) (h : ∀ s', St w S₀ cs fs s' → Q (.ref z) s') : wpAny (model pw w) A (getAttr (.ref a) "term" ex) Q E' s := by
  obtain ⟨rest, p⟩ := perm_of_mem hm
  obtain ⟨t1, t2, u', e', ord, C, h1, h2⟩ := (C.permC p).openA
  exact atI C (isI2 ho (.head _)) rfl rfl fun s' C => h s' ((C.closeA h1 h2).permC p.symm)
theorem setExh {b' : Bool} {Q : Unit → Shared → Prop} (C : St w S₀ cs fs s) (ho : Fact.ob a (instObj 788 d) ∈ fs) (U : Upd (allC w d v z u b) (allC w d v z u b') cs cs') (h : ∀ s', St w S₀ cs' fs s' → Q () s') : wpAny (model pw w) A (setAttr (.ref a) "_exhausted" (.bool b')) Q E' s := by
  obtain ⟨rest, p, p'⟩ := U.perm
  obtain ⟨t1, t2, u', e', ord, C, h1, h2⟩ := (C.permC p).openA
  obtain ⟨t', o', e⟩ := @allF_putE t1 t2 (s.toks + 1) v z u' e' ord b'
  exact stI C (.inl ho) rfl (.head (c' := .di d (putF "_exhausted" (s.toks + 1) (.bool b') (allF t1 t2 v z u' e' ord)))) (fun s' C => h s' (((e ▸ C : St w S₀ (.di d (allF t1 t2 v z u' (some (t', b')) o') :: rest) fs s').closeA h1 rfl).permC p')) allF_len
theorem setUsed {q : Addr} {Q : Unit → Shared → Prop} (C : St w S₀ cs fs s) (ho : Fact.ob a (instObj 788 d) ∈ fs) (U : Upd (allC w d v z u b) (allC w d v z (some q) b) cs cs') (h : ∀ s', St w S₀ cs' fs s' → Q () s') : wpAny (model pw w) A (setAttr (.ref a) "_used_vars" (.ref q)) Q E' s := by
  obtain ⟨rest, p, p'⟩ := U.perm
  obtain ⟨t1, t2, u', e', ord, C, h1, h2⟩ := (C.permC p).openA
  obtain ⟨t', o', e⟩ := @allF_putU t1 t2 (s.toks + 1) v z q u' e' ord
  exact stI C (.inl ho) rfl (.head (c' := .di d (putF "_used_vars" (s.toks + 1) (.ref q) (allF t1 t2 v z u' e' ord)))) (fun s' C => h s' (((e ▸ C : St w S₀ (.di d (allF t1 t2 v z (some (t', q)) e' o') :: rest) fs s').closeA rfl h2).permC p')) allF_len
end
noncomputable def rgObj (a b c : Int) (t u v : Tok) : Obj := { cls := .type "range", dict := none, data := .fields #[.int a t, .int b u, .int c v], slots := #[] }
noncomputable def riC (it : Addr) (a c : Int) (n i : Nat) : Cell := .ob it { cls := .type "range_iterator", dict := none, data := .fields #[rawInt (a + i * c), rawInt (n - i), rawInt c], slots := #[] }
section
variable {w : World} {S₀ s : Shared} {cs cs' : List Cell} {fs : List Fact} {A : Around} {E' : Value → Shared → Prop} {Q : Value → Shared → Prop} {env : Env} {R : Result → Shared → Prop}
theorem callRange {n : Int} {t : Tok} (C : St w S₀ cs fs s) (h : ∀ r u v s', St w S₀ cs (.ob r (rgObj 0 n 1 u t v) :: fs) s' → Q (.ref r) s') : wpAny (model pw w) A (call (.type "range") [.int n t]) Q E' s :=
  call_range_1 (h _ s.toks (s.toks + 1) _ (C.pushF (rgObj 0 n 1 s.toks t (s.toks + 1)) rfl (tk := s.toks + 1 + 1)))
theorem iterR {r : Addr} {a b c : Int} {t u v : Tok} {n : Nat} (C : St w S₀ cs fs s) (hr : Fact.ob r (rgObj a b c t u v) ∈ fs) (hs : Builtin.Range.small a b c = true) (hn : Builtin.Range.rangeSize a b c = n) (h : ∀ it s', St w S₀ (riC it a c n 0 :: cs) fs s' → Q (.ref it) s') :
    wpAny (model pw w) A (pyIter (.ref r)) Q E' s := by
  have hr' : IsRange s.heap r a b c t u v := C.obj hr
  refine wpAny_pyIter_range hr' hs (h _ _ ?_)
  rw [hn]
  have e : ({ cls := .type "range_iterator", data := .fields #[rawInt a, rawInt (n : Int), rawInt c] } : Obj) = { cls := .type "range_iterator", dict := none, data := .fields #[rawInt (a + (0 : Nat) * c), rawInt (n - (0 : Nat)), rawInt c], slots := #[] } := by simp
  rw [e]
  exact C.pushC (riC s.heap.objs.size a c n 0) _ rfl (Heap.get?_push_size _ rfl) (tk := s.toks)
theorem drwR {it : Addr} {a c : Int} {n : Nat} (r : A.handled = none) : Drw w S₀ A it n (fun i v => ∃ tk, v = .int (a + i * c) tk) (riC it a c n) (fun _ _ => True) where
  item := by
    intro i cs fs s Q E hi hn C h
    have C' := C
    have e : IsRangeIter s.heap it (a + i * c) (n - i) c := C.cell (.head _)
    refine wpAny_pyNext_range_item e (by kd_p) fun h' hi' hs => ?_
    refine h _ _ ⟨_, rfl⟩ (C'.upd (tk := s.toks + 1) (.head (c' := riC it a c n (i + 1))) hs rfl ?_)
    have e1 : a + i * c + c = a + ((i + 1 : Nat) : Int) * c := by push_cast; rw [Int.add_mul]; kd_p
    have e2 : (n : Int) - i - 1 = n - ((i + 1 : Nat) : Int) := by push_cast; kd_p
    rw [e1, e2] at hi'
    exact hi'
  done := by
    intro cs fs d s Q E hn hd C h
    have C' := C
    have e : IsRangeIter s.heap it (a + n * c) (n - n) c := C.cell (.head _)
    exact wpAny_pyNext_range_end r e (by kd_p) fun h' hs => h _ (C'.gone (tk := s.toks) hd hs)
  self := by
    intro i cs fs s Q E C h
    have e : IsRangeIter s.heap it (a + i * c) (n - i) c := C.cell (.head _)
    exact wpAny_pyIter_rangeiter e h
  up := fun _ _ => trivial
theorem turnR {a c x : Int} {i : Nat} {B : Value → Prop} (hx : a + i * c = x) (k : ∀ tk, B (.int x tk)) : ∀ v, (∃ tk, v = .int (a + i * c) tk) → B v := fun v ⟨tk, e⟩ => e ▸ hx ▸ k tk
inductive LC (c0 : List Cell) (F : List Fact) (g : Nat → List AV) (i : Nat) (ys : List Value) (cs' : List Cell) (fs' : List Fact) : Prop
  | mk (hc : cs' = c0) (hf : ∀ f ∈ F, f ∈ fs') (hy : Fact.l ys (g i) ∈ fs')
inductive LT (c0 : List Cell) (F : List Fact) (g : Nat → List Value) (j : Nat) (zs : List Value) (cs' : List Cell) (fs' : List Fact) : Prop
  | mk (hc : cs' = c0) (hf : ∀ f ∈ F, f ∈ fs') (hz : zs = g j)
theorem lotR {target : Expr} {it : Addr} {x : Int} {tk : Tok} {Q : Unit → Shared → Prop} (h : Q () s) : wpAny (model pw w) A (letOwnedTupleGo target (.ref it) (.int x tk)) Q E' s := by
  cases target <;> exact wpAny_pure h
structure ARec where
  p : Addr
  a : Addr
  d : Addr
  v : Addr
  z : Addr
  x : Str
  e : E
  u : Option (Addr × List Value × List E)
  b : Bool
structure BRec where
  l : Addr
  vs : List Value
  es : List E
structure Ag where
  ag : Addr
  d : Addr
  sl : Addr
  t : Tok
  bs : List BRec
  aa : Addr
  al : List ARec
noncomputable def pairE (x : E) : AV := .tup [.e x, .none]
noncomputable def ARec.c (w : World) (r : ARec) : Cell := allC w r.d r.v r.z (r.u.map (·.1)) r.b
noncomputable def ARec.f (r : ARec) : List Fact := [.ob r.p (tupObj [.ref r.a, .none]), .ob r.a (instObj 788 r.d), .v (.ref r.v) (.var r.x), .v (.ref r.z) (.e r.e)] ++ (match r.u with | none => [] | some (l, vs, es) => [.li l vs, .l vs (es.map .e)])
noncomputable def Ag.lists (G : Ag) : List Value := (G.bs.map fun b => .ref b.l) ++ [.ref G.aa]
noncomputable def Ag.c (w : World) (G : Ag) : List Cell := .di G.d [("sets", G.t, .ref G.sl)] :: .li G.sl G.lists :: .li G.aa (G.al.map fun r => .ref r.p) :: ((G.bs.map fun b => .li b.l b.vs) ++ G.al.map (ARec.c w))
noncomputable def Ag.f (G : Ag) : List Fact := .ob G.ag (instObj 1406 G.d) :: ((G.bs.map fun b => .l b.vs (b.es.map pairE)) ++ (G.al.map ARec.f).flatten)
noncomputable def Ag.ok (G : Ag) (fs : List Fact) (N : Nat) : Prop := G.bs.length = 20 ∧ (∀ f ∈ G.f, f ∈ fs) ∧ (∀ b ∈ G.bs, b.vs.length ≤ N) ∧ G.al.length ≤ N
theorem Ag.ok.mono {G : Ag} {fs fs' : List Fact} {N : Nat} (h : G.ok fs N) (k : ∀ f ∈ fs, f ∈ fs') : G.ok fs' N := ⟨h.1, fun f hf => k f (h.2.1 f hf), h.2.2⟩
theorem Ag.ok.le {G : Ag} {fs : List Fact} {N M : Nat} (h : G.ok fs N) (k : N ≤ M) : G.ok fs M := ⟨h.1, h.2.1, fun b hb => Nat.le_trans (h.2.2.1 b hb) k, Nat.le_trans h.2.2.2 k⟩
noncomputable abbrev PAll := Str × E × Option (List E) × Bool
noncomputable abbrev PAg := List (List E) × List PAll
noncomputable def ARec.cont (r : ARec) : PAll := (r.x, r.e, r.u.map (·.2.2), r.b)
noncomputable def Ag.cont (G : Ag) : PAg := (G.bs.map (·.es), G.al.map ARec.cont)
end
section
variable {w : World} {S₀ s : Shared} {cs cs' : List Cell} {fs : List Fact} {A : Around} {E' : Value → Shared → Prop} {Q : Value → Shared → Prop} {env : Env} {R : Result → Shared → Prop}
inductive MI (R : List Cell) (F : List Fact) (i : Nat) (ys : List Value) (cs' : List Cell) (fs' : List Fact) : Prop
  | mk (ls : List Addr) (hy : ys = ls.map .ref) (hl : ls.length = i) (hp : cs'.Perm ((ls.map fun l => Cell.li l []) ++ R)) (hf : ∀ f ∈ F, f ∈ fs')
theorem mk_Agenda (C : St w S₀ cs fs s) (r : Room A 6) (h : ∀ (G : Ag) (fs' : List Fact) (s' : Shared), G.ok fs' 0 → (∀ f ∈ fs, f ∈ fs') → G.cont = (List.replicate 20 [], []) → St w S₀ (G.c w ++ cs) fs' s' → Q (.ref G.ag) s') : wpAny (model pw w) A (call (.ref 1406) []) Q E' s := by
  refine newI C (f := 1327) rfl fun x d s' C => ?_
  refine callF (n := 4) (binds := [("self", .ref x)]) ok1327 C r.made (binds0 (by kernel_rfl)) (by kernel_rfl) (by kernel_rfl) fun L A' s' r' C => ?_
  have nb_range := b_range
  walk_at "B"
  kd_p1
  refine ListComp_ (cl := []) (by exact rfl) ?_
  kd_p1
  rename_i C
  refine callRange C fun q u v s2 C => ?_
  refine iterR (n := 21) C (.head _) (by decide) (by decide) fun it s3 C => ?_
  let __R : List Cell := .ns L [(("self" : Str), Value.ref x)].reverse :: .di d [] :: cs
  let __F : List Fact := .ob x (instObj 1406 d) :: fs
  let __I : Nat → List Value → List Cell → List Fact → Prop := MI __R __F
  refine compW (I := __I) (drwR r'.hand) ?_ (by decide) ⟨[], rfl, rfl, .refl _, (by walk_at "w")⟩ C ?_ ?_
  · intro i ys cs' fs' hI
    obtain ⟨ls, _, hl, hp, hf⟩ := hI
    exact ⟨trivial, .ns L [(("self" : Str), Value.ref x)].reverse, hp.symm.subset (List.mem_append_right _ (.head _))⟩
  · intro i v ys L2 m acc cs' fs' s4 E4 hi
    revert v
    refine turnR rfl fun tk hI C => ?_
    walk_at "k"
    obtain ⟨ls, hy, hl, hp, hf⟩ := hI
    refine lotR ?_
    kd_p1
    refine wpAny_tests_nil ?_
    kd_p1
    rename_i a s5 C
    refine ⟨("i", .int (0 + (i : Int) * 1) tk) :: m, .li a [] :: cs', fs', ⟨ls ++ [a], by rw [hy, List.map_append]; rfl, by rw [List.length_append, hl]; rfl, ?_, hf⟩, C.permC ?_⟩
    · rw [List.map_append]
      refine (List.Perm.cons _ hp).trans ?_
      rw [List.append_assoc]
      exact List.perm_middle.symm
    · exact @List.perm_middle _ (.li a []) [_, _, _] cs'
  · intro ys acc L2 m cs' fs' s4 hy hI C s5 C
    walk_at "k"
    obtain ⟨ls, hy2, hl, hp, hf⟩ := hI
    rw [hy2] at C
    have hx := hf _ (.head _)
    have C := C.permC (cs' := .li acc (ls.map .ref) :: .ns L [(("self" : Str), Value.ref x)].reverse :: .di d [] :: ((ls.map fun l => Cell.li l []) ++ cs)) (.cons _ ((hp.trans ?_).symm))
    · kd_p1
      refine ⟨rfl, ?_⟩
      rename_i s6 C
      obtain ⟨ini, la, rfl⟩ : ∃ ini la, ls = ini ++ [la] := ⟨ls.dropLast, ls.getLast (fun q => by rw [q] at hl; cases hl), (List.dropLast_concat_getLast _).symm⟩
      have hl' : ini.length = 20 := by simp at hl; kd_p
      have C := (C.permC (@List.perm_middle _ (Cell.li acc _) [_, _] _)).drop.nilL
      have e : Ag.c w ⟨x, d, acc, s5.toks + 1, ini.map fun l => ⟨l, [], []⟩, la, []⟩ ++ cs = .di d (putF "sets" (s5.toks + 1) (.ref acc) []) :: .li acc ((ini ++ [la]).map .ref) :: .li la [] :: ((ini.map fun l => Cell.li l []) ++ cs) := by
        simp [Ag.c, Ag.lists, Function.comp_def, putF]
      refine h ⟨x, d, acc, s5.toks + 1, ini.map fun l => ⟨l, [], []⟩, la, []⟩ _ s6 ⟨by simp [hl'], ?_, ?_, Nat.zero_le _⟩ (fun f hf' => .tail _ (hf f (.tail _ hf'))) ?_ (e ▸ C.permC (.cons _ (.cons _ ?_)))
      · intro f hf'
        simp only [Ag.f, List.map_nil, List.flatten_nil, List.append_nil, List.mem_cons, List.map_map, List.mem_map, Function.comp_def] at hf'
        rcases hf' with rfl | ⟨l, _, rfl⟩
        · exact .tail _ hx
        · exact .head _
      · intro b hb
        obtain ⟨l, _, rfl⟩ := List.mem_map.mp hb
        exact Nat.zero_le _
      · simp [Ag.cont, Function.comp_def, List.map_const', hl']
      · show (Cell.li la [] :: (List.map (fun l => Cell.li l []) ini ++ cs)).Perm (List.map (fun l => Cell.li l []) (ini ++ [la]) ++ cs)
        rw [List.map_append, List.append_assoc]
        exact List.perm_middle.symm
    · exact List.perm_append_comm.trans (.cons _ (.cons _ List.perm_append_comm))
end
theorem Upd.appL {c c' : Cell} {l l' r : List Cell} (U : Upd c c' l l') : Upd c c' (l ++ r) (l' ++ r) := by
  induction U with
  | head => exact .head
  | tail _ ih => exact .tail ih
theorem updMap {α : Type} {f : α → Cell} {x y : α} {l2 : List α} : ∀ {l1 : List α}, Upd (f x) (f y) ((l1 ++ x :: l2).map f) ((l1 ++ y :: l2).map f)
  | [] => .head
  | _ :: _ => .tail updMap
noncomputable def Ag.setAl (G : Ag) (al : List ARec) : Ag := { G with al := al }
theorem Ag.updAl {w : World} {G : Ag} {l1 l2 : List ARec} {x y : ARec} {cs : List Cell} (h : x.p = y.p) : Upd (x.c w) (y.c w) ((G.setAl (l1 ++ x :: l2)).c w ++ cs) ((G.setAl (l1 ++ y :: l2)).c w ++ cs) := by
  refine Upd.appL ?_
  unfold Ag.c Ag.setAl
  dsimp only
  have e : (l1 ++ x :: l2).map (fun r => Value.ref r.p) = (l1 ++ y :: l2).map fun r => Value.ref r.p := by simp [h]
  rw [e]
  exact .tail (.tail (.tail (Upd.appR updMap)))
noncomputable def ARec.fresh (r : ARec) : ARec := { r with b := false }
section
variable {w : World} {S₀ s : Shared} {cs cs' : List Cell} {fs : List Fact} {A : Around} {E' : Value → Shared → Prop} {Q : Value → Shared → Prop} {env : Env} {R : Result → Shared → Prop} {G : Ag} {N : Nat}
theorem St.agIn {c : Cell} (C : St w S₀ (c :: (G.c w ++ cs)) fs s) : St w S₀ (G.c w ++ (c :: cs)) fs s := C.permC List.perm_middle
theorem St.agOut {c : Cell} (C : St w S₀ (G.c w ++ (c :: cs)) fs s) : St w S₀ (c :: (G.c w ++ cs)) fs s := C.permC List.perm_middle.symm
theorem Ag.m_d : Cell.di G.d [("sets", G.t, .ref G.sl)] ∈ G.c w ++ cs := .head _
theorem Ag.m_sl : Cell.li G.sl G.lists ∈ G.c w ++ cs := .tail _ (.head _)
theorem Ag.m_aa : Cell.li G.aa (G.al.map fun r => .ref r.p) ∈ G.c w ++ cs := .tail _ (.tail _ (.head _))
theorem Ag.f_ag (h : G.ok fs N) : Fact.ob G.ag (instObj 1406 G.d) ∈ fs := h.2.1 _ (.head _)
theorem Ag.f_al {r : ARec} (h : G.ok fs N) (hr : r ∈ G.al) : ∀ f ∈ r.f, f ∈ fs := fun f hf => h.2.1 _ (.tail _ (List.mem_append_right _ (List.mem_flatten.mpr ⟨_, List.mem_map_of_mem hr, hf⟩)))
theorem Ag.list20 (h : G.ok fs N) : G.lists[20]? = some (.ref G.aa) := by
  unfold Ag.lists
  rw [List.getElem?_append_right (by simp [h.1])]
  simp [h.1]
theorem fresh_p (l : List ARec) : (l.map ARec.fresh).map (fun r => Value.ref r.p) = l.map fun r => Value.ref r.p := by simp [ARec.fresh, Function.comp_def]
theorem Ag.ok.fresh (h : G.ok fs N) : (G.setAl (G.al.map ARec.fresh)).ok fs N := by
  refine ⟨h.1, fun f hf => h.2.1 f ?_, h.2.2.1, by simp [Ag.setAl]; exact h.2.2.2⟩
  have e : (G.setAl (G.al.map ARec.fresh)).f = G.f := by
    unfold Ag.f Ag.setAl
    simp only [List.map_map]
    rfl
  rwa [e] at hf
theorem mark_fresh (C : St w S₀ (G.c w ++ cs) fs s) (hG : G.ok fs N) (r : Room A 6) (h : ∀ s', St w S₀ ((G.setAl (G.al.map ARec.fresh)).c w ++ cs) fs s' → Q .none s') : wpAny (model pw w) A (call (.ref 1382) [.ref G.ag]) Q E' s := by
  refine wpAny_call (callF (n := 5) (binds := [("self", .ref G.ag)]) ok1382 C r (binds0 (by kernel_rfl)) (by kernel_rfl) (by kernel_rfl) fun L A' s' r' C => ?_)
  have nc_ALL := c_ALL; have ng_Categories := g_Categories
  walk_at "B"
  replace C := C.agIn
  walk_at "mI"
  rename_i C
  have i1 : IsI (G.c w ++ (.ns L [(("self" : Str), Value.ref G.ag)].reverse :: cs)) fs G.ag 1406 [("sets", G.t, .ref G.sl)] := isI2 (Ag.f_ag hG) Ag.m_d
  kd_p1
  refine atI C i1 rfl rfl fun s' C => ?_
  kd_p1
  rename_i C
  refine tailL C (.inl Ag.m_sl) (by decide) (by decide) (Ag.list20 hG) ?_
  kd_p1
  first | refine iterL C (.inl Ag.m_aa) fun it s2 C => ?_ | rename_i it s2 C
  refine forW (I := fun i cs' fs' => ∃ m, cs' = (G.setAl ((G.al.take i).map ARec.fresh ++ G.al.drop i)).c w ++ (.ns L m :: cs) ∧ (∀ f ∈ fs, f ∈ fs')) (drwL (l := G.aa) (vs := G.al.map fun r => .ref r.p) r'.hand) ?_ ?_ C ?_ ?_
  · rintro i cs' fs' ⟨m, rfl, hf⟩
    refine ⟨.inl ?_, _, .head _⟩
    have e : (G.al.map fun r => Value.ref r.p) = ((G.al.take i).map ARec.fresh ++ G.al.drop i).map fun r => Value.ref r.p := by
      rw [List.map_append, fresh_p, ← List.map_append, List.take_append_drop]
    rw [e]
    exact Ag.m_aa (G := G.setAl ((G.al.take i).map ARec.fresh ++ G.al.drop i))
  · exact ⟨_, rfl, fun f hf => hf⟩
  · intro i v cs' fs' s3 E3 hi hv hI C
    obtain ⟨m, rfl, hf⟩ := hI
    rw [List.length_map] at hi
    rw [List.getElem?_map, Option.map_eq_some_iff] at hv
    obtain ⟨q, hq, rfl⟩ := hv
    have hqi : G.al[i] = q := Option.some.inj ((List.getElem?_eq_getElem hi).symm.trans hq)
    have hqf := Ag.f_al hG (List.mem_of_getElem? hq)
    have f1 : Fact.ob q.p (tupObj [.ref q.a, .none]) ∈ fs' := hf _ (hqf _ (List.mem_append_left _ (.head _)))
    have f2 : Fact.ob q.a (instObj 788 q.d) ∈ fs' := hf _ (hqf _ (List.mem_append_left _ (.tail _ (.head _))))
    have e1 : (G.al.take i).map ARec.fresh ++ G.al.drop i = (G.al.take i).map ARec.fresh ++ q :: G.al.drop (i + 1) := by rw [List.drop_eq_getElem_cons hi, hqi]
    have e2 : (G.al.take (i + 1)).map ARec.fresh ++ G.al.drop (i + 1) = (G.al.take i).map ARec.fresh ++ q.fresh :: G.al.drop (i + 1) := by
      rw [List.take_add_one, hq, List.map_append, List.append_assoc]; rfl
    rw [e1] at C
    rw [e2]
    refine lotL C (.head _) ?_
    refine asT2 C (.head _) r'.hand f1 rfl fun s4 C => ?_
    kd_p1
    rename_i C
    refine setExh C f2 (.tail (Ag.updAl (x := q) (y := q.fresh) rfl)) fun s5 C => ?_
    kd_p1
    exact ⟨_, fs', ⟨_, rfl, hf⟩, C⟩
  · intro cs' fs' s3 hI C
    walk_at "k"
    obtain ⟨m, rfl, hf⟩ := hI
    rw [List.length_map, List.take_length, List.drop_length, List.append_nil] at C
    kd_p1
    exact h _ ((C.agOut.drop).weakF hf)
end
theorem put_binds {w : World} {s : Shared} {ag a : Addr} {args : Args} (X : (KK w.params).In s.heap) (h : args = ⟨[.ref ag, .ref a], []⟩ ∨ args = ⟨[.ref ag, .ref a, .none], []⟩) : BindsTo s F1347 args [("self", .ref ag), ("expression", .ref a), ("context", .none)] := by
  rcases h with rfl | rfl
  · exact kp_binds X fun S => by kernel_rfl
  · exact kp_binds X fun S => by kernel_rfl
noncomputable def putP (P : PAg) : E → PAg
  | .all x t => (P.1, P.2 ++ [(x, t, some [], false)])
  | e => (P.1.modify (catE e).toNat (· ++ [e]), P.2)
section
variable {w : World} {S₀ s : Shared} {cs cs' : List Cell} {fs : List Fact} {A : Around} {E' : Value → Shared → Prop} {Q : Value → Shared → Prop} {env : Env} {R : Result → Shared → Prop} {G : Ag} {N : Nat}
theorem mk_AllM {v1 v2 : Addr} {x1 : Str} {x2 : E} (C : St w S₀ cs fs s) (r : Room A 5) (h1 : Fact.v (.ref v1) (.var x1) ∈ fs) (h2 : Fact.v (.ref v2) (.e x2) ∈ fs)
    (h : ∀ a d s', St w S₀ (allC w d v1 v2 none false :: cs) (.ob a (instObj 788 d) :: fs) s' → Q (.ref a) s') : wpAny (model pw w) A (call (.ref 788) [.ref v1, .ref v2]) Q E' s := by
  refine newI C (f := 626) rfl fun x d s' C => ?_
  refine callF (n := 3) (binds := [("self", .ref x), ("variable", .ref v1), ("term", .ref v2)]) ok626 C r.made (binds0 (by kernel_rfl)) (by kernel_rfl) (by kernel_rfl) fun L A' s' r' C => ?_
  have nb_isinstance := b_isinstance; have ng_Variable := g_Variable; have ng_Expression := g_Expression
  walk_at "B"
  kd_p1
  refine ⟨rfl, ?_⟩
  rename_i s' C
  refine h x d _ ?_
  exact C.drop.recell (c' := allC w d v1 v2 none false) rfl fun h => ⟨_, h, _, _, none, none, true, rfl, rfl, rfl⟩
noncomputable def catB (e : E) : Bool := decide (0 ≤ catE e) && decide ((catE e).toNat < 20)
theorem catE_lt {e : E} (h : ∀ x t, e ≠ .all x t) : 0 ≤ catE e ∧ (catE e).toNat < 20 := by
  have : catB e = true := by
    cases e with
    | all x t => exact absurd rfl (h x t)
    | neg t => cases t <;> kernel_rfl
    | _ => kernel_rfl
  have := Bool.and_eq_true_iff.mp this
  exact ⟨of_decide_eq_true this.1, of_decide_eq_true this.2⟩
theorem modify_split {α : Type} {f : α → α} {l : List α} {k : Nat} {x : α} (h : l[k]? = some x) : ∃ l1 l2, l = l1 ++ x :: l2 ∧ l1.length = k ∧ l.modify k f = l1 ++ f x :: l2 := by
  have hk := (List.getElem?_eq_some_iff.mp h).1
  have hx := (List.getElem?_eq_some_iff.mp h).2
  refine ⟨l.take k, l.drop (k + 1), ?_, List.length_take_of_le (Nat.le_of_lt hk), ?_⟩
  · rw [← hx, ← List.drop_eq_getElem_cons hk, List.take_append_drop]
  · rw [List.modify_eq_take_cons_drop hk, hx]
noncomputable def Ag.push (G : Ag) (l1 l2 : List BRec) (b : BRec) (v : Value) (e : E) : Ag := { G with bs := l1 ++ ⟨b.l, b.vs ++ [v], b.es ++ [e]⟩ :: l2 }
theorem Ag.updBs {l1 l2 : List BRec} {b : BRec} {v : Value} {e : E} (h : G.bs = l1 ++ b :: l2) : Upd (.li b.l b.vs) (.li b.l (b.vs ++ [v])) (G.c w ++ cs) ((G.push l1 l2 b v e).c w ++ cs) := by
  refine Upd.appL ?_
  unfold Ag.c Ag.push Ag.lists
  dsimp only
  rw [h]
  have e1 : (l1 ++ b :: l2).map (fun b => Value.ref b.l) = (l1 ++ (⟨b.l, b.vs ++ [v], b.es ++ [e]⟩ : BRec) :: l2).map fun b => Value.ref b.l := by simp
  rw [e1]
  exact .tail (.tail (.tail (Upd.appL (updMap (f := fun b : BRec => Cell.li b.l b.vs) (x := b) (y := ⟨b.l, b.vs ++ [v], b.es ++ [e]⟩)))))
theorem Ag.ok.push {l1 l2 : List BRec} {b : BRec} {v : Value} {e : E} (h : G.ok fs N) (hb : G.bs = l1 ++ b :: l2) (hf : Fact.l (b.vs ++ [v]) ((b.es ++ [e]).map pairE) ∈ fs) : (G.push l1 l2 b v e).ok fs (N + 1) := by
  refine ⟨?_, fun f hf' => ?_, fun c hc => ?_, Nat.le_succ_of_le h.2.2.2⟩
  · have := h.1; rw [hb] at this; simpa [Ag.push] using this
  · simp only [Ag.f, Ag.push, List.mem_cons, List.mem_append, List.mem_map] at hf'
    rcases hf' with rfl | ⟨c, hc, rfl⟩ | hf'
    · exact h.2.1 _ (.head _)
    · rcases hc with hc | rfl | hc
      · exact h.2.1 _ (.tail _ (List.mem_append_left _ (List.mem_map.mpr ⟨c, by rw [hb]; exact List.mem_append_left _ hc, rfl⟩)))
      · exact hf
      · exact h.2.1 _ (.tail _ (List.mem_append_left _ (List.mem_map.mpr ⟨c, by rw [hb]; exact List.mem_append_right _ (.tail _ hc), rfl⟩)))
    · exact h.2.1 _ (.tail _ (List.mem_append_right _ hf'))
  · have k := h.2.2.1
    rw [hb] at k
    simp only [Ag.push, List.mem_append, List.mem_cons] at hc
    rcases hc with hc | rfl | hc
    · exact Nat.le_succ_of_le (k c (List.mem_append_left _ hc))
    · have := k b (List.mem_append_right _ (.head _))
      simp only [List.length_append, List.length_cons, List.length_nil]; kd_p
    · exact Nat.le_succ_of_le (k c (List.mem_append_right _ (.tail _ hc)))
theorem Ag.listk {l1 l2 : List BRec} {b : BRec} (hb : G.bs = l1 ++ b :: l2) : G.lists[l1.length]? = some (.ref b.l) := by
  unfold Ag.lists
  rw [hb]
  simp
theorem modify_at {α : Type} {f : α → α} {x : α} {l2 : List α} : ∀ {l1 : List α}, (l1 ++ x :: l2).modify l1.length f = l1 ++ f x :: l2
  | [] => rfl
  | y :: l1 => by
    show (y :: (l1 ++ x :: l2)).modify (l1.length + 1) f = _
    rw [List.modify_succ_cons, modify_at]; rfl
theorem St.mkPair (C : St w S₀ cs fs s) {p : Addr} {v : Value} {x : E} (ho : Fact.ob p (tupObj [v, .none]) ∈ fs) (hv : Fact.v v (.e x) ∈ fs) : St w S₀ cs (.v (.ref p) (pairE x) :: fs) s := C.fact fun g Y => by
  exact relT (xs := [.e x, .none]) (Y _ ho) (relL1 (Y _ hv) (relL1 rfl relL0))
theorem Ag.cont_push {l1 l2 : List BRec} {b : BRec} {v : Value} {e : E} (hb : G.bs = l1 ++ b :: l2) : (G.push l1 l2 b v e).cont = (G.cont.1.modify l1.length (· ++ [e]), G.cont.2) := by
  unfold Ag.cont Ag.push
  dsimp only
  rw [hb]
  simp only [List.map_append, List.map_cons]
  have := @modify_at (List E) (· ++ [e]) b.es (l2.map (·.es)) (l1.map (·.es))
  rw [List.length_map] at this
  rw [this]
noncomputable def Ag.half (w : World) (G : Ag) (q : ARec) : List Cell := .di G.d [("sets", G.t, .ref G.sl)] :: .li G.sl G.lists :: .li G.aa ((G.al.map fun r => .ref r.p) ++ [.ref q.p]) :: ((G.bs.map fun b => .li b.l b.vs) ++ G.al.map (ARec.c w))
theorem Ag.updAa {q : ARec} : Upd (.li G.aa (G.al.map fun r => .ref r.p)) (.li G.aa ((G.al.map fun r => .ref r.p) ++ [.ref q.p])) (G.c w ++ cs) (G.half w q ++ cs) := .tail (.tail .head)
theorem Ag.join {q : ARec} (C : St w S₀ (q.c w :: (G.half w q ++ cs)) fs s) : St w S₀ ((G.setAl (G.al ++ [q])).c w ++ cs) fs s := by
  refine C.permC ?_
  have e : (G.setAl (G.al ++ [q])).c w ++ cs = G.half w q ++ (q.c w :: cs) := by
    unfold Ag.c Ag.half Ag.setAl Ag.lists
    simp
  rw [e]
  exact List.perm_middle
theorem Ag.ok.addAl {q : ARec} (h : G.ok fs N) (hq : ∀ f ∈ q.f, f ∈ fs) : (G.setAl (G.al ++ [q])).ok fs (N + 1) := by
  refine ⟨h.1, fun f hf => ?_, fun b hb => Nat.le_succ_of_le (h.2.2.1 b hb), by simp [Ag.setAl]; exact h.2.2.2⟩
  simp only [Ag.f, Ag.setAl, List.map_append, List.flatten_append, List.map_cons, List.map_nil, List.flatten_cons, List.flatten_nil, List.append_nil, List.mem_cons, List.mem_append] at hf
  rcases hf with rfl | hf | hf | hf
  · exact h.2.1 _ (.head _)
  · exact h.2.1 _ (.tail _ (List.mem_append_left _ hf))
  · exact h.2.1 _ (.tail _ (List.mem_append_right _ hf))
  · exact hq f hf
theorem code_put {a : Addr} {e : E} {args : Args} (C : St w S₀ (G.c w ++ cs) fs s) (hG : G.ok fs N) (hN : N ≤ 5000) (r : Room A 16) (hw : wfE e) (h1 : Fact.v (.ref a) (.e e) ∈ fs) (ha : args = ⟨[.ref G.ag, .ref a], []⟩ ∨ args = ⟨[.ref G.ag, .ref a, .none], []⟩)
    (h : ∀ (G' : Ag) (fs' : List Fact) (s' : Shared), G'.ag = G.ag → G'.cont = putP G.cont e → G'.ok fs' (N + 1) → (∀ f ∈ fs, f ∈ fs') → St w S₀ (G'.c w ++ cs) fs' s' → R (.ok (.ret .none)) s') : codeAny (model pw w) A (.call (.ref 1347) args) R s := by
  refine callF (n := 15) (binds := [("self", .ref G.ag), ("expression", .ref a), ("context", .none)]) ok1347 C r (put_binds C.kin ha) (by kernel_rfl) (by kernel_rfl) fun L A' s' r' C => ?_
  have nb_isinstance := b_isinstance; have ng_AllExpression := g_AllExpression
  walk_at "B"
  replace C := C.agIn
  walk_at "mI"
  rename_i C
  have g1 := Ag.f_ag hG
  kd_p1
  rename_i C
  refine isiE C h1 (by exact rfl) fun s2 C => ?_
  cases hc : (ups e).contains 788 with
  | false =>
    have hna : ∀ x t, e ≠ .all x t := fun x t q => by rw [q] at hc; cases hc
    have hp : putP G.cont e = (G.cont.1.modify (catE e).toNat (· ++ [e]), G.cont.2) := by
      cases e <;> first | rfl | exact absurd rfl (hna _ _)
    obtain ⟨c0, c1⟩ := catE_lt hna
    kd_p1
    rename_i C
    refine cat_E C (r'.le (by kd_p)) g1 Ag.m_d hw h1 fun u s3 C => ?_
    obtain ⟨b, hbk⟩ : ∃ b, G.bs[(catE e).toNat]? = some b := ⟨_, List.getElem?_eq_getElem (by rw [hG.1]; exact c1)⟩
    obtain ⟨l1, l2, hb, hlen, _⟩ := modify_split (f := id) hbk
    have hlk := Ag.listk hb
    rw [hlen] at hlk
    refine tailL C (.inl Ag.m_sl) c0 (by kd_p) hlk ?_
    kd_p1
    refine gmL C (Ag.updBs (v := .none) (e := e) hb).mem ?_
    kd_p1
    rename_i p s4 C
    have hbz := hG.2.2.1 b (by rw [hb]; exact List.mem_append_right _ (.head _))
    refine appL C (Ag.updBs (e := e) hb) (by kd_p) fun s5 C => ?_
    have hbf : Fact.l b.vs (b.es.map pairE) ∈ fs := hG.2.1 _ (.tail _ (List.mem_append_left _ (List.mem_map.mpr ⟨b, by rw [hb]; exact List.mem_append_right _ (.head _), rfl⟩)))
    replace C := C.mkPair (v := .ref a) (x := e) (p := p) (by kd_in) (by kd_in)
    replace C := C.snoc (vs := b.vs) (as := b.es.map pairE) (v := .ref p) (a := pairE e) (by kd_in) (.head _)
    kd_p1
    refine h (G.push l1 l2 b (.ref p) e) _ _ rfl ?_ (Ag.ok.push (hG.mono (by walk_at "w")) hb ?_) (by walk_at "w") C.agOut.drop
    · rw [hp, Ag.cont_push hb, hlen]
    · rw [List.map_append]; exact .head _
  | true =>
    obtain ⟨x, t, rfl⟩ : ∃ x t, e = .all x t := by cases e <;> first | exact ⟨_, _, rfl⟩ | cases hc
    obtain ⟨k1, k2, k3, k4, C⟩ := C.openAll h1
    kd_p1
    rename_i C
    refine mk_AllM (x1 := x) (x2 := t) C (r'.le (by kd_p)) (by kd_in) (by kd_in) fun a' d' s3 C => ?_
    kd_p1
    unfold vz
    kd_p1
    rename_i q s4 C
    refine setUsed C (a := a') (d := d') (by kd_in) (.tail .head) fun s5 C => ?_
    kd_p1
    rename_i C
    obtain ⟨t1, t2, u', e', ord, C, q1, q2⟩ := (C.permC (List.Perm.swap _ _ _)).openA
    refine cat_All C (r'.le (by kd_p)) (isI2 (by kd_in) (.head _)) fun u s6 C => ?_
    replace C := C.closeA q1 q2
    refine tailL C (.inl (.tail _ (.tail _ Ag.m_sl))) (by decide) (by decide) (Ag.list20 hG) ?_
    kd_p1
    rename_i p s7 C
    refine appL C (.tail (.tail (Ag.updAa (q := ⟨p, a', d', k3, k4, x, t, some (q, [], []), false⟩)))) (by have := hG.2.2.2; simp; kd_p) fun s8 C => ?_
    replace C := ((C.permC (List.Perm.swap _ _ _)).freezeL).nilL
    kd_p1
    refine h (G.setAl (G.al ++ [⟨p, a', d', k3, k4, x, t, some (q, [], []), false⟩])) _ _ rfl ?_ (Ag.ok.addAl (hG.mono (by walk_at "w")) ?_) (by walk_at "w") (Ag.join (q := ⟨p, a', d', k3, k4, x, t, some (q, [], []), false⟩) C).agOut.drop
    · simp [Ag.cont, Ag.setAl, ARec.cont, putP]
    · simp only [ARec.f, List.cons_append, List.nil_append, List.map_nil]
      walk_at "w"
end
section
variable {w : World} {S₀ s : Shared} {cs cs' : List Cell} {fs : List Fact} {A : Around} {E' : Value → Shared → Prop} {Q : Value → Shared → Prop} {env : Env} {R : Result → Shared → Prop} {G : Ag} {N : Nat}
inductive PA (w : World) (G : Ag) (N : Nat) (es : List E) (L : Addr) (F : List Fact) (cs : List Cell) (i : Nat) (cs' : List Cell) (fs' : List Fact) : Prop
  | mk (m : List (Str × Value)) (G' : Ag) (ha : G'.ag = G.ag) (hc : cs' = G'.c w ++ (.ns L m :: cs)) (ho : G'.ok fs' (N + i)) (hf : ∀ f ∈ F, f ∈ fs') (hp : G'.cont = (es.take i).foldl putP G.cont) (hm : m.lookup ("self" : Str) = some (.ref G.ag))
theorem code_putAll {l : Addr} {vs : List Value} {es : List E} (C : St w S₀ (G.c w ++ cs) fs s) (hG : G.ok fs N) (hN : N + es.length ≤ 5000) (r : Room A 18) (hw : ∀ e ∈ es, wfE e) (hl : Cell.li l vs ∈ cs ∨ Fact.li l vs ∈ fs) (hv : Fact.l vs (es.map .e) ∈ fs)
    (h : ∀ (G' : Ag) (fs' : List Fact) (s' : Shared), G'.ag = G.ag → G'.cont = es.foldl putP G.cont → G'.ok fs' (N + es.length) → (∀ f ∈ fs, f ∈ fs') → St w S₀ (G'.c w ++ cs) fs' s' → R (.ok (.ret .none)) s') : codeAny (model pw w) A (.call (.ref 1354) ⟨[.ref G.ag, .ref l], []⟩) R s := by
  have hlen : vs.length = es.length := by have := C.len hv; rwa [List.length_map] at this
  refine callF (n := 17) (binds := [("self", .ref G.ag), ("expressions", .ref l)]) ok1354 C r (binds0 (by kernel_rfl)) (by kernel_rfl) (by kernel_rfl) fun L A' s' r' C => ?_
  walk_at "B"
  replace C := C.agIn
  walk_at "mI"
  rename_i C
  kd_p1
  refine iterL (by assumption) (hl.imp (fun h => List.mem_append_right _ (.tail _ h)) id) fun it s2 C => ?_
  let __I : Nat → List Cell → List Fact → Prop := PA w G N es L fs cs
  refine forW (I := __I) (drwL (l := l) (vs := vs) r'.hand) ?_ ⟨_, G, rfl, rfl, hG, fun f hf => hf, rfl, rfl⟩ C ?_ ?_
  · intro i cs' fs' hI
    obtain ⟨m, G', hag, he, hG', hf, hc, hm⟩ := hI
    rw [he]
    exact ⟨hl.imp (fun h => List.mem_append_right _ (.tail _ h)) (hf _), _, .head _⟩
  · intro i v cs' fs' s3 E3 hi hvi hI C
    walk_at "k"
    obtain ⟨m, G', hag, he0, hG', hf, hc, hm⟩ := hI
    replace C := C.eq1 he0
    obtain ⟨e, he, C⟩ := C.itemOf (K := kE) (hf _ hv) hvi
    obtain ⟨a, rfl⟩ := C.ref (.head _)
    have g1 : Fact.ob G.ag (instObj 1406 G'.d) ∈ fs' := hag ▸ Ag.f_ag hG'
    refine lotL C (.head _) ?_
    kd_p1
    rename_i C
    refine wpAny_call (code_put (G := G') (N := N + i) (cs := itC it l (i + 1) :: .ns L (("expression", .ref a) :: m) :: cs) (C.permC List.perm_middle) (hG'.mono (by walk_at "w")) (by kd_p) (r'.le (by kd_p)) (hw e (List.mem_of_getElem? he)) (.head _) (.inl (by rw [hag])) fun G2 fs2 s4 hag2 hc2 hG2 hf2 C => ?_)
    kd_p1
    refine ⟨_, fs2, ⟨("expression", .ref a) :: m, G2, hag2.trans hag, rfl, hG2, fun f k => hf2 f (.tail _ (hf f k)), ?_, hm⟩, C.permC List.perm_middle.symm⟩
    rw [hc2, hc, List.take_add_one, he, List.foldl_append]
    rfl
  · intro cs' fs' s3 hI C
    walk_at "k"
    obtain ⟨m, G', hag, he, hG', hf, hc, hm⟩ := hI
    rw [he] at C
    rw [hlen] at hG'
    rw [hlen, List.take_length] at hc
    kd_p1
    exact h G' fs' _ hag hc hG' hf C.agOut.drop
end
section
variable {w : World} {S₀ s : Shared} {cs cs' : List Cell} {fs : List Fact} {A : Around} {E' : Value → Shared → Prop} {Q : Value → Shared → Prop} {env : Env} {R : Result → Shared → Prop} {G : Ag} {N : Nat}
theorem gmPop {a : Addr} {vs : List Value} {pl : Sem Bool} {Q : Value × List Value → Shared → Prop} (C : St w S₀ cs fs s) (hl : Cell.li a vs ∈ cs) (h : Q (.builtin "list.pop", [.ref a]) s) : wpAny (model pw w) A (getMethod (.ref a) "pop" pl) Q E' s := by
  obtain ⟨n, e⟩ := C.cell hl
  exact PyProof.Rows.getMethod_list_of F.slot_list_pop F.type_list_pop ⟨_, e, rfl, n, rfl⟩ ⟨_, e, rfl⟩ h
theorem popAt {a : Addr} {l1 l2 : List Value} {x : Value} {u : Tok} (C : St w S₀ cs fs s) (U : Upd (.li a (l1 ++ x :: l2)) (.li a (l1 ++ l2)) cs cs') (hz : (l1 ++ x :: l2).length ≤ 100000) (h : ∀ s', St w S₀ cs' fs s' → Q x s') :
    wpAny (model pw w) A (call (.builtin "list.pop") [.ref a, .int l1.length u]) Q E' s := by
  obtain ⟨n, e⟩ := C.cell U.mem
  have hk : l1.length < (l1 ++ x :: l2).length := by simp
  have h1 : Builtin.List.listFitsIndex (l1.length : Int) = true := by
    unfold Builtin.List.listFitsIndex
    simp only [Bool.and_eq_true, decide_eq_true_eq]
    kd_p
  have h2 : seqIndex? (l1.length : Int) (l1 ++ x :: l2).toArray.size = some l1.length := by
    have : ¬ ((l1.length : Int) < 0) := by kd_p
    unfold seqIndex?
    simp [this]
    kd_p
  have h3 : (l1 ++ x :: l2).toArray[l1.length]? = some x := by rw [List.getElem?_toArray, List.getElem?_append_right (Nat.le_refl _), Nat.sub_self]; rfl
  have h4 : (l1 ++ x :: l2).toArray.size ≤ sizeLine := Nat.le_trans (by rw [List.size_toArray]; exact hz) (show 100000 ≤ sizeLine by decide)
  generalize (l1.length : Int) = i at h1 h2 ⊢
  generalize hA : (l1 ++ x :: l2).toArray = items at h2 h3 h4 e
  refine call_meets F.slot_list_pop ⟨_, e, rfl⟩ F.entry_list_pop (F.args_list_pop_2 _ _) (MeetsSeq.list_pop_at a items n i u l1.length x h1 h2 h3 h4) ⟨e, ?_⟩
  subst hA
  · refine h _ (C.upd (tk := s.toks) U (Heap.SameBut.update ..) rfl ?_)
    have e2 : ((l1 ++ x :: l2).toArray.eraseIdxIfInBounds l1.length) = (l1 ++ l2).toArray := by
      simp [Array.eraseIdxIfInBounds]
      rw [List.eraseIdx_append_of_length_le (Nat.le_refl _)]; simp
    have e3 : ∃ k, (Obj.mapSeq (fun xs => xs.eraseIdxIfInBounds l1.length) { cls := .type "list", data := .seq (l1 ++ x :: l2).toArray n }) = { cls := .type "list", data := .seq (l1 ++ l2).toArray k } := by
      rw [← e2]; exact ⟨_, rfl⟩
    obtain ⟨k, e3⟩ := e3
    exact ⟨k, by rw [Heap.get?_update_self _ e (by rw [e3]; rfl), e3]⟩
theorem popAtJ {a : Addr} {l1 l2 : List Value} {x : Value} {u : Tok} {j : Nat} (hj : l1.length = j) (C : St w S₀ cs fs s) (U : Upd (.li a (l1 ++ x :: l2)) (.li a (l1 ++ l2)) cs cs') (hz : (l1 ++ x :: l2).length ≤ 100000) (h : ∀ s', St w S₀ cs' fs s' → Q x s') :
    wpAny (model pw w) A (call (.builtin "list.pop") [.ref a, .int j u]) Q E' s := hj ▸ popAt C U hz h
theorem popLast {a : Addr} {l1 : List Value} {x : Value} (C : St w S₀ cs fs s) (U : Upd (.li a (l1 ++ [x])) (.li a l1) cs cs') (hz : (l1 ++ [x]).length ≤ 100000) (h : ∀ s', St w S₀ cs' fs s' → Q x s') :
    wpAny (model pw w) A (call (.builtin "list.pop") [.ref a]) Q E' s := by
  obtain ⟨n, e⟩ := C.cell U.mem
  refine call_meets F.slot_list_pop ⟨_, e, rfl⟩ F.entry_list_pop (F.args_list_pop_1 _) (MeetsSeq.list_pop_last a (l1 ++ [x]).toArray n x (by simp) (Nat.le_trans (by rw [List.size_toArray]; exact hz) (by decide))) ⟨e, ?_⟩
  refine h _ (C.upd (tk := s.toks) U (Heap.SameBut.update ..) rfl ?_)
  have e2 : ((l1 ++ [x]).toArray.eraseIdxIfInBounds ((l1 ++ [x]).toArray.size - 1)) = l1.toArray := by
    simp [Array.eraseIdxIfInBounds]
    rw [List.eraseIdx_append_of_length_le (Nat.le_refl _)]; simp
  have e3 : ∃ k, (Obj.mapSeq (fun xs => xs.eraseIdxIfInBounds ((l1 ++ [x]).toArray.size - 1)) { cls := .type "list", data := .seq (l1 ++ [x]).toArray n }) = { cls := .type "list", data := .seq l1.toArray k } := by
    rw [← e2]; exact ⟨_, rfl⟩
  obtain ⟨k, e3⟩ := e3
  exact ⟨k, by rw [Heap.get?_update_self _ e (by rw [e3]; rfl), e3]⟩
theorem int_asks {I : Shared → Prop} {a b : Int} {t u : Tok} {n : Nat} : AsksEq w I n (.int a t) (.int b u) (a == b) := by
  intro A E Q s r i h
  unfold eqBool
  refine wpAny_holding ?_
  by_cases e : (Value.int a t == Value.int b u) = true
  · rw [if_pos e]
    have e' := beq_iff_eq.mp e
    injection e' with e1 e2
    subst e1
    have := h s i
    rw [beq_self_eq_true] at this
    exact wpAny_bind (wpAny_rule (wpAny_pure this))
  · rw [if_neg e]
    refine wpAny_bind (Q := _) (PyProof.Rows.eq_int (A := A) (E := E) (s := s) ?_)
    exact truthOf_bool (h s i)
theorem in_two {l : Addr} {i a b : Int} {t u v : Tok} (C : St w S₀ cs fs s) (r : Room A 2) (hl : Cell.li l [.int a u, .int b v] ∈ cs ∨ Fact.li l [.int a u, .int b v] ∈ fs) (h : ∀ s', St w S₀ cs fs s' → Q (.bool (a == i || b == i)) s') : wpAny (model pw w) A (compareOp .In (.int i t) (.ref l)) Q E' s := by
  refine in_of (I := St w S₀ cs fs) (n := 1) (bs := [a == i, b == i]) (items := [.int a u, .int b v]) (fun s C => C.plain hl) rfl (fun k y c e1 e2 => ?_) r C fun s' C => ?_
  · match k with
    | 0 => cases e1; cases e2; exact int_asks
    | 1 => cases e1; cases e2; exact int_asks
    | k + 2 => simp at e1
  · have := h s' C
    simpa using this
end
noncomputable def firstNE : List (List E) → Option (Nat × E × List (List E))
  | [] => none
  | l :: r => match l.getLast? with
    | some e => some (0, e, l.dropLast :: r)
    | none => (firstNE r).map fun p => (p.1 + 1, p.2.1, l :: p.2.2)
theorem firstNE_at {l2 : List (List E)} {l : List E} {e : E} : ∀ {l1 : List (List E)}, (∀ x ∈ l1, x = []) → firstNE (l1 ++ (l ++ [e]) :: l2) = some (l1.length, e, l1 ++ l :: l2)
  | [], _ => by simp [firstNE]
  | x :: l1, h => by
    have hx := h x (.head _)
    subst hx
    have ih := firstNE_at (l2 := l2) (l := l) (e := e) (l1 := l1) fun y hy => h y (.tail _ hy)
    simp [firstNE, ih]
theorem firstNE_none : ∀ {l : List (List E)}, (∀ x ∈ l, x = []) → firstNE l = none
  | [], _ => rfl
  | x :: l, h => by
    have hx := h x (.head _)
    subst hx
    simp [firstNE, firstNE_none fun y hy => h y (.tail _ hy)]
section
variable {w : World} {S₀ s : Shared} {cs cs' : List Cell} {fs : List Fact} {A : Around} {E' : Value → Shared → Prop} {Q : Value → Shared → Prop} {env : Env} {R : Result → Shared → Prop} {G : Ag} {N : Nat}
theorem Ag.lists_at (h : G.ok fs N) {i : Nat} {v : Value} (hv : G.lists[i]? = some v) : (i < 20 ∧ ∃ b, G.bs[i]? = some b ∧ v = .ref b.l) ∨ (i = 20 ∧ v = .ref G.aa) := by
  unfold Ag.lists at hv
  by_cases hi : i < 20
  · rw [List.getElem?_append_left (by simp [h.1, hi]), List.getElem?_map, Option.map_eq_some_iff] at hv
    obtain ⟨b, hb, rfl⟩ := hv
    exact .inl ⟨hi, b, hb, rfl⟩
  · rw [List.getElem?_append_right (by rw [List.length_map, h.1]; exact Nat.le_of_not_lt hi)] at hv
    simp only [List.length_map, h.1] at hv
    have : i - 20 = 0 := by
      have := (List.getElem?_eq_some_iff.mp hv).1
      simpa using this
    rw [this] at hv
    simp at hv
    exact .inr ⟨Nat.le_antisymm (Nat.le_of_sub_eq_zero this) (Nat.le_of_not_lt hi), hv.symm⟩
theorem Ag.updB {L1 L2 : List BRec} {b b' : BRec} (h : G.bs = L1 ++ b :: L2) (hl : b'.l = b.l) : Upd (.li b.l b.vs) (.li b'.l b'.vs) (G.c w ++ cs) (({ G with bs := L1 ++ b' :: L2 } : Ag).c w ++ cs) := by
  refine Upd.appL ?_
  unfold Ag.c Ag.lists
  dsimp only
  rw [h]
  have e1 : (L1 ++ b :: L2).map (fun b => Value.ref b.l) = (L1 ++ b' :: L2).map fun b => Value.ref b.l := by simp [hl]
  rw [e1]
  exact .tail (.tail (.tail (Upd.appL (updMap (f := fun b : BRec => Cell.li b.l b.vs) (x := b) (y := b')))))
theorem Ag.ok.setB {l1 l2 : List BRec} {b b' : BRec} (h : G.ok fs N) (hb : G.bs = l1 ++ b :: l2) (hf : Fact.l b'.vs (b'.es.map pairE) ∈ fs) (hl : b'.vs.length ≤ N) : ({ G with bs := l1 ++ b' :: l2 } : Ag).ok fs N := by
  refine ⟨?_, fun f hf' => ?_, fun c hc => ?_, h.2.2.2⟩
  · have := h.1; rw [hb] at this; simpa using this
  · simp only [Ag.f, List.mem_cons, List.mem_append, List.mem_map] at hf'
    rcases hf' with rfl | ⟨c, hc, rfl⟩ | hf'
    · exact h.2.1 _ (.head _)
    · rcases hc with hc | rfl | hc
      · exact h.2.1 _ (.tail _ (List.mem_append_left _ (List.mem_map.mpr ⟨c, by rw [hb]; exact List.mem_append_left _ hc, rfl⟩)))
      · exact hf
      · exact h.2.1 _ (.tail _ (List.mem_append_left _ (List.mem_map.mpr ⟨c, by rw [hb]; exact List.mem_append_right _ (.tail _ hc), rfl⟩)))
    · exact h.2.1 _ (.tail _ (List.mem_append_right _ hf'))
  · have k := h.2.2.1
    rw [hb] at k
    simp only [List.mem_append, List.mem_cons] at hc
    rcases hc with hc | rfl | hc
    · exact k c (List.mem_append_left _ hc)
    · exact hl
    · exact k c (List.mem_append_right _ (.tail _ hc))
theorem relL_unsnoc {P : Params} {g : PM} {a : AV} {v : Value} : ∀ {as : List AV} {vs : List Value}, RelL P g (as ++ [a]) (vs ++ [v]) → RelL P g as vs ∧ RelV P g a v
  | [], [], h => by
    have h : RelL P g [a] [v] := h
    obtain ⟨u, r, e, h1, h2⟩ := h
    cases e
    exact ⟨rfl, h1⟩
  | [], x :: vs, h => by
    have h : RelL P g [a] (x :: (vs ++ [v])) := h
    have := relL_len h
    simp at this
  | x :: as, [], h => by
    have h : RelL P g (x :: (as ++ [a])) [v] := h
    have := relL_len h
    simp at this
  | x :: as, y :: vs, h => by
    have h : RelL P g (x :: (as ++ [a])) (y :: (vs ++ [v])) := h
    obtain ⟨u, r, e, h1, h2⟩ := h
    cases e
    obtain ⟨h3, h4⟩ := relL_unsnoc h2
    exact ⟨by exact Exists.intro _ ⟨_, rfl, h1, h3⟩, h4⟩
theorem St.unsnoc (C : St w S₀ cs fs s) {vs : List Value} {as : List AV} {v : Value} {a : AV} (h : Fact.l (vs ++ [v]) (as ++ [a]) ∈ fs) : St w S₀ cs (.l vs as :: .v v a :: fs) s := by
  obtain ⟨g, X, Y⟩ := C
  obtain ⟨h1, h2⟩ := relL_unsnoc (Y _ h)
  exact ⟨g, X, fun f hf => (List.mem_append.mp (show f ∈ [Fact.l vs as, .v v a] ++ fs from hf)).elim (ok2 (a := .l vs as) (b := .v v a) h1 h2 f) (Y f)⟩
noncomputable def Ag.less (w : World) (G : Ag) (l1 l2 : List ARec) : List Cell := .di G.d [("sets", G.t, .ref G.sl)] :: .li G.sl G.lists :: .li G.aa ((l1.map fun r => .ref r.p) ++ (l2.map fun r => .ref r.p)) :: ((G.bs.map fun b => .li b.l b.vs) ++ G.al.map (ARec.c w))
theorem Ag.updLess {l1 l2 : List ARec} {q : ARec} (h : G.al = l1 ++ q :: l2) : Upd (.li G.aa ((l1.map fun r => Value.ref r.p) ++ .ref q.p :: (l2.map fun r => Value.ref r.p))) (.li G.aa ((l1.map fun r => .ref r.p) ++ (l2.map fun r => .ref r.p))) (G.c w ++ cs) (G.less w l1 l2 ++ cs) := by
  unfold Ag.c Ag.less
  have e : (G.al.map fun r => Value.ref r.p) = (l1.map fun r => Value.ref r.p) ++ .ref q.p :: (l2.map fun r => Value.ref r.p) := by rw [h]; simp
  rw [e]
  exact .tail (.tail .head)
theorem Ag.part {l1 l2 : List ARec} {q : ARec} (h : G.al = l1 ++ q :: l2) (C : St w S₀ (G.less w l1 l2 ++ cs) fs s) : St w S₀ (q.c w :: ((G.setAl (l1 ++ l2)).c w ++ cs)) fs s := by
  refine C.permC ?_
  unfold Ag.less Ag.c Ag.setAl Ag.lists
  rw [h]
  simp only [List.map_append, List.map_cons, List.cons_append, List.append_assoc]
  refine (List.perm_middle (l₁ := [_, _, _]) (a := q.c w)).symm.trans ?_
  refine .cons _ (.cons _ (.cons _ ?_))
  refine (List.perm_middle (l₁ := (G.bs.map fun b => Cell.li b.l b.vs) ++ l1.map (ARec.c w)) (a := q.c w) (l₂ := l2.map (ARec.c w) ++ cs)).symm.trans (.of_eq (by rw [List.append_assoc])) |> fun z => by simpa using z
inductive PI (w : World) (G : Ag) (L : Addr) (F : List Fact) (cs : List Cell) (i : Nat) (cs' : List Cell) (fs' : List Fact) : Prop
  | mk (m : List (Str × Value)) (hc : cs' = G.c w ++ (.ns L m :: cs)) (hf : ∀ f ∈ F, f ∈ fs') (hem : ∀ j b, j < i → G.bs[j]? = some b → b.es = []) (hex : i = 21 → ∀ x ∈ G.al, x.b = true)
inductive PJ (w : World) (G : Ag) (L : Addr) (x y z : Cell) (F : List Fact) (cs : List Cell) (tk : Tok) (j : Nat) (cs' : List Cell) (fs' : List Fact) : Prop
  | mk (m : List (Str × Value)) (hc : cs' = x :: y :: z :: (G.c w ++ (.ns L m :: cs))) (hf : ∀ f ∈ F, f ∈ fs') (hex : ∀ k q, k < j → G.al[k]? = some q → q.b = true) (k1 : m.lookup ("s" : Str) = some (.ref G.aa)) (k2 : m.lookup ("i" : Str) = some (.int (20 : Nat) tk))
theorem code_pop (C : St w S₀ (G.c w ++ cs) fs s) (hG : G.ok fs N) (hN : N ≤ 5000) (h6 : ∀ b, G.bs[6]? = some b → b.es = []) (r : Room A 6)
    (hA : ∀ (G' : Ag) (ls : List (List E)) (e : E) (k : Nat) (fs' : List Fact) (t p c : Addr) (u : Tok) (s' : Shared), firstNE G.cont.1 = some (k, e, ls) → G'.ag = G.ag → G'.cont = (ls, G.cont.2) → G'.ok fs' N → (∀ f ∈ fs, f ∈ fs') →
      Fact.ob t (tupObj [.ref p, .int k u]) ∈ fs' → Fact.ob p (tupObj [.ref c, .none]) ∈ fs' → Fact.v (.ref c) (.e e) ∈ fs' → St w S₀ (G'.c w ++ cs) fs' s' → R (.ok (.ret (.ref t))) s')
    (hB : ∀ (l1 l2 : List ARec) (q : ARec) (fs' : List Fact) (t : Addr) (u : Tok) (s' : Shared), firstNE G.cont.1 = none → G.al = l1 ++ q :: l2 → (∀ x ∈ l1, x.b = true) → q.b = false → (∀ f ∈ fs, f ∈ fs') →
      Fact.ob t (tupObj [.ref q.p, .int 20 u]) ∈ fs' → St w S₀ (q.c w :: ((G.setAl (l1 ++ l2)).c w ++ cs)) fs' s' → R (.ok (.ret (.ref t))) s')
    (hC : ∀ (fs' : List Fact) (t t2 : Addr) (s' : Shared), firstNE G.cont.1 = none → (∀ x ∈ G.al, x.b = true) → (∀ f ∈ fs, f ∈ fs') → Fact.ob t (tupObj [.ref t2, .none]) ∈ fs' → Fact.ob t2 (tupObj [.none, .none]) ∈ fs' → St w S₀ (G.c w ++ cs) fs' s' → R (.ok (.ret (.ref t))) s') :
    codeAny (model pw w) A (.call (.ref 1368) ⟨[.ref G.ag], []⟩) R s := by
  refine callF (n := 5) (binds := [("self", .ref G.ag)]) ok1368 C r (binds0 (by kernel_rfl)) (by kernel_rfl) (by kernel_rfl) fun L A' s' r' C => ?_
  have nb_enumerate := b_enumerate; have nc_N_EQ := c_N_EQ; have nc_ALL := c_ALL; have ng_Categories := g_Categories
  walk_at "B"
  replace C := C.agIn
  walk_at "mI"
  rename_i C
  have g1 := Ag.f_ag hG
  have hll : G.lists.length = 21 := by simp [Ag.lists, hG.1]
  kd_p1
  rename_i C
  refine callEnum C (.inl Ag.m_sl) fun en it s2 C => ?_
  kd_p1
  refine wpAny_pyIter_enum (C.cell (.head _)) ?_
  refine enumW (vs := G.lists) (I := PI w G L fs cs) r'.hand ?_ ⟨_, rfl, fun f hf => hf, fun j b h => absurd h (Nat.not_lt_zero _), fun h => by cases h⟩ C ?_ ?_
  · intro i cs' fs' hI
    obtain ⟨m, hc, _⟩ := hI
    rw [hc]
    exact ⟨.inl Ag.m_sl, _, Ag.m_d⟩
  · intro i v tk old cs' fs' s3 E3 hv hI C
    walk_at "k"
    obtain ⟨m, hc, hf, hem, _⟩ := hI
    replace C := C.eq2 hc
    have g2 := hf _ g1
    rcases Ag.lists_at hG hv with ⟨hi, b, hb, rfl⟩ | ⟨rfl, rfl⟩
    · have hbm := List.mem_of_getElem? hb
      have hbf : Fact.l b.vs (b.es.map pairE) ∈ fs' := hf _ (hG.2.1 _ (.tail _ (List.mem_append_left _ (List.mem_map.mpr ⟨b, hbm, rfl⟩))))
      have hbl : b.vs.length = b.es.length := by have := C.len hbf; rwa [List.length_map] at this
      have hbc : Cell.li b.l b.vs ∈ G.c w := .tail _ (.tail _ (.tail _ (List.mem_append_left _ (List.mem_map.mpr ⟨b, hbm, rfl⟩))))
      kd_p1
      refine truthyL (by assumption) (.inl (.tail _ (.tail _ (List.mem_append_left _ hbc)))) (by have := hG.2.2.1 b hbm; kd_p) fun s4 C => ?_
      cases hemp : b.vs.isEmpty with
      | true =>
        kd_p1
        have he0 : b.es = [] := by
          have : b.vs = [] := by simpa using hemp
          rw [this] at hbl
          exact List.eq_nil_of_length_eq_zero hbl.symm
        refine ⟨_, _, fs', ⟨_, rfl, hf, fun j c hj hc => ?_, fun h => by kd_p⟩, C⟩
        rcases Nat.lt_or_eq_of_le (Nat.le_of_lt_succ hj) with hj | rfl
        · exact hem j c hj hc
        · rw [hb] at hc; cases hc; exact he0
      | false =>
        kd_p1
        rename_i li s5 C
        have hne : b.es ≠ [] := fun q => by rw [q] at hbl; have : b.vs = [] := List.eq_nil_of_length_eq_zero hbl; rw [this] at hemp; cases hemp
        have hi6 : i ≠ 6 := fun q => hne (h6 b (q ▸ hb))
        refine in_two C (r'.le (by kd_p)) (.inl (by kd_in)) fun s6 C => ?_
        have hb0 : ((6 : Int) == (i : Int) || (20 : Int) == (i : Int)) = false := by
          rw [Bool.or_eq_false_iff]
          exact ⟨beq_eq_false_iff_ne.mpr (by kd_p), beq_eq_false_iff_ne.mpr (by kd_p)⟩
        rw [hb0]
        kd_p1
        obtain ⟨el, e, hes⟩ : ∃ el e, b.es = el ++ [e] := ⟨b.es.dropLast, b.es.getLast hne, (List.dropLast_concat_getLast hne).symm⟩
        have hvne : b.vs ≠ [] := fun q => by rw [q] at hemp; cases hemp
        obtain ⟨vl, x, hvs⟩ : ∃ vl x, b.vs = vl ++ [x] := ⟨b.vs.dropLast, b.vs.getLast hvne, (List.dropLast_concat_getLast hvne).symm⟩
        obtain ⟨L1, L2, hbs, hlen, hmod⟩ := modify_split (f := id) hb
        have U := Ag.updB (w := w) (cs := .ns L (("s", .ref b.l) :: ("i", .int i tk) :: m) :: cs) (b' := ⟨b.l, vl, el⟩) hbs rfl
        rw [hvs] at U hbf hbc
        rw [hes, List.map_append, List.map_cons, List.map_nil] at hbf
        refine gmPop C (.tail _ (.tail _ (.tail _ (List.mem_append_left _ hbc)))) ?_
        refine PyProof.Rows.callWith_method0 ?_
        have hbz := hG.2.2.1 b hbm
        rw [hvs] at hbz
        refine popLast C (.tail (.tail (.tail U))) (by kd_p) fun s7 C => ?_
        replace C := C.unsnoc (vs := vl) (as := el.map pairE) (v := x) (a := pairE e) (by kd_in)
        obtain ⟨p, c, z, rfl, C⟩ := C.openPair (.tail _ (.head _))
        have hz := C.noneV (v := z) (.tail _ (.tail _ (.head _)))
        subst hz
        obtain ⟨c, rfl⟩ := C.ref (.tail _ (.head _))
        kd_p1
        rename_i t s8 C
        have hemL : ∀ y ∈ L1.map (·.es), y = [] := fun y hy => by
          obtain ⟨d, hd, rfl⟩ := List.mem_map.mp hy
          obtain ⟨j, hj⟩ := List.mem_iff_getElem?.mp hd
          have hjl := (List.getElem?_eq_some_iff.mp hj).1
          exact hem j d (by kd_p) (by rw [hbs, List.getElem?_append_left hjl]; exact hj)
        refine hA { G with bs := L1 ++ ⟨b.l, vl, el⟩ :: L2 } (L1.map (·.es) ++ el :: L2.map (·.es)) e L1.length _ t p c tk _ ?_ rfl ?_ ?_ (by intro f k; have := hf f k; kd_in) ?_ (by kd_in) (by kd_in) ((C.weakC (by walk_at "s")).agOut.drop)
        · have := firstNE_at (l2 := L2.map (·.es)) (l := el) (e := e) hemL
          rw [List.length_map] at this
          rw [← this]
          show firstNE (G.bs.map (·.es)) = _
          rw [hbs, List.map_append, List.map_cons, hes]
        · simp [Ag.cont]
        · exact Ag.ok.setB (hG.mono (by intro f k; have := hf f k; kd_in)) hbs (by kd_in) (by simp at hbz; show vl.length ≤ N; kd_p)
        · rw [hlen]; kd_in
    · have hfn : firstNE G.cont.1 = none := firstNE_none fun x hx => by
        obtain ⟨b, hb, rfl⟩ := List.mem_map.mp hx
        obtain ⟨j, hj⟩ := List.mem_iff_getElem?.mp hb
        exact hem j b (by have := (List.getElem?_eq_some_iff.mp hj).1; have := hG.1; kd_p) hj
      have hz : (G.al.map fun r => Value.ref r.p).length ≤ 100000 := by rw [List.length_map]; have := hG.2.2.2; kd_p
      have hem' : ∀ j b, j < 20 + 1 → G.bs[j]? = some b → b.es = [] := fun j b hj hb => hem j b (by have := (List.getElem?_eq_some_iff.mp hb).1; have := hG.1; kd_p) hb
      kd_p1
      rename_i C
      cases hemp : (G.al.map fun r => Value.ref r.p).isEmpty with
      | true =>
        kd_p1
        have : G.al = [] := by simpa using hemp
        exact ⟨_, _, fs', ⟨_, rfl, hf, hem', fun _ x hx => by rw [this] at hx; cases hx⟩, C⟩
      | false =>
        kd_p1
        rename_i li s5 C
        refine in_two C (r'.le (by kd_p)) (.inl (by kd_in)) fun s6 C => ?_
        rw [show ((6 : Int) == ((20 : Nat) : Int) || (20 : Int) == ((20 : Nat) : Int)) = true from rfl]
        kd_p1
        rename_i C
        refine callEnum C (.inl (.tail _ (.tail _ (.tail _ Ag.m_aa)))) fun en2 it2 s7 C => ?_
        kd_p1
        refine wpAny_pyIter_enum (C.cell (.head _)) ?_
        refine enumW (vs := G.al.map fun r => Value.ref r.p) (I := PJ w G L _ _ _ fs cs tk) r'.hand ?_ ⟨_, rfl, hf, fun j b h => absurd h (Nat.not_lt_zero _), rfl, rfl⟩ C ?_ ?_
        · intro j cs' fs'' hI
          obtain ⟨m, hc, _⟩ := hI
          rw [hc]
          exact ⟨.inl (.tail _ (.tail _ (.tail _ Ag.m_aa))), _, .head _⟩
        · intro j v tk2 old2 cs' fs'' s8 E8 hv2 hI C
          walk_at "k"
          obtain ⟨m, hc, hf2, hex2, hm2, hmi⟩ := hI
          replace C := C.eq2 hc
          rw [List.getElem?_map, Option.map_eq_some_iff] at hv2
          obtain ⟨q, hq, rfl⟩ := hv2
          have hqm := List.mem_of_getElem? hq
          have hqf := Ag.f_al hG hqm
          have f1 : Fact.ob q.p (tupObj [.ref q.a, .none]) ∈ fs'' := hf2 _ (hqf _ (List.mem_append_left _ (.head _)))
          have f2 : Fact.ob q.a (instObj 788 q.d) ∈ fs'' := hf2 _ (hqf _ (List.mem_append_left _ (.tail _ (.head _))))
          have hqc : q.c w ∈ G.c w := .tail _ (.tail _ (.tail _ (List.mem_append_right _ (List.mem_map_of_mem hqm))))
          kd_p1
          refine getExh (by assumption) f2 (.tail _ (.tail _ (.tail _ (.tail _ (.tail _ (List.mem_append_left _ hqc)))))) fun s9 C => ?_
          cases hqb : q.b with
          | true =>
            kd_p1
            refine ⟨old2, _, fs'', ⟨("ex", .ref q.p) :: ("at", .int j tk2) :: m, rfl, hf2, fun k q' hk hq' => ?_, hm2, hmi⟩, C⟩
            rcases Nat.lt_or_eq_of_le (Nat.le_of_lt_succ hk) with hk | rfl
            · exact hex2 k q' hk hq'
            · rw [hq] at hq'; cases hq'; exact hqb
          | false =>
            kd_p1
            refine gmPop C (.tail _ (.tail _ (.tail _ (.tail _ (.tail _ Ag.m_aa))))) ?_
            kd_p1
            obtain ⟨l1, l2, hal, hlen, hmod⟩ := modify_split (f := id) hq
            have hlm : (l1.map fun r => Value.ref r.p).length = j := by rw [List.length_map]; exact hlen
            have hz2 : ((l1.map fun r => Value.ref r.p) ++ .ref q.p :: (l2.map fun r => Value.ref r.p)).length ≤ 100000 := by
              rw [hal] at hz; simpa using hz
            refine popAtJ hlm (by assumption) (.tail (.tail (.tail (.tail (.tail (Ag.updLess hal)))))) hz2 fun s10 C => ?_
            kd_p1
            rename_i t s11 C
            replace C := Ag.part hal (C.weakC (cs' := G.less w l1 l2 ++ _) (by walk_at "s"))
            refine hB l1 l2 q _ t tk s11 hfn hal (fun y hy => ?_) hqb (by intro f k; have := hf2 f k; kd_in) (.head _) ?_
            · obtain ⟨k, hk⟩ := List.mem_iff_getElem?.mp hy
              have hkl := (List.getElem?_eq_some_iff.mp hk).1
              exact hex2 k y (hlen ▸ hkl) (by rw [hal, List.getElem?_append_left hkl]; exact hk)
            · exact C.weakC (List.Sublist.cons_cons _ (List.Sublist.append (List.Sublist.refl _) (List.sublist_cons_self _ _)))
        · intro cs' fs'' s8 hI C
          walk_at "k"
          obtain ⟨m, hc, hf2, hex2, hm2, hmi⟩ := hI
          rw [hc] at C
          kd_p1
          exact ⟨_, _, fs'', ⟨_, rfl, hf2, hem', fun _ x hx => by
            obtain ⟨k, hk⟩ := List.mem_iff_getElem?.mp hx
            exact hex2 k x (by rw [List.length_map]; exact (List.getElem?_eq_some_iff.mp hk).1) hk⟩, C.drop⟩
  · intro cs' fs' s3 hI C
    walk_at "k"
    obtain ⟨m, hc, hf, hem, hex⟩ := hI
    rw [hc] at C
    rw [hll] at hem hex
    kd_p1
    rename_i t2 _ _ t s5 C
    have hfn : firstNE G.cont.1 = none := firstNE_none fun x hx => by
      obtain ⟨b, hb, rfl⟩ := List.mem_map.mp hx
      obtain ⟨j, hj⟩ := List.mem_iff_getElem?.mp hb
      exact hem j b (by have := (List.getElem?_eq_some_iff.mp hj).1; have := hG.1; kd_p) hj
    exact hC _ t t2 _ hfn (hex rfl) (by intro f k; have := hf f k; kd_in) (by kd_in) (by kd_in) C.agOut.drop
end
noncomputable def cloneA (p : PAll) : PAll := (p.1, p.2.1, some (p.2.2.1.getD []), false)
noncomputable def cloneP (P : PAg) : PAg := (P.1, P.2.map cloneA)
noncomputable abbrev PSt := Int × Option Int
noncomputable def unE (xs ys : List E) : List E := uni eqE (uni eqE [] xs) ys
noncomputable def unP (xs ys : List (E × Bool)) : List (E × Bool) := uni kP.eq (uni kP.eq [] xs) ys
noncomputable def freshA (q : PAll) : PAll := (q.1, q.2.1, q.2.2.1, false)
noncomputable def freshP (P : PAg) : PAg := (P.1, P.2.map freshA)
noncomputable def splitX : List PAll → Option (List PAll × PAll × List PAll)
  | [] => none
  | q :: r => if q.2.2.2 then (splitX r).map fun p => (q :: p.1, p.2.1, p.2.2) else some ([], q, r)
noncomputable abbrev Rec := PAg → List E → List (E × Bool) → PSt → Option (Bool × PSt)
noncomputable def orS (rec : Rec) (P1 P2 : PAg) (acc : List E) (ats : List (E × Bool)) (st : PSt) : Option (Bool × PSt) :=
  match rec P1 acc ats st with
  | some (true, st') => rec P2 acc ats st'
  | some (false, st') => some (false, st')
  | none => none
noncomputable def zE (k : Int) : E := .iv (zN k)
noncomputable def addAllP (P : PAg) (q : PAll) : PAg := (P.1, P.2 ++ [q])
noncomputable def stepE (rec : Rec) (e : E) (P : PAg) (acc : List E) (ats : List (E × Bool)) (st : PSt) : Option (Bool × PSt) :=
  match e with
  | .app f x => if ats.any (fun p => kP.eq p (.app f x, true)) then some (true, st) else rec (freshP P) (unE acc (argsE (.app f x))) (unP ats [(.app f x, false)]) st
  | .neg (.app f x) => if ats.any (fun p => kP.eq p (.app f x, false)) then some (true, st) else rec (freshP P) (unE acc (argsE (.app f x))) (unP ats [(.app f x, true)]) st
  | .neg (.neg t) => rec (putP P t) acc ats st
  | .neg (.all x t) => rec (putP P (.ex x (.neg t))) acc ats st
  | .neg (.ex x t) => rec (addAllP P (x, .neg t, none, false)) acc ats st
  | .and a b => rec (putP (putP P a) b) acc ats st
  | .neg (.or a b) => rec (putP (putP P (.neg a)) (.neg b)) acc ats st
  | .neg (.imp a b) => rec (putP (putP P a) (.neg b)) acc ats st
  | .or a b => orS rec (putP P a) (putP (cloneP P) b) acc ats st
  | .imp a b => orS rec (putP P (.neg a)) (putP (cloneP P) b) acc ats st
  | .neg (.and a b) => orS rec (putP P (.neg a)) (putP (cloneP P) (.neg b)) acc ats st
  | .ex x t => if st.1 < 59 then rec (freshP (putP P (sub x (zE (st.1 + 1)) t))) (unE acc [zE (st.1 + 1)]) ats (st.1 + 1, st.2) else none
  | _ => none
noncomputable def usedA (q : PAll) : List E := q.2.2.1.getD []
noncomputable def stepA (rec : Rec) (q : PAll) (P : PAg) (acc : List E) (ats : List (E × Bool)) (st : PSt) : Option (Bool × PSt) :=
  if acc.isEmpty then
    if st.1 < 59 then rec (freshP (addAllP (putP P (sub q.1 (zE (st.1 + 1)) q.2.1)) (q.1, q.2.1, some (unE (usedA q) [zE (st.1 + 1)]), q.2.2.2))) (unE acc [zE (st.1 + 1)]) ats (st.1 + 1, st.2) else none
  else match acc.filter (fun v => !(usedA q).any fun y => eqE y v) with
    | v :: _ => rec (addAllP (putP P (sub q.1 v q.2.1)) (q.1, q.2.1, some (unE (usedA q) [v]), q.2.2.2)) acc ats st
    | [] => rec (addAllP P (q.1, q.2.1, some (usedA q), true)) acc ats st
noncomputable def overL (k : Option Int) : Bool := match k with
  | some j => decide (j < 0)
  | none => false
noncomputable def att : Nat → Rec
  | 0 => fun _ _ _ st => some (false, st)
  | n + 1 => fun P acc ats st =>
    if overL (st.2.map (· - 1)) then some (false, (st.1, st.2.map (· - 1))) else
    match firstNE P.1 with
    | some (_, e, ls) => stepE (att n) e (ls, P.2) acc ats (st.1, st.2.map (· - 1))
    | none => match splitX P.2 with
      | some (l1, q, l2) => stepA (att n) q (P.1, l1 ++ l2) acc ats (st.1, st.2.map (· - 1))
      | none => some (false, (st.1, st.2.map (· - 1)))
theorem iteP {α : Type} (P : α → Prop) {c : Prop} [Decidable c] {a b : α} (h1 : c → P a) (h2 : ¬c → P b) : P (if c then a else b) := by
  by_cases h : c
  · rw [if_pos h]; exact h1 h
  · rw [if_neg h]; exact h2 h
theorem some3 {α β γ : Type} {a a' : α} {b b' : β} {c c' : γ} (h : some (a, b, c) = some (a', b', c')) : a = a' ∧ b = b' ∧ c = c' := by cases h; exact ⟨rfl, rfl, rfl⟩
theorem firstNE_c {l : List E} {r : List (List E)} {o : Option (Nat × E × List (List E))} (h : firstNE (l :: r) = o) :
    (∃ e, l.getLast? = some e ∧ some (0, e, l.dropLast :: r) = o) ∨ (l.getLast? = none ∧ ((firstNE r).map fun p => (p.1 + 1, p.2.1, l :: p.2.2)) = o) := by
  unfold firstNE at h
  cases q : l.getLast? with
  | some e => rw [q] at h; exact .inl ⟨e, rfl, h⟩
  | none => rw [q] at h; exact .inr ⟨rfl, h⟩
inductive FNE (ls : List (List E)) (k : Nat) (e : E) (ls' : List (List E)) : Prop
  | mk (l1 : List (List E)) (l : List E) (l2 : List (List E)) (h1 : ls = l1 ++ (l ++ [e]) :: l2) (h2 : k = l1.length) (h3 : ls' = l1 ++ l :: l2) (h4 : ∀ x ∈ l1, x = [])
theorem firstNE_spec : ∀ {ls : List (List E)} {k : Nat} {e : E} {ls' : List (List E)}, firstNE ls = some (k, e, ls') → FNE ls k e ls'
  | [], _, _, _, h => nomatch h
  | l :: r, k, e, ls', h => by
    rcases firstNE_c h with ⟨e', he, h⟩ | ⟨hl, h⟩
    · obtain ⟨h1, h2, h3⟩ := some3 h
      obtain ⟨ini, h4⟩ := List.getLast?_eq_some_iff.mp he
      exact ⟨[], ini, r, by rw [h4, h2]; rfl, h1.symm, by rw [← h3, h4, List.dropLast_concat]; rfl, fun x hx => nomatch hx⟩
    · obtain ⟨p, hp, h⟩ := Option.map_eq_some_iff.mp h
      obtain ⟨h1, h2, h3⟩ := some3 (congrArg some h)
      obtain ⟨l1, l0, l2, q1, q2, q3, q4⟩ := firstNE_spec hp
      exact ⟨l :: l1, l0, l2, by rw [q1, h2]; rfl, by rw [← h1, q2]; rfl, by rw [← h3, q3]; rfl, fun x hx => (List.mem_cons.mp hx).elim (fun q => q ▸ List.getLast?_eq_none_iff.mp hl) (q4 x)⟩
theorem firstNE_nil : ∀ {ls : List (List E)}, firstNE ls = none → ∀ x ∈ ls, x = []
  | [], _ => fun x hx => nomatch hx
  | l :: r, h => by
    rcases firstNE_c h with ⟨e', he, h⟩ | ⟨hl, h⟩
    · nomatch h
    · exact fun x hx => (List.mem_cons.mp hx).elim (fun q => q ▸ List.getLast?_eq_none_iff.mp hl) (firstNE_nil (Option.map_eq_none_iff.mp h) x)
theorem splitX_c {x : PAll} {l : List PAll} : splitX (x :: l) = if x.2.2.2 then (splitX l).map fun p => (x :: p.1, p.2.1, p.2.2) else some ([], x, l) := rfl
theorem splitX_at {q : PAll} {l2 : List PAll} (hq : q.2.2.2 = false) : ∀ {l1 : List PAll}, (∀ x ∈ l1, x.2.2.2 = true) → splitX (l1 ++ q :: l2) = some (l1, q, l2)
  | [], _ => by show splitX (q :: l2) = _; rw [splitX_c, hq]; rfl
  | x :: l1, h => by show splitX (x :: (l1 ++ q :: l2)) = _; rw [splitX_c, h x (.head _), splitX_at hq fun y hy => h y (.tail _ hy)]; rfl
theorem splitX_no : ∀ {l : List PAll}, (∀ x ∈ l, x.2.2.2 = true) → splitX l = none
  | [], _ => rfl
  | x :: l, h => by rw [splitX_c, h x (.head _), splitX_no fun y hy => h y (.tail _ hy)]; rfl
theorem splitX_spec : ∀ {l l1 l2 : List PAll} {q : PAll}, splitX l = some (l1, q, l2) → l = l1 ++ q :: l2 ∧ q.2.2.2 = false
  | [], _, _, _, h => nomatch h
  | x :: l, l1, l2, q, h => by
    rw [splitX_c] at h
    cases hx : x.2.2.2 with
    | true =>
      rw [hx] at h
      obtain ⟨p, hp, h⟩ := Option.map_eq_some_iff.mp h
      obtain ⟨h1, h2, h3⟩ := some3 (congrArg some h)
      obtain ⟨q1, q2⟩ := splitX_spec hp
      exact ⟨by rw [← h1, ← h2, ← h3, q1]; rfl, by rw [← h2]; exact q2⟩
    | false =>
      rw [hx] at h
      obtain ⟨h1, h2, h3⟩ := some3 h
      exact ⟨by rw [← h1, ← h2, ← h3]; rfl, by rw [← h2]; exact hx⟩
noncomputable def bndN : List Str := ["x", "y"]
noncomputable def clE : List Str → E → Prop
  | _, .con _ => True
  | bs, .iv n => n ∈ bndN → n ∈ bs
  | bs, .app f a => clE bs f ∧ clE bs a
  | bs, .neg t => clE bs t
  | bs, .and a b => clE bs a ∧ clE bs b
  | bs, .or a b => clE bs a ∧ clE bs b
  | bs, .imp a b => clE bs a ∧ clE bs b
  | bs, .all x t => x ∈ bndN ∧ clE (x :: bs) t
  | bs, .ex x t => x ∈ bndN ∧ clE (x :: bs) t
noncomputable def okA (y : E) : Prop := (∃ n, nameE y = some n) ∧ ∀ x ∈ bndN, y ≠ .iv x
theorem clE_mono : ∀ {e : E} {bs bs' : List Str}, (∀ x ∈ bs, x ∈ bs') → clE bs e → clE bs' e
  | .con _, _, _, _, _ => trivial
  | .iv _, _, _, k, h => fun q => k _ (h q)
  | .app _ _, _, _, k, h => ⟨clE_mono k h.1, clE_mono k h.2⟩
  | .neg t, bs, bs', k, h => clE_mono (e := t) k h
  | .and _ _, _, _, k, h => ⟨clE_mono k h.1, clE_mono k h.2⟩
  | .or _ _, _, _, k, h => ⟨clE_mono k h.1, clE_mono k h.2⟩
  | .imp _ _, _, _, k, h => ⟨clE_mono k h.1, clE_mono k h.2⟩
  | .all x t, _, _, k, h => ⟨h.1, clE_mono (fun y hy => (List.mem_cons.mp hy).elim (fun q => q ▸ .head _) fun hy => .tail _ (k y hy)) h.2⟩
  | .ex x t, _, _, k, h => ⟨h.1, clE_mono (fun y hy => (List.mem_cons.mp hy).elim (fun q => q ▸ .head _) fun hy => .tail _ (k y hy)) h.2⟩
theorem clE_noCatch {y : E} (hy : okA y) : ∀ {e : E} {bs : List Str}, clE bs e → noCatch y e
  | .con _, _, _ => trivial
  | .iv _, _, _ => trivial
  | .app _ _, _, h => ⟨clE_noCatch hy h.1, clE_noCatch hy h.2⟩
  | .neg t, bs, h => clE_noCatch hy (e := t) (bs := bs) h
  | .and _ _, _, h => ⟨clE_noCatch hy h.1, clE_noCatch hy h.2⟩
  | .or _ _, _, h => ⟨clE_noCatch hy h.1, clE_noCatch hy h.2⟩
  | .imp _ _, _, h => ⟨clE_noCatch hy h.1, clE_noCatch hy h.2⟩
  | .all _ _, _, h => ⟨hy.2 _ h.1, clE_noCatch hy h.2⟩
  | .ex _ _, _, h => ⟨hy.2 _ h.1, clE_noCatch hy h.2⟩
theorem clE_ok {y : E} {bs : List Str} (hy : okA y) : clE bs y := by
  obtain ⟨⟨n, hn⟩, h⟩ := hy
  cases y with
  | con k => trivial
  | iv k => exact fun q => absurd rfl (h k q)
  | _ => cases hn
theorem mdup {x z : Str} {bs : List Str} (e : z = x) : ∀ w ∈ z :: x :: bs, w ∈ z :: bs := fun w hw => (List.mem_cons.mp hw).elim (fun q => q ▸ .head _) fun hw => (List.mem_cons.mp hw).elim (fun q => by rw [q, ← e]; exact .head _) (.tail _)
theorem mswap {x z : Str} {bs : List Str} : ∀ w ∈ z :: x :: bs, w ∈ x :: z :: bs := fun w hw => (List.mem_cons.mp hw).elim (fun q => .tail _ (q ▸ .head _)) fun hw => (List.mem_cons.mp hw).elim (fun q => q ▸ .head _) fun h => .tail _ (.tail _ h)
theorem clE_sub {y : E} (hy : okA y) {x : Str} : ∀ {e : E} {bs : List Str}, clE (x :: bs) e → clE bs (sub x y e)
  | .con n, bs, h => iteP (clE bs) (fun _ => clE_ok hy) fun _ => True.intro
  | .iv n, bs, h => iteP (clE bs) (fun _ => clE_ok hy) fun hn q => (List.mem_cons.mp (h q)).elim (fun e => absurd (beq_iff_eq.mpr e) hn) id
  | .app _ _, _, h => ⟨clE_sub hy h.1, clE_sub hy h.2⟩
  | .neg t, bs, h => clE_sub hy (e := t) (bs := bs) h
  | .and _ _, _, h => ⟨clE_sub hy h.1, clE_sub hy h.2⟩
  | .or _ _, _, h => ⟨clE_sub hy h.1, clE_sub hy h.2⟩
  | .imp _ _, _, h => ⟨clE_sub hy h.1, clE_sub hy h.2⟩
  | .all z t, bs, h => iteP (clE bs) (fun hz => And.intro h.1 (clE_mono (mdup (beq_iff_eq.mp hz)) h.2)) fun _ => And.intro h.1 (clE_sub (x := x) hy (clE_mono mswap h.2))
  | .ex z t, bs, h => iteP (clE bs) (fun hz => And.intro h.1 (clE_mono (mdup (beq_iff_eq.mp hz)) h.2)) fun _ => And.intro h.1 (clE_sub (x := x) hy (clE_mono mswap h.2))
theorem sub_name {x m : Str} {y e : E} (hy : nameE y = some m) (he : (nameE e).isSome) : ∃ k, nameE (sub x y e) = some k := by
  cases e with
  | con n => exact iteP (fun e => ∃ k, nameE e = some k) (fun _ => ⟨_, hy⟩) fun _ => ⟨_, rfl⟩
  | iv n => exact iteP (fun e => ∃ k, nameE e = some k) (fun _ => ⟨_, hy⟩) fun _ => ⟨_, rfl⟩
  | _ => cases he
theorem max2 {a b a' b' : Nat} (h : a = a') (k : b = b') : max a b + 1 = max a' b' + 1 := by rw [h, k]
theorem hgt_sub {x m : Str} {y : E} (hy : nameE y = some m) : ∀ e : E, hgt (sub x y e) = hgt e := by
  have hy0 : hgt y = 0 := by cases y <;> first | rfl | cases hy
  intro e
  induction e with
  | con n => exact iteP (fun e => hgt e = 0) (fun _ => hy0) fun _ => rfl
  | iv n => exact iteP (fun e => hgt e = 0) (fun _ => hy0) fun _ => rfl
  | all z t ih => exact iteP (fun e => hgt e = hgt t + 1) (fun _ => rfl) fun _ => congrArg (· + 1) ih
  | ex z t ih => exact iteP (fun e => hgt e = hgt t + 1) (fun _ => rfl) fun _ => congrArg (· + 1) ih
  | neg t ih => exact congrArg (· + 1) ih
  | _ _ _ ih1 ih2 => exact max2 ih1 ih2
theorem simE_sub {x m : Str} {y : E} (hy : nameE y = some m) : ∀ {e : E}, simE e = true → simE (sub x y e) = true ∧ depE (sub x y e) = depE e := by
  have hy0 : simE y = true ∧ depE y = 0 := by cases y <;> first | exact ⟨rfl, rfl⟩ | cases hy
  intro e
  induction e with
  | con n => exact fun _ => iteP (fun e => simE e = true ∧ depE e = 0) (fun _ => hy0) fun _ => ⟨rfl, rfl⟩
  | iv n => exact fun _ => iteP (fun e => simE e = true ∧ depE e = 0) (fun _ => hy0) fun _ => ⟨rfl, rfl⟩
  | app f a ih1 ih2 =>
    intro h
    have h := Bool.and_eq_true_iff.mp h
    have h1 := ih1 h.1
    have h2 := ih2 h.2
    exact And.intro (Bool.and_eq_true_iff.mpr ⟨h1.1, h2.1⟩) (max2 h1.2 h2.2)
  | _ => intro h; cases h
theorem argsE_sub {x m : Str} {y : E} (hy : nameE y = some m) : ∀ e : E, argsE (sub x y e) = (argsE e).map (sub x y) := by
  have hy0 : argsE y = [] := by cases y <;> first | rfl | cases hy
  intro e
  induction e with
  | con n => exact iteP (fun e => argsE e = []) (fun _ => hy0) fun _ => rfl
  | iv n => exact iteP (fun e => argsE e = []) (fun _ => hy0) fun _ => rfl
  | app f a ih1 _ =>
    show argsE (sub x y f) ++ [sub x y a] = (argsE f ++ [a]).map (sub x y)
    rw [ih1, List.map_append]; rfl
  | all z t _ => exact iteP (fun e => argsE e = []) (fun _ => rfl) fun _ => rfl
  | ex z t _ => exact iteP (fun e => argsE e = []) (fun _ => rfl) fun _ => rfl
  | _ => rfl
theorem atomE_sub {x m : Str} {y f a : E} (hy : nameE y = some m) (h : atomE (.app f a)) : atomE (sub x y (.app f a)) := by
  obtain ⟨_, ⟨h1, h2⟩, h3⟩ := h
  have z := simE_sub (x := x) hy h1
  refine ⟨⟨_, _, rfl⟩, ⟨z.1, by rw [z.2]; exact h2⟩, fun b hb => ?_⟩
  rw [argsE_sub hy] at hb
  obtain ⟨c, hc, rfl⟩ := List.mem_map.mp hb
  obtain ⟨n, hn⟩ := h3 c hc
  exact sub_name hy (by rw [hn]; rfl)
theorem wfE_sub {x m : Str} {y : E} (hy : nameE y = some m) : ∀ {e : E}, wfE e → wfE (sub x y e)
  | .con _, h => h.elim
  | .iv _, h => h.elim
  | .app _ _, h => atomE_sub hy h
  | .neg t, h => wfE_sub (e := t) hy h
  | .and _ _, h => ⟨wfE_sub hy h.1, wfE_sub hy h.2⟩
  | .or _ _, h => ⟨wfE_sub hy h.1, wfE_sub hy h.2⟩
  | .imp _ _, h => ⟨wfE_sub hy h.1, wfE_sub hy h.2⟩
  | .all z t, h => iteP wfE (fun _ => h) fun _ => wfE_sub (e := t) hy h
  | .ex z t, h => iteP wfE (fun _ => h) fun _ => wfE_sub (e := t) hy h
structure gE (e : E) : Prop where
  wf : wfE e
  ht : hgt e ≤ 12
  cl : clE [] e
theorem gE.sub {x : Str} {t y : E} (wf : wfE t) (ht : hgt t ≤ 12) (cl : clE [x] t) (hy : okA y) : gE (Tbx.sub x y t) :=
  let ⟨n, hn⟩ := hy.1
  ⟨wfE_sub hn wf, by rw [hgt_sub hn]; exact ht, clE_sub hy cl⟩
noncomputable def GAc (m : Nat) (u : List E) : Prop := (∀ y ∈ u, okA y) ∧ u.length + 4 * m ≤ 4000
noncomputable def GAt (m : Nat) (u : List (E × Bool)) : Prop := (∀ p ∈ u, okE p.1) ∧ u.length + 4 * m ≤ 4000
noncomputable def gA (m : Nat) (q : PAll) : Prop := gE (.all q.1 q.2.1) ∧ ∀ u, q.2.2.1 = some u → GAc m u
noncomputable def GAg (m : Nat) (P : PAg) : Prop := (∀ (i : Nat) (l : List E), P.1[i]? = some l → ∀ e ∈ l, catE e = (i : Int) ∧ gE e) ∧ ∀ q ∈ P.2, gA m q
theorem GAc.le {m k : Nat} {u : List E} (h : GAc m u) (hk : k ≤ m) : GAc k u := ⟨h.1, by have := h.2; lia⟩
theorem GAt.le {m k : Nat} {u : List (E × Bool)} (h : GAt m u) (hk : k ≤ m) : GAt k u := ⟨h.1, by have := h.2; lia⟩
theorem gA.le {m k : Nat} {q : PAll} (h : gA m q) (hk : k ≤ m) : gA k q := ⟨h.1, fun u hu => (h.2 u hu).le hk⟩
theorem GAg.le {m k : Nat} {P : PAg} (h : GAg m P) (hk : k ≤ m) : GAg k P := ⟨h.1, fun q hq => (h.2 q hq).le hk⟩
theorem okA_okE {y : E} (h : okA y) : okE y := by
  obtain ⟨⟨n, hn⟩, _⟩ := h
  cases y <;> first | exact ⟨rfl, Nat.zero_le _⟩ | cases hn
theorem GAc.okE {m : Nat} {u : List E} (h : GAc m u) : ∀ y ∈ u, okE y := fun y hy => okA_okE (h.1 y hy)
theorem unE_mem {xs ys : List E} {y : E} (h : y ∈ unE xs ys) : y ∈ xs ∨ y ∈ ys := (uni_mem h).imp (fun h => (uni_mem h).resolve_left List.not_mem_nil) id
theorem unE_len {xs ys : List E} : (unE xs ys).length ≤ xs.length + ys.length := by
  have h1 := @uni_len E eqE ys (uni eqE [] xs)
  have h2 := @uni_len E eqE xs []
  simp only [List.length_nil] at h2
  unfold unE; lia
theorem unP_mem {xs ys : List (E × Bool)} {y : E × Bool} (h : y ∈ unP xs ys) : y ∈ xs ∨ y ∈ ys := (uni_mem h).imp (fun h => (uni_mem h).resolve_left List.not_mem_nil) id
theorem unP_len {xs ys : List (E × Bool)} : (unP xs ys).length ≤ xs.length + ys.length := by
  have h1 := @uni_len _ kP.eq ys (uni kP.eq [] xs)
  have h2 := @uni_len _ kP.eq xs []
  simp only [List.length_nil] at h2
  unfold unP; lia
theorem GAc.un {m : Nat} {u v : List E} (h : GAc (m + 1) u) (hv : ∀ y ∈ v, okA y) (hl : v.length ≤ 4) : GAc m (unE u v) :=
  ⟨fun y hy => (unE_mem hy).elim (h.1 y) (hv y), by have := @unE_len u v; have := h.2; lia⟩
theorem GAt.un {m : Nat} {u : List (E × Bool)} {p : E × Bool} (h : GAt (m + 1) u) (hv : okE p.1) : GAt m (unP u [p]) :=
  ⟨fun y hy => (unP_mem hy).elim (h.1 y) fun hy => (List.mem_singleton.mp hy) ▸ hv, by have h1 := @unP_len u [p]; have h2 := h.2; simp only [List.length_cons, List.length_nil] at h1; lia⟩
theorem catE_nat {e : E} : ∃ k : Nat, catE e = (k : Int) ∧ k ≤ 20 := by
  cases e with
  | neg t => cases t <;> first | exact ⟨2, rfl, by decide⟩ | exact ⟨7, rfl, by decide⟩ | exact ⟨8, rfl, by decide⟩ | exact ⟨15, rfl, by decide⟩ | exact ⟨11, rfl, by decide⟩ | exact ⟨12, rfl, by decide⟩ | exact ⟨9, rfl, by decide⟩
  | con _ => exact ⟨0, rfl, by decide⟩
  | iv _ => exact ⟨0, rfl, by decide⟩
  | app _ _ => exact ⟨0, rfl, by decide⟩
  | and _ _ => exact ⟨10, rfl, by decide⟩
  | or _ _ => exact ⟨13, rfl, by decide⟩
  | imp _ _ => exact ⟨14, rfl, by decide⟩
  | all _ _ => exact ⟨20, rfl, by decide⟩
  | ex _ _ => exact ⟨19, rfl, by decide⟩
theorem GAg.add {m : Nat} {P : PAg} {q : PAll} (h : GAg m P) (hq : gA m q) : GAg m (addAllP P q) :=
  ⟨h.1, fun x hx => (List.mem_append.mp hx).elim (h.2 x) fun hx => (List.mem_singleton.mp hx) ▸ hq⟩
theorem GAg.push {m : Nat} {P : PAg} {e : E} (h : GAg m P) (he : gE e) : GAg m (P.1.modify (catE e).toNat (· ++ [e]), P.2) := by
  refine ⟨fun i l hl x hx => ?_, h.2⟩
  dsimp only at hl
  rw [List.getElem?_modify] at hl
  obtain ⟨k, hk, _⟩ := @catE_nat e
  by_cases hi : (catE e).toNat = i
  · rw [hi] at hl
    obtain ⟨l', h1, h2⟩ := Option.map_eq_some_iff.mp hl
    rw [if_pos rfl] at h2
    subst h2
    rcases List.mem_append.mp hx with hx | hx
    · exact h.1 i l' h1 x hx
    · rw [List.mem_singleton.mp hx]
      exact ⟨by rw [hk] at hi ⊢; rw [← hi]; rfl, he⟩
  · obtain ⟨l', h1, h2⟩ := Option.map_eq_some_iff.mp hl
    rw [if_neg hi] at h2
    subst h2
    exact h.1 i l' h1 x hx
theorem GAg.put {m : Nat} {P : PAg} {e : E} (h : GAg m P) (he : gE e) (hm : 4 * m ≤ 4000) : GAg m (putP P e) := by
  by_cases ha : ∃ x t, e = .all x t
  · obtain ⟨x, t, rfl⟩ := ha
    exact h.add ⟨he, fun u hu => by cases hu; exact ⟨(fun y hy => by cases hy), by simpa using hm⟩⟩
  · have e1 : putP P e = (P.1.modify (catE e).toNat (· ++ [e]), P.2) := by
      cases e <;> first | rfl | exact absurd ⟨_, _, rfl⟩ ha
    rw [e1]
    exact h.push he
theorem GAg.fresh {m : Nat} {P : PAg} (h : GAg m P) : GAg m (freshP P) := ⟨h.1, fun q hq => by
  obtain ⟨x, hx, rfl⟩ := List.mem_map.mp hq
  exact h.2 x hx⟩
theorem GAg.clone {m : Nat} {P : PAg} (h : GAg m P) (hm : 4 * m ≤ 4000) : GAg m (cloneP P) := ⟨h.1, fun q hq => by
  obtain ⟨x, hx, rfl⟩ := List.mem_map.mp hq
  refine ⟨(h.2 x hx).1, fun u hu => ?_⟩
  cases hu
  cases hc : x.2.2.1 with
  | none => exact ⟨(fun y hy => by cases hy), by simpa using hm⟩
  | some v => exact (h.2 x hx).2 v hc⟩
theorem GAg.pop {m : Nat} {P : PAg} {k : Nat} {e : E} {ls : List (List E)} (h : GAg m P) (hf : firstNE P.1 = some (k, e, ls)) : GAg m (ls, P.2) ∧ catE e = (k : Int) ∧ gE e := by
  obtain ⟨l1, l, l2, h1, rfl, rfl, _⟩ := firstNE_spec hf
  have hat : P.1[l1.length]? = some (l ++ [e]) := by rw [h1]; simp
  refine ⟨⟨fun i x hx y hy => ?_, h.2⟩, h.1 _ _ hat e (by simp)⟩
  dsimp only at hx
  by_cases hi : i = l1.length
  · subst hi
    simp at hx
    subst hx
    exact h.1 _ _ hat y (List.mem_append_left _ hy)
  · refine h.1 i x ?_ y hy
    rw [h1]
    rw [← hx]
    by_cases h' : i < l1.length
    · rw [List.getElem?_append_left h', List.getElem?_append_left h']
    · rw [List.getElem?_append_right (by lia), List.getElem?_append_right (by lia)]
      obtain ⟨j, hj⟩ : ∃ j, i - l1.length = j + 1 := ⟨i - l1.length - 1, ar5 (Nat.sub_pos_of_lt (by lia))⟩
      rw [hj]
      simp
theorem GAg.popA {m : Nat} {P : PAg} {l1 l2 : List PAll} {q : PAll} (h : GAg m P) (hf : splitX P.2 = some (l1, q, l2)) : GAg m (P.1, l1 ++ l2) ∧ gA m q := by
  obtain ⟨h1, _⟩ := splitX_spec hf
  refine ⟨⟨h.1, fun x hx => h.2 x ?_⟩, h.2 q (by rw [h1]; simp)⟩
  rw [h1]
  rcases List.mem_append.mp hx with hx | hx
  · exact List.mem_append_left _ hx
  · exact List.mem_append_right _ (.tail _ hx)
theorem zE_ok {k : Int} (h0 : 0 ≤ k) (h1 : k < 64) : okA (zE k) := by
  refine ⟨⟨_, rfl⟩, fun x hx q => ?_⟩
  have e : zN k = x := by injection q
  obtain ⟨n, rfl⟩ := Int.eq_ofNat_of_zero_le h0
  have z := List.all_eq_true.mp (show ((List.range 64).all fun k => bndN.all fun x => zN k != x) = true by kernel_rfl) n (List.mem_range.mpr (by lia))
  exact bne_iff_ne.mp (List.all_eq_true.mp z x hx) e
noncomputable def stLe (st st' : PSt) : Prop := st'.2.isSome = st.2.isSome ∧ st.1 ≤ st'.1
theorem stLe.refl (st : PSt) : stLe st st := ⟨rfl, Int.le_refl _⟩
theorem stLe.trans {a b c : PSt} (x : stLe a b) (y : stLe b c) : stLe a c := ⟨y.1.trans x.1, Int.le_trans x.2 y.2⟩
noncomputable def RecLe (rec : Rec) : Prop := ∀ {P acc ats st b st'}, rec P acc ats st = some (b, st') → stLe st st'
theorem orS_le {rec : Rec} (h : RecLe rec) {P1 P2 acc ats st b st'} (e : orS rec P1 P2 acc ats st = some (b, st')) : stLe st st' := by
  unfold orS at e
  split at e
  · rename_i st1 e1
    exact (h e1).trans (h e)
  · rename_i st1 e1
    cases e
    exact h e1
  · cases e
theorem succ_le (st : PSt) : stLe st (st.1 + 1, st.2) := ⟨rfl, by show st.1 ≤ st.1 + 1; lia⟩
theorem ite_le {c : Prop} [Decidable c] {x y : Option (Bool × PSt)} {st : PSt} {r : Bool × PSt} (e : (if c then x else y) = some r) (hx : x = some r → stLe st r.2) (hy : y = some r → stLe st r.2) : stLe st r.2 := by
  by_cases k : c
  · rw [if_pos k] at e; exact hx e
  · rw [if_neg k] at e; exact hy e
theorem stepE_le {rec : Rec} (h : RecLe rec) {f P acc ats st b st'} (e : stepE rec f P acc ats st = some (b, st')) : stLe st st' := by
  cases f with
  | app f x => exact ite_le (r := (b, st')) e (fun e => by cases e; exact stLe.refl _) fun e => h e
  | neg t => cases t with
    | app f x => exact ite_le (r := (b, st')) e (fun e => by cases e; exact stLe.refl _) fun e => h e
    | and f x =>
      have e : orS rec (putP P (.neg f)) (putP (cloneP P) (.neg x)) acc ats st = some (b, st') := e
      exact orS_le h e
    | con _ => cases e
    | iv _ => cases e
    | neg _ => exact h e
    | or _ _ => exact h e
    | imp _ _ => exact h e
    | all _ _ => exact h e
    | ex _ _ => exact h e
  | and _ _ => exact h e
  | or f x =>
    have e : orS rec (putP P f) (putP (cloneP P) x) acc ats st = some (b, st') := e
    exact orS_le h e
  | imp f x =>
    have e : orS rec (putP P (.neg f)) (putP (cloneP P) x) acc ats st = some (b, st') := e
    exact orS_le h e
  | ex _ _ => exact ite_le (r := (b, st')) e (fun e => (succ_le st).trans (h e)) fun e => by cases e
  | con _ => cases e
  | iv _ => cases e
  | all _ _ => cases e
theorem stepA_le {rec : Rec} (h : RecLe rec) {q P acc ats st b st'} (e : stepA rec q P acc ats st = some (b, st')) : stLe st st' := by
  unfold stepA at e
  split at e
  · split at e
    · exact (succ_le st).trans (h e)
    · cases e
  · split at e
    · exact h e
    · exact h e
theorem att_le (n : Nat) : RecLe (att n) := by
  induction n with
  | zero => intro P acc ats st b st' e; cases e; exact stLe.refl _
  | succ n ih =>
    intro P acc ats st b st' e
    have k : stLe st (st.1, st.2.map (· - 1)) := ⟨by simp, Int.le_refl _⟩
    unfold att at e
    split at e
    · cases e; exact k
    · split at e
      · exact k.trans (stepE_le ih e)
      · split at e
        · exact k.trans (stepA_le ih e)
        · cases e; exact k
section
variable {w : World} {S₀ s : Shared} {cs cs' : List Cell} {fs : List Fact} {A : Around} {E' : Value → Shared → Prop} {Q : Value → Shared → Prop} {env : Env} {R : Result → Shared → Prop} {G : Ag} {N : Nat}
theorem tailSl {value slice : Expr} {l a : Addr} {vs : List Value} (C : St w S₀ cs fs s) (ho : Fact.ob a (slObj .none .none) ∈ fs) (hl : Cell.li l vs ∈ cs ∨ Fact.li l vs ∈ fs) (hz : vs.length ≤ 100000)
    (h : ∀ q s', St w S₀ (.li q vs :: cs) fs s' → Q (.ref q) s')
    (hs : autoParam (subscripted slice false (.ref l) (.ref a) = operate [.ref a, .ref l] (getItem (.ref l) (.ref a))) tWr) :
    wpAny (model pw w) A (subscriptTail value slice (.ref l) (.ref a)) Q E' s := by
  refine tail_any (C.plain hl).isList.typeIs slot_list_getitem.lookup (wpAny_getItem_list_slice (C.plain hl).isList ⟨_, C.obj ho, rfl, rfl⟩ .none .none .none (by simp) ?_ (Nat.le_trans (by rw [List.size_toArray]; exact hz) (by decide))) hs
  rw [slicePick_all]
  exact h _ _ (C.pushC (.li s.heap.objs.size vs) _ rfl ⟨_, Heap.get?_push_size _ rfl⟩ (tk := s.toks))
theorem setAt {l : Addr} {vs : List Value} {k : Int} {t : Tok} {v : Value} {Q : Unit → Shared → Prop} (C : St w S₀ cs fs s) (U : Upd (.li l vs) (.li l (vs.set k.toNat v)) cs cs') (h0 : 0 ≤ k) (hk : k < vs.length) (hfit : k < 2 ^ 63)
    (h : ∀ s', St w S₀ cs' fs s' → Q () s') : wpAny (model pw w) A (setItem (.ref l) (.int k t) v) Q E' s := by
  obtain ⟨n, e⟩ := C.cell U.mem
  refine ki_setAt e h0 hfit (by rw [List.size_toArray]; exact hk) (h _ (C.upd (tk := s.toks) U (Heap.SameBut.update ..) rfl ?_))
  have e2 : Obj.mapSeq (·.setIfInBounds k.toNat v) (W.listOf vs.toArray n) = W.listOf (vs.set k.toNat v).toArray n := by
    unfold Obj.mapSeq W.listOf
    simp
  exact ⟨n, by rw [Heap.get?_update_self _ e (by rw [e2]; rfl), e2]⟩
end
noncomputable def Ag.vss (G : Ag) : List (List Value) := G.bs.map (·.vs) ++ [G.al.map fun r => .ref r.p]
theorem permX {a n c d l6 la di : Cell} {Q M1 M2 R : List Cell} : (n :: l6 :: la :: (di :: c :: d :: ((M1 ++ a :: M2) ++ Q) ++ R)).Perm (a :: n :: c :: d :: (Q ++ ((M1 ++ l6 :: M2 ++ [la]) ++ (di :: R)))) := by
  haveI : DecidableEq Cell := fun a b => Classical.propDecidable (a = b)
  rw [List.perm_iff_count]
  intro x
  simp only [List.count_cons, List.count_append, List.count_nil]
  kd_p
theorem setX {α : Type} {a b : List α} {x y u v : α} {n k : Nat} (hn : a.length + b.length + 1 = n) (hk : a.length = k) : ((a ++ x :: b ++ [y]).set n u).set k v = a ++ v :: b ++ [u] := by
  subst hk
  subst hn
  simp [List.set_append, show ¬ a.length + b.length + 1 < a.length by kd_p, show a.length + b.length + 1 - a.length = b.length + 1 from Nat.add_sub_cancel_left (n := a.length) (m := b.length + 1)]
noncomputable def zipB : List (Addr × List Value) → List BRec → List BRec
  | p :: n, b :: bs => ⟨p.1, b.vs, b.es⟩ :: zipB n bs
  | _, _ => []
theorem zipB_ok : ∀ {n : List (Addr × List Value)} {bs : List BRec}, n.map (·.2) = bs.map (·.vs) → (zipB n bs).map (·.l) = n.map (·.1) ∧ (zipB n bs).map (fun b => Cell.li b.l b.vs) = n.map (fun p => Cell.li p.1 p.2) ∧
    (zipB n bs).map (·.es) = bs.map (·.es) ∧ (zipB n bs).map (fun b => Fact.l b.vs (b.es.map pairE)) = bs.map (fun b => Fact.l b.vs (b.es.map pairE)) ∧ (zipB n bs).map (·.vs) = bs.map (·.vs) ∧ (zipB n bs).length = bs.length
  | [], [], _ => ⟨rfl, rfl, rfl, rfl, rfl, rfl⟩
  | [], _ :: _, h => by cases h
  | _ :: _, [], h => by cases h
  | p :: n, b :: bs, h => by
    simp only [List.map_cons, List.cons.injEq] at h
    obtain ⟨h1, h2, h3, h4, h5, h6⟩ := zipB_ok h.2
    refine ⟨?_, ?_, ?_, ?_, ?_, ?_⟩ <;> simp [zipB, *]
section
variable {w : World} {S₀ s : Shared} {cs cs' : List Cell} {fs : List Fact} {A : Around} {E' : Value → Shared → Prop} {Q : Value → Shared → Prop} {env : Env} {R : Result → Shared → Prop} {G : Ag} {N : Nat}
theorem Ag.vss_at {i : Nat} {v : Value} (hG : G.ok fs N) (hv : G.lists[i]? = some v) : ∃ l vs, v = .ref l ∧ G.vss[i]? = some vs ∧ Cell.li l vs ∈ G.c w ∧ vs.length ≤ N := by
  rcases Ag.lists_at hG hv with ⟨hi, b, hb, rfl⟩ | ⟨rfl, rfl⟩
  · refine ⟨b.l, b.vs, rfl, ?_, .tail _ (.tail _ (.tail _ (List.mem_append_left _ (List.mem_map.mpr ⟨b, List.mem_of_getElem? hb, rfl⟩)))), hG.2.2.1 b (List.mem_of_getElem? hb)⟩
    unfold Ag.vss
    rw [List.getElem?_append_left (by rw [List.length_map, hG.1]; exact hi), List.getElem?_map, hb]; rfl
  · refine ⟨G.aa, G.al.map fun r => .ref r.p, rfl, ?_, .tail _ (.tail _ (.head _)), by rw [List.length_map]; exact hG.2.2.2⟩
    unfold Ag.vss
    rw [List.getElem?_append_right (by simp [hG.1])]
    simp [hG.1]
theorem permW {X A D : Cell} {Z Y cs : List Cell} : (A :: (Z ++ (D :: (Y ++ (X :: cs))))).Perm (X :: A :: (Z ++ (D :: (Y ++ cs)))) := by
  have := List.perm_middle (a := X) (l₁ := A :: (Z ++ (D :: Y))) (l₂ := cs)
  simpa using this
inductive NL (G : Ag) (N : Nat) (fs : List Fact) (nl : List (Addr × List Value)) : Prop
  | mk (B1 B2 : List BRec) (l6 la : Addr) (len : ∀ x, (B1 ++ x :: B2).length = 20) (g20 : (nl.map fun p => Value.ref p.1)[20]? = some (.ref la)) (gl : (nl.map fun p => Value.ref p.1).length = 21) (g6 : ∀ x, ((nl.map fun p => Value.ref p.1).set 20 x)[6]? = some (.ref l6))
    (hla : Cell.li la (G.al.map fun r => .ref r.p) ∈ nl.map fun p => Cell.li p.1 p.2) (hl6 : Cell.li l6 [] ∈ nl.map fun p => Cell.li p.1 p.2)
    (fin : ∀ na a2, ((nl.map fun p => Value.ref p.1).set 20 (.ref na)).set 6 (.ref a2) = ((B1 ++ ⟨a2, [], []⟩ :: B2).map fun b => Value.ref b.l) ++ [.ref na])
    (cells : nl.map (fun p => Cell.li p.1 p.2) = B1.map (fun b => Cell.li b.l b.vs) ++ .li l6 [] :: B2.map (fun b => Cell.li b.l b.vs) ++ [.li la (G.al.map fun r => .ref r.p)])
    (es : ∀ a2, (B1 ++ ⟨a2, [], []⟩ :: B2).map (·.es) = G.bs.map (·.es)) (fx : ∀ a2, ∀ b ∈ B1 ++ ⟨a2, [], []⟩ :: B2, Fact.l b.vs (b.es.map pairE) ∈ .l [] [] :: fs) (vz : ∀ a2, ∀ b ∈ B1 ++ ⟨a2, [], []⟩ :: B2, b.vs.length ≤ N)
theorem NL.of {nl : List (Addr × List Value)} (hG : G.ok fs N) (hn : nl.map (·.2) = G.vss) (h6 : ∀ b, G.bs[6]? = some b → b.es = [] ∧ b.vs = []) : NL G N fs nl := by
  unfold Ag.vss at hn
  obtain ⟨n1, n2, rfl, hn1, hn2⟩ := List.map_eq_append_iff.mp hn
  obtain ⟨⟨la, lv⟩, rfl, e⟩ := List.map_eq_singleton_iff.mp hn2
  have e : lv = G.al.map fun r => .ref r.p := e
  subst e
  obtain ⟨b6, hb6⟩ : ∃ b, G.bs[6]? = some b := ⟨_, List.getElem?_eq_getElem (by rw [hG.1]; decide)⟩
  obtain ⟨b1, b2, hbs, hb1, _⟩ := modify_split (f := id) hb6
  obtain ⟨e6, v6⟩ := h6 b6 hb6
  have hbl := hG.1
  have hfx : ∀ b ∈ G.bs, Fact.l b.vs (b.es.map pairE) ∈ fs := fun b hb => hG.2.1 _ (.tail _ (List.mem_append_left _ (List.mem_map.mpr ⟨b, hb, rfl⟩)))
  have hvz := hG.2.2.1
  have hes : G.bs.map (·.es) = b1.map (·.es) ++ [] :: b2.map (·.es) := by rw [hbs, List.map_append, List.map_cons, e6]
  rw [hbs] at hbl hfx hvz
  rw [hbs, List.map_append, List.map_cons, v6] at hn1
  obtain ⟨m1, mr, rfl, hm1, hmr⟩ := List.map_eq_append_iff.mp hn1
  obtain ⟨⟨l6, v6'⟩, m2, rfl, e6', hm2⟩ := List.map_eq_cons_iff.mp hmr
  have e6' : v6' = [] := e6'
  subst e6'
  rw [List.length_append, List.length_cons] at hbl
  have hm1l : m1.length = 6 := by have := congrArg List.length hm1; rw [List.length_map, List.length_map] at this; kd_p
  have hm2l : m2.length = 13 := by have := congrArg List.length hm2; rw [List.length_map, List.length_map] at this; kd_p
  obtain ⟨z1, z2, z3, z4, z5, z6⟩ := zipB_ok hm1
  obtain ⟨y1, y2, y3, y4, y5, y6⟩ := zipB_ok hm2
  have hr : ((m1 ++ (l6, []) :: m2) ++ [(la, G.al.map fun r => Value.ref r.p)]).map (fun p => Value.ref p.1) = m1.map (fun p => Value.ref p.1) ++ .ref l6 :: m2.map (fun p => Value.ref p.1) ++ [.ref la] := by rw [List.map_append, List.map_append]; rfl
  have e1 : m1.map (fun p => Value.ref p.1) = (zipB m1 b1).map fun b => Value.ref b.l := by
    have := congrArg (List.map Value.ref) z1; rw [List.map_map, List.map_map] at this; exact this.symm
  have e2 : m2.map (fun p => Value.ref p.1) = (zipB m2 b2).map fun b => Value.ref b.l := by
    have := congrArg (List.map Value.ref) y1; rw [List.map_map, List.map_map] at this; exact this.symm
  have mem : ∀ {n : List (Addr × List Value)} {bs : List BRec}, (zipB n bs).map (fun b => Fact.l b.vs (b.es.map pairE)) = bs.map (fun b => Fact.l b.vs (b.es.map pairE)) → ∀ b ∈ zipB n bs, ∃ b' ∈ bs, Fact.l b'.vs (b'.es.map pairE) = Fact.l b.vs (b.es.map pairE) := fun z b hb => by
    have := List.mem_map_of_mem (f := fun b : BRec => Fact.l b.vs (b.es.map pairE)) hb
    rw [z] at this
    exact List.mem_map.mp this
  have mev : ∀ {n : List (Addr × List Value)} {bs : List BRec}, (zipB n bs).map (·.vs) = bs.map (·.vs) → ∀ b ∈ zipB n bs, ∃ b' ∈ bs, b'.vs = b.vs := fun z b hb => by
    have := List.mem_map_of_mem (f := fun b : BRec => b.vs) hb
    rw [z] at this
    exact List.mem_map.mp this
  refine ⟨zipB m1 b1, zipB m2 b2, l6, la, fun x => ?_, ?_, ?_, fun x => ?_, ?_, ?_, fun na a2 => ?_, ?_, fun a2 => ?_, fun a2 b hb => ?_, fun a2 b hb => ?_⟩
  · rw [List.length_append, List.length_cons, z6, y6]; exact hbl
  · rw [hr, List.getElem?_append_right (by simp [hm1l, hm2l])]; simp [hm1l, hm2l]
  · rw [hr]; simp [hm1l, hm2l]
  · rw [hr, List.getElem?_set_ne (by decide), List.append_assoc, List.getElem?_append_right (by simp [hm1l])]; simp [hm1l]
  · simp
  · simp
  · rw [hr, setX (by simp [hm1l, hm2l]) (by simp [hm1l]), e1, e2]; simp
  · rw [z2, y2]; simp
  · rw [hes, List.map_append, List.map_cons, z3, y3]
  · rcases List.mem_append.mp hb with hb | hb
    · obtain ⟨b', hb', e⟩ := mem z4 b hb
      exact .tail _ (e ▸ hfx b' (List.mem_append_left _ hb'))
    · rcases List.mem_cons.mp hb with rfl | hb
      · exact .head _
      · obtain ⟨b', hb', e⟩ := mem y4 b hb
        exact .tail _ (e ▸ hfx b' (List.mem_append_right _ (.tail _ hb')))
  · rcases List.mem_append.mp hb with hb | hb
    · obtain ⟨b', hb', e⟩ := mev z5 b hb
      exact e ▸ hvz b' (List.mem_append_left _ hb')
    · rcases List.mem_cons.mp hb with rfl | hb
      · exact Nat.zero_le _
      · obtain ⟨b', hb', e⟩ := mev y5 b hb
        exact e ▸ hvz b' (List.mem_append_right _ (.tail _ hb'))
inductive CI1 (V : List (List Value)) (F : List Fact) (R : List Cell) (i : Nat) (ys : List Value) (cs' : List Cell) (fs' : List Fact) : Prop
  | mk (nl : List (Addr × List Value)) (hy : ys = nl.map (fun p => Value.ref p.1)) (hn : nl.map (·.2) = V.take i) (hp : cs'.Perm (nl.map (fun p => Cell.li p.1 p.2) ++ R)) (hf : ∀ f ∈ F, f ∈ fs')
inductive CI2 (w : World) (L na acc ag : Addr) (al : List ARec) (F : List Fact) (base : List Cell) (i : Nat) (cs' : List Cell) (fs' : List Fact) : Prop
  | mk (m : List (Str × Value)) (qs : List ARec) (hc : cs' = .ns L m :: .li na (qs.map fun r => Value.ref r.p) :: (qs.map (ARec.c w) ++ base)) (hq : qs.map ARec.cont = (al.take i).map (fun r => cloneA r.cont)) (hqf : ∀ r ∈ qs, ∀ f ∈ r.f, f ∈ fs') (hf : ∀ f ∈ F, f ∈ fs')
    (k1 : m.lookup ("set_list" : Str) = some (.ref acc)) (k2 : m.lookup ("new_agenda" : Str) = some (.ref ag)) (k3 : m.lookup ("new_allExs" : Str) = some (.ref na))
theorem code_clone (C : St w S₀ (G.c w ++ cs) fs s) (hG : G.ok fs N) (hN : N ≤ 5000) (h6 : ∀ b, G.bs[6]? = some b → b.es = []) (hU : ∀ q ∈ G.al, ∀ u, q.u = some u → u.2.2.length ≤ 5000) (r : Room A 12)
    (h : ∀ (G' : Ag) (fs' : List Fact) (s' : Shared), G'.cont = cloneP G.cont → G'.ok fs' N → (∀ f ∈ fs, f ∈ fs') → St w S₀ (G'.c w ++ (G.c w ++ cs)) fs' s' → R (.ok (.ret (.ref G'.ag))) s') :
    codeAny (model pw w) A (.call (.ref 1332) ⟨[.ref G.ag], []⟩) R s := by
  refine callF (n := 11) (binds := [("self", .ref G.ag)]) ok1332 C r (binds0 (by kernel_rfl)) (by kernel_rfl) (by kernel_rfl) fun L A' s' r' C => ?_
  have ng_Agenda := g_Agenda; have nc_ALL := c_ALL; have nc_N_EQ := c_N_EQ; have ng_Categories := g_Categories; have ng_AllExpression := g_AllExpression; have ng_NegatedExpression := g_NegatedExpression
  walk_at "B"
  replace C := C.agIn
  walk_at "mI"
  rename_i C
  have g1 := Ag.f_ag hG
  have hll : G.lists.length = 21 := by simp [Ag.lists, hG.1]
  kd_p1
  rename_i C
  refine mk_Agenda C (r'.le (by kd_p)) fun G0 fs0 s0 hG0 hf0 _ C => ?_
  have g0 := Ag.f_ag hG0
  replace C := C.weakC (cs' := .di G0.d [("sets", G0.t, .ref G0.sl)] :: (G.c w ++ (.ns L [(("self" : Str), Value.ref G.ag)].reverse :: cs))) (List.Sublist.cons_cons _ (List.sublist_append_right _ _))
  kd_p1
  refine Assign_Comp (cl := []) rfl (by exact rfl) ?_
  kd_p1
  rename_i C
  refine atI C (isI2 (hf0 _ g1) (.tail _ Ag.m_d)) rfl rfl fun s1 C => ?_
  kd_p1
  rename_i it s2 C
  have hvl : G.vss.length = 21 := by simp [Ag.vss, hG.1]
  have hsl : Cell.li G.sl G.lists ∈ (Cell.di G0.d [("sets", G0.t, .ref G0.sl)] :: (G.c w ++ (.ns L [("new_agenda", .ref G0.ag), ("self", .ref G.ag)] :: cs))) := .tail _ Ag.m_sl
  let __I : Nat → List Value → List Cell → List Fact → Prop := CI1 G.vss fs0 (.di G0.d [("sets", G0.t, .ref G0.sl)] :: (G.c w ++ (.ns L [("new_agenda", .ref G0.ag), ("self", .ref G.ag)] :: cs)))
  refine compW (n := G.lists.length) (I := __I)
    (drwL (l := G.sl) (vs := G.lists) r'.hand) ?_ (by rw [hll]; decide) ⟨[], rfl, rfl, .refl _, fun f hf => hf⟩ C ?_ ?_
  · intro i ys cs' fs' hI
    obtain ⟨nl, _, hn, hp, hf⟩ := hI
    exact ⟨.inl (hp.symm.subset (List.mem_append_right _ hsl)), .di G0.d [("sets", G0.t, .ref G0.sl)], hp.symm.subset (List.mem_append_right _ (.head _))⟩
  · intro i v ys L2 m acc cs' fs' s4 E4 hi hv hI C
    walk_at "k"
    obtain ⟨nl, hy, hn, hp, hf⟩ := hI
    obtain ⟨l, vs, rfl, hvs, hlc, hlz⟩ := Ag.vss_at hG hv
    refine lotL C (.tail _ (.tail _ (.head _))) ?_
    kd_p1
    refine wpAny_tests_nil ?_
    kd_p1
    rename_i q s5 C
    refine tailSl C (.head _) (.inl (.tail _ (.tail _ (.tail _ (hp.symm.subset (List.mem_append_right _ (.tail _ (List.mem_append_left _ hlc)))))))) (by kd_p) fun a s6 C => ?_
    refine ⟨("s", .ref l) :: m, .li a vs :: cs', _, ⟨nl ++ [(a, vs)], by rw [hy, List.map_append]; rfl, by rw [List.map_append, hn, List.take_add_one, hvs]; rfl, ?_, (by intro f k; have := hf f k; kd_in)⟩, C.permC ?_⟩
    · rw [List.map_append, List.append_assoc]
      exact (List.Perm.cons _ hp).trans List.perm_middle.symm
    · exact @List.perm_middle _ (.li a vs) [_, _, _] cs'
  · intro ys acc L2 m cs' fs' s4 hyl hI C
    walk_at "k"
    obtain ⟨nl, hy, hn, hp, hf⟩ := hI
    rw [hy] at C
    let __P : List Value := nl.map fun p => Value.ref p.1
    let __Z : List Cell := nl.map fun p => Cell.li p.1 p.2
    let __R : List Cell := .di G0.d [("sets", G0.t, .ref G0.sl)] :: (G.c w ++ cs)
    let __B : List Cell := .li acc __P :: (__Z ++ __R)
    replace C := C.permC (cs' := .ns L2 m :: .ns L [("new_agenda", .ref G0.ag), ("self", .ref G.ag)] :: __B) (.cons _ ((List.Perm.cons _ hp).trans permW).symm)
    rw [hll, List.take_of_length_le (Nat.le_of_eq hvl)] at hn
    obtain ⟨B1, B2, l6, la, hlen, g20, gl, g6, hla, hl6, fin, cells, es, fx, vz⟩ := NL.of hG hn fun b hb => ⟨h6 b hb, by
      have h2 := C.len (hf _ (hf0 _ (hG.2.1 _ (.tail _ (List.mem_append_left _ (List.mem_map.mpr ⟨b, List.mem_of_getElem? hb, rfl⟩))))))
      rw [h6 b hb] at h2
      exact List.eq_nil_of_length_eq_zero h2⟩
    replace C := C.permC (List.Perm.swap _ _ _)
    kd_p1
    rename_i s5 C
    refine ⟨m, _, _, _, .head _, C.permC (List.Perm.swap _ _ _), fun s6 C => ?_⟩
    kd_p1
    rename_i na s7 _ s8 _ tk s9 C
    refine tailL C (.inl (.tail _ (.tail _ (.head _)))) (by decide) (by decide) (v := .ref la) g20 ?_
    refine iterL C (.inl (.tail _ (.tail _ (.tail _ (List.mem_append_left _ hla))))) fun it s10 C => ?_
    have hlab : Cell.li la (G.al.map fun r => Value.ref r.p) ∈ __B := .tail _ (List.mem_append_left _ hla)
    let __I : Nat → List Cell → List Fact → Prop := CI2 w L na acc G0.ag G.al fs0 __B
    refine forW (I := __I) (drwL (l := la) (vs := G.al.map fun r => .ref r.p) r'.hand) ?_
      ⟨_, [], rfl, rfl, (fun r hr => nomatch hr), hf, rfl, rfl, rfl⟩ (C.permC (.cons _ (List.Perm.swap _ _ _))) ?_ ?_
    · intro i cs' fs' hI
      obtain ⟨m, qs, hc, _⟩ := hI
      rw [hc]
      exact ⟨.inl (.tail _ (.tail _ (List.mem_append_right _ hlab))), _, .head _⟩
    · intro i v cs' fs' s3 E3 hi hv hI C
      walk_at "k"
      obtain ⟨m, qs, hc, hqs, hqf, hf, k1, k2, k3⟩ := hI
      replace C := C.eq1 hc
      rw [List.length_map] at hi
      rw [List.getElem?_map, Option.map_eq_some_iff] at hv
      obtain ⟨q, hq, rfl⟩ := hv
      have hqm := List.mem_of_getElem? hq
      have hqf' := Ag.f_al hG hqm
      have f1 : Fact.ob q.p (tupObj [.ref q.a, .none]) ∈ fs' := hf _ (hf0 _ (hqf' _ (List.mem_append_left _ (.head _))))
      have f2 : Fact.ob q.a (instObj 788 q.d) ∈ fs' := hf _ (hf0 _ (hqf' _ (List.mem_append_left _ (.tail _ (.head _)))))
      have f3 : Fact.v (.ref q.v) (.var q.x) ∈ fs' := hf _ (hf0 _ (hqf' _ (List.mem_append_left _ (.tail _ (.tail _ (.head _))))))
      have f4 : Fact.v (.ref q.z) (.e q.e) ∈ fs' := hf _ (hf0 _ (hqf' _ (List.mem_append_left _ (.tail _ (.tail _ (.tail _ (.head _)))))))
      have hqc : q.c w ∈ __B := .tail _ (List.mem_append_right _ (.tail _ (List.mem_append_left _ (.tail _ (.tail _ (.tail _ (List.mem_append_right _ (List.mem_map_of_mem hqm))))))))
      refine lotL C (.head _) ?_
      refine asT2 C (.head _) r'.hand f1 rfl fun s4 C => ?_
      kd_p1
      rename_i C
      have hq2 : q.c w ∈ qs.map (ARec.c w) ++ __B := List.mem_append_right _ hqc
      refine getVarA C f2 (.tail _ (.tail _ (.tail _ hq2))) fun s5 C => ?_
      kd_p1
      rename_i C
      refine getTermA C f2 (.tail _ (.tail _ (.tail _ hq2))) fun s5 C => ?_
      kd_p1
      rename_i C
      refine mk_AllM C (r'.le (by kd_p)) f3 f4 fun a' d' s6 C => ?_
      kd_p1
      rename_i C
      have hq3 : allC w q.d q.v q.z (q.u.map (·.1)) q.b ∈ qs.map (ARec.c w) ++ __B := hq2
      have hqz : (qs.map fun r => Value.ref r.p).length ≤ 100000 := by
        have := congrArg List.length hqs
        simp only [List.length_map, List.length_take] at this ⊢
        have := hG.2.2.2
        kd_p
      have fin : ∀ (p a' d' l' : Addr) (vs : List Value) (es : List E) (m' : List (Str × Value)) (fs2 : List Fact) (s2 : Shared), (q.u.map (·.2.2)).getD [] = es → St w S₀ (allC w d' q.v q.z (some l') false :: itC it la (i + 1) :: .ns L m' :: .li na ((qs.map fun r => Value.ref r.p) ++ [.ref p]) :: (qs.map (ARec.c w) ++ __B)) fs2 s2 →
          (∀ f ∈ [Fact.ob p (tupObj [.ref a', .none]), .ob a' (instObj 788 d'), .li l' vs, .l vs (es.map .e)], f ∈ fs2) → (∀ f ∈ fs', f ∈ fs2) → m'.lookup ("set_list" : Str) = some (.ref acc) → m'.lookup ("new_agenda" : Str) = some (.ref G0.ag) → m'.lookup ("new_allExs" : Str) = some (.ref na) →
          ∃ cs fs, __I (i + 1) cs fs ∧ St w S₀ (itC it la (i + 1) :: cs) fs s2 := by
        intro p a' d' l' vs es m' fs2 s2 he C hfs hf2 j1 j2 j3
        refine ⟨_, fs2, ⟨m', qs ++ [⟨p, a', d', q.v, q.z, q.x, q.e, some (l', vs, es), false⟩], rfl, ?_, ?_, fun f k => hf2 f (hf f k), j1, j2, j3⟩, ?_⟩
        · rw [List.map_append, hqs, List.take_add_one, hq, List.map_append]
          simp [ARec.cont, cloneA, he]
        · intro r hr f hfr
          rcases List.mem_append.mp hr with hr | hr
          · exact hf2 f (hqf r hr f hfr)
          · rw [List.mem_singleton.mp hr] at hfr
            exact wkCons (hfs _ (.head _)) (wkCons (hfs _ (.tail _ (.head _))) (wkCons (hf2 _ f3) (wkCons (hf2 _ f4) (wkCons (hfs _ (.tail _ (.tail _ (.head _)))) (wkCons (hfs _ (.tail _ (.tail _ (.tail _ (.head _))))) (List.forall_mem_nil _)))))) f hfr
        · have := C.permC (List.perm_middle (l₁ := itC it la (i + 1) :: .ns L m' :: .li na ((qs.map fun r => Value.ref r.p) ++ [.ref p]) :: qs.map (ARec.c w)) (l₂ := __B))
          simpa [ARec.c] using this
      rcases hu : q.u with _ | ⟨ul, uvs, ues⟩
      · rw [hu] at hq3 fin
        refine getUsed (u := none) C (by kd_in) (.tail _ (.tail _ (.tail _ (.tail _ hq3)))) fun s7 C => ?_
        dsimp only
        kd_p1
        rename_i l' s8 C
        refine setUsed C (a := a') (d := d') (by kd_in) (.tail .head) fun s9 C => ?_
        kd_p1
        rename_i p s10 _ s11 C
        exact fin p a' d' l' [] [] _ _ _ rfl C.freezeL.nilL (by simp only [List.map_nil]; walk_at "w") (by walk_at "w") k1 k2 k3
      · have hul : Fact.li ul uvs ∈ fs' ∧ Fact.l uvs (ues.map .e) ∈ fs' := by
          have z : ∀ f ∈ [Fact.li ul uvs, Fact.l uvs (ues.map .e)], f ∈ q.f := fun f hf => by
            unfold ARec.f; rw [hu]; exact List.mem_append_right _ hf
          exact ⟨hf _ (hf0 _ (hqf' _ (z _ (.head _)))), hf _ (hf0 _ (hqf' _ (z _ (.tail _ (.head _)))))⟩
        have huz : uvs.length ≤ 100000 := by
          have h1 := C.len (.tail _ hul.2)
          have h2 := hU q hqm _ hu
          rw [List.length_map] at h1
          dsimp only at h2
          kd_p
        rw [hu] at hq3 fin
        refine getUsed (u := some ul) C (by kd_in) (.tail _ (.tail _ (.tail _ (.tail _ hq3)))) fun s7 C => ?_
        dsimp only
        kd_p1
        rename_i C
        refine getUsed (u := some ul) C (by kd_in) (.tail _ (.tail _ (.tail _ (.tail _ hq3)))) fun s7 C => ?_
        dsimp only
        kd_p1
        rename_i C
        refine tailSl C (.head _) (.inr (.tail _ (.tail _ hul.1))) huz fun l' s8 C => ?_
        kd_p1
        refine setUsed C (a := a') (d := d') (by kd_in) (.tail .head) fun s9 C => ?_
        kd_p1
        rename_i p s10 _ s11 C
        have hul1 := hul.1
        have hul2 := hul.2
        exact fin p a' d' l' uvs ues _ _ _ rfl C.freezeL (by walk_at "w") (by walk_at "w") k1 k2 k3
    · intro cs' fs' s3 hI C
      walk_at "k"
      obtain ⟨m, qs, hc, hqs, hqf, hf, k1, k2, k3⟩ := hI
      rw [hc] at C
      rw [List.length_map, List.take_length] at hqs
      kd_p1
      refine wpAny_Assign_Subscript ?_
      kd_p1
      rename_i C
      have hpn : ∀ r : List ARec, (r.map fun r => Value.ref r.p).length = r.length := fun r => List.length_map ..
      let __q : List Cell := qs.map (ARec.c w) ++ (__Z ++ __R)
      replace C := C.permC (cs' := .ns L m :: .li acc __P :: .li na (qs.map fun r => Value.ref r.p) :: __q) (by
        have := List.perm_middle (a := Cell.li acc __P) (l₁ := .ns L m :: .li na (qs.map fun r => Value.ref r.p) :: qs.map (ARec.c w)) (l₂ := __Z ++ __R)
        exact (List.Perm.swap _ _ _).trans this.symm)
      refine setAt C (.tail .head) (by decide) (by rw [gl]; decide) (by decide) fun s4 C => ?_
      kd_p1
      refine wpAny_Assign_Subscript ?_
      kd_p1
      refine ListComp_ (cl := []) (by exact rfl) ?_
      kd_p1
      rename_i C
      refine tailL C (.inl (.tail _ (.head _))) (by decide) (by decide) (v := .ref l6) (g6 _) ?_
      refine iterL C (.inl (.tail _ (.tail _ (.tail _ (List.mem_append_right _ (List.mem_append_left _ hl6)))))) fun it2 s6 C => ?_
      let __c : List Cell := .ns L m :: .li acc (__P.set 20 (.ref na)) :: .li na (qs.map fun r => Value.ref r.p) :: __q
      let __I : Nat → List Value → List Cell → List Fact → Prop := LT __c fs' fun _ => []
      refine compW (n := 0) (I := __I)
        (drwL (l := l6) (vs := []) r'.hand) ?_ (by decide) ⟨rfl, fun f k => k, rfl⟩ C ?_ ?_
      · intro i ys cs'' fs'' hI
        obtain ⟨hc, _⟩ := hI
        rw [hc]
        exact ⟨.inl (.tail _ (.tail _ (.tail _ (List.mem_append_right _ (List.mem_append_left _ hl6))))), _, .head _⟩
      · intro i v ys L3 m3 acc3 cs3 fs3 s7 E7 hi
        exact absurd hi (Nat.not_lt_zero _)
      · intro ys acc2 L3 m3 cs3 fs3 s7 hy hI C s8 C
        walk_at "k"
        obtain ⟨hc, hf3, hz⟩ := hI
        rw [hc, hz] at C
        kd_p1
        rename_i C
        refine setAt C (.tail (.tail .head)) (by decide) (by rw [List.length_set, gl]; decide) (by decide) fun s9 C => ?_
        kd_p1
        have g2 : Fact.ob G0.ag (instObj 1406 G0.d) ∈ fs3 := hf3 _ (hf _ g0)
        refine stI C (.inl g2) rfl (U := .tail (.tail (.tail (.tail (Upd.appR (Upd.appR (.head (c' := .di G0.d (putF "sets" (s9.toks + 1) (.ref acc) [("sets", G0.t, .ref G0.sl)]))))))))) (fun s10 C => ?_) (by kernel_rfl) rfl
        kd_p1
        refine h ⟨G0.ag, G0.d, acc, G0.t, B1 ++ ⟨acc2, [], []⟩ :: B2, na, qs⟩ (.l [] [] :: fs3) s10 ?_ ⟨hlen _, fun f hf' => ?_, vz acc2, ?_⟩ (fun f k => .tail _ (hf3 _ (hf f (hf0 f k)))) ?_
        · show ((B1 ++ ⟨acc2, [], []⟩ :: B2).map (·.es), qs.map ARec.cont) = (G.bs.map (·.es), (G.al.map ARec.cont).map cloneA)
          rw [es, hqs, List.map_map]
          rfl
        · rcases List.mem_cons.mp hf' with rfl | hf'
          · exact .tail _ g2
          · rcases List.mem_append.mp hf' with hf' | hf'
            · obtain ⟨b, hb, rfl⟩ := List.mem_map.mp hf'
              rcases List.mem_cons.mp (fx acc2 b hb) with e | e
              · exact e ▸ .head _
              · exact .tail _ (hf3 _ (hf _ (hf0 _ e)))
            · obtain ⟨lf, hlf, hfq⟩ := List.mem_flatten.mp hf'
              obtain ⟨q, hq, rfl⟩ := List.mem_map.mp hlf
              exact .tail _ (hf3 _ (hqf q hq f hfq))
        · have := congrArg List.length hqs
          simp only [List.length_map] at this
          show qs.length ≤ N
          rw [this]; exact hG.2.2.2
        · walk_at "zC"
          rw [show Int.toNat 6 = 6 from rfl, fin, cells] at C
          have C2 := (C.permC permX).drop.drop.drop.nilL
          refine cast (congrArg (fun c => St w S₀ c _ s10) ?_) C2
          unfold Ag.c Ag.lists
          simp [putF]
end
theorem ops_ok (P : Params) : (selfFirst (KK P) 1435 && (findIn (KK P) (.ref 1435) "__add__" == some (some (.ref 1432))) && isFn (KK P) (.ref 1432) && (findIn (KK P) (.ref 1435) "__radd__" == some none) && (findIn (KK P) (.type "int") "__add__" == some (some (.builtin "int.__add__"))) &&
  (findIn (KK P) (.type "int") "__radd__" == some (some (.builtin "int.__radd__"))) && (subIn (KK P) (.type "int") (.ref 1435) == some false) && isFn (KK P) (.ref 232)) = true := by kernel_rfl
section
variable {w : World} {S₀ s : Shared} {cs cs' : List Cell} {fs : List Fact} {A : Around} {E' : Value → Shared → Prop} {Q : Value → Shared → Prop} {env : Env} {R : Result → Shared → Prop} {G : Ag} {N : Nat}
theorem addDbg {b L : Addr} {m : List (Str × Value)} {k : Int} {t t' u : Tok} (C : St w S₀ cs fs s) (r : Room A 8) (hm : Cell.ns L m ∈ cs) (hb : Fact.ins b 1435 [("indent", t', .int k t)] ∈ fs) (h : ∀ a t t' s', St w S₀ cs (.ins a 1435 [("indent", t', .int (k + 1) t)] :: fs) s' → Q (.ref a) s') :
    wpAny (model pw w) A (binaryOp .Add (.ref b) (.int 1 u)) Q E' s := by
  have z := ops_ok w.params
  simp only [Bool.and_eq_true, beq_iff_eq] at z
  obtain ⟨⟨⟨⟨⟨⟨⟨z1, z2⟩, z3⟩, z4⟩, z5⟩, z6⟩, z7⟩, z8⟩ := z
  obtain ⟨_, _, I⟩ := C.inst (isI1 hb)
  refine ksp_binT (C.fr hm) C.kin0 I (T := "int") rfl z1 z2 z3 z4 (.inl rfl) z5 z6 z7 (wpAny_call (code_dbgAdd C (r.le (by kd_p)) hb fun a t t' s' C => ?_))
  exact h a t t' s' C
theorem negE {a L : Addr} {m : List (Str × Value)} {x : E} (C : St w S₀ cs fs s) (r : Room A 7) (hm : Cell.ns L m ∈ cs) (h1 : Fact.v (.ref a) (.e x) ∈ fs) (h : ∀ q s', St w S₀ cs (.v (.ref q) (.e (.neg x)) :: fs) s' → Q (.ref q) s') :
    wpAny (model pw w) A (unaryOp .USub (.ref a)) Q E' s := by
  have z := ops_ok w.params
  simp only [Bool.and_eq_true, beq_iff_eq] at z
  obtain ⟨l, hl, C2⟩ := C.openM h1
  obtain ⟨_, _, I⟩ := C2.inst (isI1 (.head _))
  have hf : findIn (KK w.params) (.ref (cls x)) "__neg__" = some (some (.ref 232)) := (mT (P := w.params) (show mTab.lookup (cls x, ("__neg__" : Str)) = some 232 by cases x <;> exact rfl)).1
  exact ksp_neg (C.fr hm) C.kin0 I hf z.2 (wpAny_call (code_neg C r h1 fun q s' C => h q s' C))
end
structure PV where
  p : Addr
  ct : Addr
  cd : Addr
  dl : Option (Addr × Addr)
  t1 : Tok
  t2 : Tok
  t3 : Tok
  tm : Value
noncomputable def PV.dlV (v : PV) : Value := match v.dl with
  | none => .none
  | some (a, _) => .ref a
noncomputable def PV.f (v : PV) : List Fact := .ins v.p 1311 [("TIMEOUT", v.t1, v.tm), ("_counter", v.t2, .ref v.ct), ("_deadline", v.t3, v.dlV)] :: .ob v.ct (instObj 74 v.cd) :: (match v.dl with | none => [] | some (a, d) => [.ob a (instObj 45 d)])
noncomputable def PV.dc (w : World) (v : PV) (k : Option Int) : List Cell := match v.dl, k with
  | some (_, d), some k => [dlC w d k]
  | _, _ => []
noncomputable def PV.c (w : World) (v : PV) (st : PSt) : List Cell := cntC w v.cd st.1 :: v.dc w st.2
noncomputable def nN (n : Nat) : Nat := 4000 - 4 * n
structure Sit (v : PV) (n : Nat) (G : Ag) (la lt : Addr) (acc : List E) (ats : List (E × Bool)) (fs : List Fact) : Prop where
  le : n ≤ 201
  ag : G.ok fs (nN n)
  gg : GAg n G.cont
  gc : GAc n acc
  gt : GAt n ats
  fa : ∃ vs, Fact.li la vs ∈ fs ∧ Fact.l vs (acc.map .e) ∈ fs
  ft : ∃ us, Fact.li lt us ∈ fs ∧ Fact.l us (ats.map kP.av) ∈ fs
  fv : ∀ f ∈ v.f, f ∈ fs
theorem Sit.mono {v : PV} {n : Nat} {G : Ag} {la lt : Addr} {acc : List E} {ats : List (E × Bool)} {fs fs' : List Fact} (S : Sit v n G la lt acc ats fs) (k : ∀ f ∈ fs, f ∈ fs') : Sit v n G la lt acc ats fs' :=
  ⟨S.le, S.ag.mono k, S.gg, S.gc, S.gt, let ⟨vs, a, b⟩ := S.fa; ⟨vs, k _ a, k _ b⟩, let ⟨vs, a, b⟩ := S.ft; ⟨vs, k _ a, k _ b⟩, fun f hf => k f (S.fv f hf)⟩
noncomputable def AttOK (w : World) (S₀ : Shared) (v : PV) (n : Nat) : Prop := ∀ {A : Around} {R : Result → Shared → Prop} {cs : List Cell} {fs : List Fact} {s : Shared} {G : Ag} {la lt db : Addr} {acc : List E} {ats : List (E × Bool)} {st st' : PSt} {b : Bool} {t t' : Tok} {k : Int},
  v.dl.isSome = st.2.isSome → 0 ≤ st.1 → k = 201 - n → St w S₀ (G.c w ++ (v.c w st ++ cs)) fs s → Sit v n G la lt acc ats fs → Fact.ins db 1435 [("indent", t', .int k t)] ∈ fs → Room A (2 * n + 150) → att n G.cont acc ats st = some (b, st') →
  (∀ fs' s', (∀ f ∈ fs, f ∈ fs') → St w S₀ (v.c w st' ++ cs) fs' s' → R (.ok (.ret (.bool b))) s') → codeAny (model pw w) A (.call (.ref 1153) ⟨[.ref v.p, .ref G.ag, .ref la, .ref lt, .ref db], []⟩) R s
section
variable {w : World} {S₀ s : Shared} {cs cs' : List Cell} {fs : List Fact} {A : Around} {E' : Value → Shared → Prop} {Q : Value → Shared → Prop} {env : Env} {R : Result → Shared → Prop} {G : Ag} {N : Nat} {v : PV} {n : Nat} {la lt db a : Addr} {acc : List E} {ats : List (E × Bool)} {st st' : PSt} {b : Bool} {t t' : Tok} {k : Int}
theorem recur {cs0 : List Cell} (IH : AttOK w S₀ v n) (h1 : v.dl.isSome = st.2.isSome) (h2 : 0 ≤ st.1) (hk : k = 201 - n) (C : St w S₀ cs0 fs s) (hp : (G.c w ++ (v.c w st ++ cs)).Perm cs0) (S : Sit v n G la lt acc ats fs) (hd : Fact.ins db 1435 [("indent", t', .int k t)] ∈ fs) (r : Room A (2 * n + 150))
    (ha : att n G.cont acc ats st = some (b, st')) (h : ∀ fs' s', (∀ f ∈ fs, f ∈ fs') → St w S₀ (v.c w st' ++ cs) fs' s' → Q (.bool b) s') : wpAny (model pw w) A (call (.ref 1153) [.ref v.p, .ref G.ag, .ref la, .ref lt, .ref db]) Q E' s :=
  wpAny_call (IH h1 h2 hk (C.permC hp) S hd r ha fun fs' s' k C => h fs' s' k C)
theorem perm1 {X V : List Cell} {d : Cell} : (X ++ (V ++ (d :: cs))).Perm (X ++ (d :: (V ++ cs))) := List.Perm.append_left _ List.perm_middle
theorem catE_put {P : PAg} {e : E} (h : ∀ x t, e ≠ .all x t) : putP P e = (P.1.modify (catE e).toNat (· ++ [e]), P.2) := by
  cases e <;> first | rfl | exact absurd rfl (h _ _)
theorem Sit.put {G' : Ag} {e : E} {fs' : List Fact} {j : Nat} (S : Sit v (n + 1) G la lt acc ats fs) (he : gE e) (hc : G'.cont = putP G.cont e) (ho : G'.ok fs' (j + 1)) (hj : j + 1 ≤ nN n) (k : ∀ f ∈ fs, f ∈ fs') : Sit v n G' la lt acc ats fs' :=
  ⟨by have := S.le; kd_p, ho.le hj, hc ▸ (S.gg.put he (by have := S.le; kd_p)).le (Nat.le_succ n), S.gc.le (Nat.le_succ n), S.gt.le (Nat.le_succ n), let ⟨vs, a, b⟩ := S.fa; ⟨vs, k _ a, k _ b⟩, let ⟨vs, a, b⟩ := S.ft; ⟨vs, k _ a, k _ b⟩, fun f hf => k f (S.fv f hf)⟩
theorem Sit.put2 {G' G'' : Ag} {e e' : E} {fs' : List Fact} {j : Nat} (S : Sit v (n + 1) G la lt acc ats fs) (he : gE e) (he' : gE e') (hc : G'.cont = putP G.cont e) (hc' : G''.cont = putP G'.cont e') (ho : G''.ok fs' (j + 1)) (hj : j + 1 ≤ nN n) (k : ∀ f ∈ fs, f ∈ fs') : Sit v n G'' la lt acc ats fs' :=
  ⟨by have := S.le; kd_p, ho.le hj, hc' ▸ ((hc ▸ (S.gg.put he (by have := S.le; kd_p)) : GAg (n + 1) G'.cont).put he' (by have := S.le; kd_p)).le (Nat.le_succ n), S.gc.le (Nat.le_succ n), S.gt.le (Nat.le_succ n), let ⟨vs, a, b⟩ := S.fa; ⟨vs, k _ a, k _ b⟩, let ⟨vs, a, b⟩ := S.ft; ⟨vs, k _ a, k _ b⟩, fun f hf => k f (S.fv f hf)⟩
theorem len_empty {α β : Type} {l : List α} {m : List β} (h : l.length = m.length) : l.isEmpty = m.isEmpty := by cases l <;> cases m <;> first | rfl | cases h
theorem nN_succ (h : n + 1 ≤ 201) : nN n = nN (n + 1) + 4 := (Nat.sub_add_cancel (m := 4) (n := 4000 - 4 * n) (Nat.le_sub_of_add_le (by lia))).symm
theorem nN_le (h : n + 1 ≤ 201) : nN (n + 1) + 4 ≤ 4000 := nN_succ h ▸ Nat.sub_le _ _
theorem gE.negOf {e : E} (h : gE (.neg e)) : wfE e ∧ hgt e ≤ 11 ∧ clE [] e := ⟨h.wf, by have := h.ht; simp only [hgt] at this; kd_p, h.cl⟩
theorem gE.and2 {x y : E} (h : gE (.and x y)) : gE x ∧ gE y := ⟨⟨h.wf.1, by have := h.ht; simp only [hgt] at this; kd_p, h.cl.1⟩, ⟨h.wf.2, by have := h.ht; simp only [hgt] at this; kd_p, h.cl.2⟩⟩
noncomputable def RArgs (v : PV) (G : Ag) (a la lt db : Addr) : Args := ⟨[.ref v.p, .ref a, .none, .ref G.ag, .ref la, .ref lt, .ref db], []⟩
end
theorem gE.negOr {x y : E} (h : gE (.neg (.or x y))) : gE (.neg x) ∧ gE (.neg y) := ⟨⟨h.wf.1, by have := h.ht; simp only [hgt] at this ⊢; kd_p, h.cl.1⟩, ⟨h.wf.2, by have := h.ht; simp only [hgt] at this ⊢; kd_p, h.cl.2⟩⟩
theorem gE.negAnd {x y : E} (h : gE (.neg (.and x y))) : gE (.neg x) ∧ gE (.neg y) := ⟨⟨h.wf.1, by have := h.ht; simp only [hgt] at this ⊢; kd_p, h.cl.1⟩, ⟨h.wf.2, by have := h.ht; simp only [hgt] at this ⊢; kd_p, h.cl.2⟩⟩
theorem gE.negImp {x y : E} (h : gE (.neg (.imp x y))) : gE x ∧ gE (.neg y) := ⟨⟨h.wf.1, by have := h.ht; simp only [hgt] at this ⊢; kd_p, h.cl.1⟩, ⟨h.wf.2, by have := h.ht; simp only [hgt] at this ⊢; kd_p, h.cl.2⟩⟩
theorem gE.or2 {x y : E} (h : gE (.or x y)) : gE x ∧ gE y := ⟨⟨h.wf.1, by have := h.ht; simp only [hgt] at this; kd_p, h.cl.1⟩, ⟨h.wf.2, by have := h.ht; simp only [hgt] at this; kd_p, h.cl.2⟩⟩
theorem gE.imp2 {x y : E} (h : gE (.imp x y)) : gE (.neg x) ∧ gE y := ⟨⟨h.wf.1, by have := h.ht; simp only [hgt] at this ⊢; kd_p, h.cl.1⟩, ⟨h.wf.2, by have := h.ht; simp only [hgt] at this; kd_p, h.cl.2⟩⟩
theorem gE.negNeg {x : E} (h : gE (.neg (.neg x))) : gE x := ⟨h.wf, by have := h.ht; simp only [hgt] at this; kd_p, h.cl⟩
section
variable {w : World} {S₀ s : Shared} {cs cs' : List Cell} {fs : List Fact} {A : Around} {E' : Value → Shared → Prop} {Q : Value → Shared → Prop} {env : Env} {R : Result → Shared → Prop} {G : Ag} {N : Nat} {v : PV} {n : Nat} {la lt db a : Addr} {acc : List E} {ats : List (E × Bool)} {st st' : PSt} {b : Bool} {t t' : Tok} {k : Int}
theorem rule_and {x y : E} (IH : AttOK w S₀ v n) (h1 : v.dl.isSome = st.2.isSome) (h2 : 0 ≤ st.1) (hk : k + 1 = 201 - n) (C : St w S₀ (G.c w ++ (v.c w st ++ cs)) fs s) (S : Sit v (n + 1) G la lt acc ats fs) (hd : Fact.ins db 1435 [("indent", t', .int k t)] ∈ fs) (r : Room A (2 * n + 151))
    (he : Fact.v (.ref a) (.e (.and x y)) ∈ fs) (hg : gE (.and x y)) (ha : stepE (att n) (.and x y) G.cont acc ats st = some (b, st')) (h : ∀ fs' s', (∀ f ∈ fs, f ∈ fs') → St w S₀ (v.c w st' ++ cs) fs' s' → R (.ok (.ret (.bool b))) s') :
    codeAny (model pw w) A (.call (.ref 1230) (RArgs v G a la lt db)) R s := by
  refine callF (n := 2 * n + 150) (binds := [("self", .ref v.p), ("current", .ref a), ("context", .none), ("agenda", .ref G.ag), ("accessible_vars", .ref la), ("atoms", .ref lt), ("debug", .ref db)]) ok1230 C r (binds0 (by kernel_rfl)) (by kernel_rfl) (by kernel_rfl) fun L A' s' r' C => ?_
  walk_at "B"
  replace C := C.agIn
  walk_at "mI"
  rename_i C
  have g1 := Ag.f_ag S.ag
  have hle := S.le
  have n1 := nN_succ hle
  have n2 := nN_le hle
  obtain ⟨e1, e2, e3, e4, C⟩ := C.openAnd he
  kd_p1
  rename_i C
  refine wpAny_call (code_put C (S.ag.mono (by walk_at "w")) (by kd_p) (r'.le (by kd_p)) (hg.and2).1.wf (by kd_in) (.inr rfl) fun G1 fs1 s1 a1 c1 o1 f1 C => ?_)
  have g2 := Ag.f_ag o1
  rw [a1] at g2
  obtain ⟨e1, e2, e3, e4, C⟩ := C.openAnd (f1 _ (show Fact.v (.ref a) (.e (.and x y)) ∈ _ by kd_in))
  kd_p1
  rename_i C
  refine wpAny_call (code_put C (o1.mono (by walk_at "w")) (by kd_p) (r'.le (by kd_p)) (hg.and2).2.wf (by kd_in) (.inr (by rw [a1])) fun G2 fs2 s2 a2 c2 o2 f2 C => ?_)
  have f3 : ∀ f ∈ fs, f ∈ fs2 := fun f hf => f2 f (by have := f1 f (by kd_in); kd_in)
  have S2 := S.put2 (hg.and2).1 (hg.and2).2 c1 c2 o2 (by kd_p) f3
  have gv := S2.fv _ (.head _)
  have gd := f3 _ hd
  kd_p1
  rename_i C
  refine addDbg C (r'.le (by kd_p)) (L := L) (by kd_in) gd fun db' t1 t2 s3 C => ?_
  kd_p1
  rename_i C
  rw [← a1, ← a2]
  refine recur IH h1 h2 hk C perm1 (S2.mono (by walk_at "w")) (.head _) r' (by rw [c2, c1]; exact ha) fun fs4 s4 f4 C => ?_
  exact h fs4 s4 (fun f hf => f4 f (.tail _ (f3 f hf))) ((C.permC List.perm_middle.symm).drop)
theorem rule_n_or {x y : E} (IH : AttOK w S₀ v n) (h1 : v.dl.isSome = st.2.isSome) (h2 : 0 ≤ st.1) (hk : k + 1 = 201 - n) (C : St w S₀ (G.c w ++ (v.c w st ++ cs)) fs s) (S : Sit v (n + 1) G la lt acc ats fs) (hd : Fact.ins db 1435 [("indent", t', .int k t)] ∈ fs) (r : Room A (2 * n + 151))
    (he : Fact.v (.ref a) (.e (.neg (.or x y))) ∈ fs) (hg : gE (.neg (.or x y))) (ha : stepE (att n) (.neg (.or x y)) G.cont acc ats st = some (b, st')) (h : ∀ fs' s', (∀ f ∈ fs, f ∈ fs') → St w S₀ (v.c w st' ++ cs) fs' s' → R (.ok (.ret (.bool b))) s') :
    codeAny (model pw w) A (.call (.ref 1237) (RArgs v G a la lt db)) R s := by
  refine callF (n := 2 * n + 150) (binds := [("self", .ref v.p), ("current", .ref a), ("context", .none), ("agenda", .ref G.ag), ("accessible_vars", .ref la), ("atoms", .ref lt), ("debug", .ref db)]) ok1237 C r (binds0 (by kernel_rfl)) (by kernel_rfl) (by kernel_rfl) fun L A' s' r' C => ?_
  walk_at "B"
  replace C := C.agIn
  walk_at "mI"
  rename_i C
  have g1 := Ag.f_ag S.ag
  have hle := S.le
  have n1 := nN_succ hle
  have n2 := nN_le hle
  obtain ⟨i1, i2, C⟩ := C.openNeg he
  obtain ⟨e1, e2, e3, e4, C⟩ := C.openOr (.tail _ (.head _))
  kd_p1
  rename_i C
  refine negE C (r'.le (by kd_p)) (L := L) (by kd_in) (by kd_in) fun q0 s0 C => ?_
  kd_p1
  rename_i C
  refine wpAny_call (code_put C (S.ag.mono (by walk_at "w")) (by kd_p) (r'.le (by kd_p)) (hg.negOr).1.wf (by kd_in) (.inr rfl) fun G1 fs1 s1 a1 c1 o1 f1 C => ?_)
  have g2 := Ag.f_ag o1
  rw [a1] at g2
  obtain ⟨i1, i2, C⟩ := C.openNeg (f1 _ (show Fact.v (.ref a) (.e (.neg (.or x y))) ∈ _ by kd_in))
  obtain ⟨e1, e2, e3, e4, C⟩ := C.openOr (.tail _ (.head _))
  kd_p1
  rename_i C
  refine negE C (r'.le (by kd_p)) (L := L) (by kd_in) (by kd_in) fun q0 s0 C => ?_
  kd_p1
  rename_i C
  refine wpAny_call (code_put C (o1.mono (by walk_at "w")) (by kd_p) (r'.le (by kd_p)) (hg.negOr).2.wf (by kd_in) (.inr (by rw [a1])) fun G2 fs2 s2 a2 c2 o2 f2 C => ?_)
  have f3 : ∀ f ∈ fs, f ∈ fs2 := fun f hf => f2 f (by have := f1 f (by kd_in); kd_in)
  have S2 := S.put2 (hg.negOr).1 (hg.negOr).2 c1 c2 o2 (by kd_p) f3
  have gv := S2.fv _ (.head _)
  have gd := f3 _ hd
  kd_p1
  rename_i C
  refine addDbg C (r'.le (by kd_p)) (L := L) (by kd_in) gd fun db' t1 t2 s3 C => ?_
  kd_p1
  rename_i C
  rw [← a1, ← a2]
  refine recur IH h1 h2 hk C perm1 (S2.mono (by walk_at "w")) (.head _) r' (by rw [c2, c1]; exact ha) fun fs4 s4 f4 C => ?_
  exact h fs4 s4 (fun f hf => f4 f (.tail _ (f3 f hf))) ((C.permC List.perm_middle.symm).drop)
theorem rule_n_imp {x y : E} (IH : AttOK w S₀ v n) (h1 : v.dl.isSome = st.2.isSome) (h2 : 0 ≤ st.1) (hk : k + 1 = 201 - n) (C : St w S₀ (G.c w ++ (v.c w st ++ cs)) fs s) (S : Sit v (n + 1) G la lt acc ats fs) (hd : Fact.ins db 1435 [("indent", t', .int k t)] ∈ fs) (r : Room A (2 * n + 151))
    (he : Fact.v (.ref a) (.e (.neg (.imp x y))) ∈ fs) (hg : gE (.neg (.imp x y))) (ha : stepE (att n) (.neg (.imp x y)) G.cont acc ats st = some (b, st')) (h : ∀ fs' s', (∀ f ∈ fs, f ∈ fs') → St w S₀ (v.c w st' ++ cs) fs' s' → R (.ok (.ret (.bool b))) s') :
    codeAny (model pw w) A (.call (.ref 1244) (RArgs v G a la lt db)) R s := by
  refine callF (n := 2 * n + 150) (binds := [("self", .ref v.p), ("current", .ref a), ("context", .none), ("agenda", .ref G.ag), ("accessible_vars", .ref la), ("atoms", .ref lt), ("debug", .ref db)]) ok1244 C r (binds0 (by kernel_rfl)) (by kernel_rfl) (by kernel_rfl) fun L A' s' r' C => ?_
  walk_at "B"
  replace C := C.agIn
  walk_at "mI"
  rename_i C
  have g1 := Ag.f_ag S.ag
  have hle := S.le
  have n1 := nN_succ hle
  have n2 := nN_le hle
  obtain ⟨i1, i2, C⟩ := C.openNeg he
  obtain ⟨e1, e2, e3, e4, C⟩ := C.openImp (.tail _ (.head _))
  kd_p1
  rename_i C
  refine wpAny_call (code_put C (S.ag.mono (by walk_at "w")) (by kd_p) (r'.le (by kd_p)) (hg.negImp).1.wf (by kd_in) (.inr rfl) fun G1 fs1 s1 a1 c1 o1 f1 C => ?_)
  have g2 := Ag.f_ag o1
  rw [a1] at g2
  obtain ⟨i1, i2, C⟩ := C.openNeg (f1 _ (show Fact.v (.ref a) (.e (.neg (.imp x y))) ∈ _ by kd_in))
  obtain ⟨e1, e2, e3, e4, C⟩ := C.openImp (.tail _ (.head _))
  kd_p1
  rename_i C
  refine negE C (r'.le (by kd_p)) (L := L) (by kd_in) (by kd_in) fun q0 s0 C => ?_
  kd_p1
  rename_i C
  refine wpAny_call (code_put C (o1.mono (by walk_at "w")) (by kd_p) (r'.le (by kd_p)) (hg.negImp).2.wf (by kd_in) (.inr (by rw [a1])) fun G2 fs2 s2 a2 c2 o2 f2 C => ?_)
  have f3 : ∀ f ∈ fs, f ∈ fs2 := fun f hf => f2 f (by have := f1 f (by kd_in); kd_in)
  have S2 := S.put2 (hg.negImp).1 (hg.negImp).2 c1 c2 o2 (by kd_p) f3
  have gv := S2.fv _ (.head _)
  have gd := f3 _ hd
  kd_p1
  rename_i C
  refine addDbg C (r'.le (by kd_p)) (L := L) (by kd_in) gd fun db' t1 t2 s3 C => ?_
  kd_p1
  rename_i C
  rw [← a1, ← a2]
  refine recur IH h1 h2 hk C perm1 (S2.mono (by walk_at "w")) (.head _) r' (by rw [c2, c1]; exact ha) fun fs4 s4 f4 C => ?_
  exact h fs4 s4 (fun f hf => f4 f (.tail _ (f3 f hf))) ((C.permC List.perm_middle.symm).drop)
theorem rule_d_neg {x : E} (IH : AttOK w S₀ v n) (h1 : v.dl.isSome = st.2.isSome) (h2 : 0 ≤ st.1) (hk : k + 1 = 201 - n) (C : St w S₀ (G.c w ++ (v.c w st ++ cs)) fs s) (S : Sit v (n + 1) G la lt acc ats fs) (hd : Fact.ins db 1435 [("indent", t', .int k t)] ∈ fs) (r : Room A (2 * n + 151))
    (he : Fact.v (.ref a) (.e (.neg (.neg x))) ∈ fs) (hg : gE (.neg (.neg x))) (ha : stepE (att n) (.neg (.neg x)) G.cont acc ats st = some (b, st')) (h : ∀ fs' s', (∀ f ∈ fs, f ∈ fs') → St w S₀ (v.c w st' ++ cs) fs' s' → R (.ok (.ret (.bool b))) s') :
    codeAny (model pw w) A (.call (.ref 1209) (RArgs v G a la lt db)) R s := by
  refine callF (n := 2 * n + 150) (binds := [("self", .ref v.p), ("current", .ref a), ("context", .none), ("agenda", .ref G.ag), ("accessible_vars", .ref la), ("atoms", .ref lt), ("debug", .ref db)]) ok1209 C r (binds0 (by kernel_rfl)) (by kernel_rfl) (by kernel_rfl) fun L A' s' r' C => ?_
  walk_at "B"
  replace C := C.agIn
  walk_at "mI"
  rename_i C
  have g1 := Ag.f_ag S.ag
  have hle := S.le
  have n1 := nN_succ hle
  have n2 := nN_le hle
  obtain ⟨i1, i2, C⟩ := C.openNeg he
  obtain ⟨j1, j2, C⟩ := C.openNeg (.tail _ (.head _))
  kd_p1
  rename_i C
  refine wpAny_call (code_put C (S.ag.mono (by walk_at "w")) (by kd_p) (r'.le (by kd_p)) (hg.negNeg).wf (by kd_in) (.inr rfl) fun G1 fs1 s1 a1 c1 o1 f1 C => ?_)
  have f3 : ∀ f ∈ fs, f ∈ fs1 := fun f hf => f1 f (by kd_in)
  have S2 := S.put (hg.negNeg) c1 o1 (by kd_p) f3
  have gv := S2.fv _ (.head _)
  have gd := f3 _ hd
  kd_p1
  rename_i C
  refine addDbg C (r'.le (by kd_p)) (L := L) (by kd_in) gd fun db' t1 t2 s3 C => ?_
  kd_p1
  rename_i C
  rw [← a1]
  refine recur IH h1 h2 hk C perm1 (S2.mono (by walk_at "w")) (.head _) r' (by rw [c1]; exact ha) fun fs4 s4 f4 C => ?_
  exact h fs4 s4 (fun f hf => f4 f (.tail _ (f3 f hf))) ((C.permC List.perm_middle.symm).drop)
end
theorem gE.negAll {x : Str} {t : E} (h : gE (.neg (.all x t))) : gE (.ex x (.neg t)) := ⟨h.wf, by have := h.ht; simp only [hgt] at this ⊢; kd_p, h.cl⟩
theorem gE.negEx {x : Str} {t : E} (h : gE (.neg (.ex x t))) : gE (.all x (.neg t)) := ⟨h.wf, by have := h.ht; simp only [hgt] at this ⊢; kd_p, h.cl⟩
section
variable {w : World} {S₀ s : Shared} {cs cs' : List Cell} {fs : List Fact} {A : Around} {E' : Value → Shared → Prop} {Q : Value → Shared → Prop} {env : Env} {R : Result → Shared → Prop} {G : Ag} {N : Nat} {v : PV} {n : Nat} {la lt db a : Addr} {acc : List E} {ats : List (E × Bool)} {st st' : PSt} {b : Bool} {t t' : Tok} {k : Int}
theorem ofC (C : St w S₀ cs fs s) {p : List Fact → Prop} (h : p fs) : p fs := h
theorem Ag.at19 (hG : G.ok fs N) {i : Nat} (hi : i < 20) : ∃ b l1 l2, G.bs = l1 ++ b :: l2 ∧ l1.length = i ∧ G.lists[i]? = some (.ref b.l) ∧ Cell.li b.l b.vs ∈ G.c w ∧ b.vs.length ≤ N ∧ Fact.l b.vs (b.es.map pairE) ∈ fs := by
  obtain ⟨b, hbk⟩ : ∃ b, G.bs[i]? = some b := ⟨_, List.getElem?_eq_getElem (by rw [hG.1]; exact hi)⟩
  obtain ⟨l1, l2, hb, hlen, _⟩ := modify_split (f := id) hbk
  have hbm := List.mem_of_getElem? hbk
  have hlk := Ag.listk hb
  rw [hlen] at hlk
  exact ⟨b, l1, l2, hb, hlen, hlk, .tail _ (.tail _ (.tail _ (List.mem_append_left _ (List.mem_map.mpr ⟨b, hbm, rfl⟩)))), hG.2.2.1 b hbm, hG.2.1 _ (.tail _ (List.mem_append_left _ (List.mem_map.mpr ⟨b, hbm, rfl⟩)))⟩
theorem rule_n_all {x : Str} {y : E} (IH : AttOK w S₀ v n) (h1 : v.dl.isSome = st.2.isSome) (h2 : 0 ≤ st.1) (hk : k + 1 = 201 - n) (C : St w S₀ (G.c w ++ (v.c w st ++ cs)) fs s) (S : Sit v (n + 1) G la lt acc ats fs) (hd : Fact.ins db 1435 [("indent", t', .int k t)] ∈ fs) (r : Room A (2 * n + 151))
    (he : Fact.v (.ref a) (.e (.neg (.all x y))) ∈ fs) (hg : gE (.neg (.all x y))) (ha : stepE (att n) (.neg (.all x y)) G.cont acc ats st = some (b, st')) (h : ∀ fs' s', (∀ f ∈ fs, f ∈ fs') → St w S₀ (v.c w st' ++ cs) fs' s' → R (.ok (.ret (.bool b))) s') :
    codeAny (model pw w) A (.call (.ref 1216) (RArgs v G a la lt db)) R s := by
  refine callF (n := 2 * n + 150) (binds := [("self", .ref v.p), ("current", .ref a), ("context", .none), ("agenda", .ref G.ag), ("accessible_vars", .ref la), ("atoms", .ref lt), ("debug", .ref db)]) ok1216 C r (binds0 (by kernel_rfl)) (by kernel_rfl) (by kernel_rfl) fun L A' s' r' C => ?_
  have nc_EXISTS := c_EXISTS; have ng_ExistsExpression := g_ExistsExpression; have ng_Categories := g_Categories
  walk_at "B"
  replace C := C.agIn
  walk_at "mI"
  rename_i C
  have g1 := Ag.f_ag S.ag
  have hle := S.le
  have n1 := nN_succ hle
  have n2 := nN_le hle
  obtain ⟨i1, i2, C⟩ := C.openNeg he
  obtain ⟨e1, e2, e3, e4, C⟩ := C.openAll (.tail _ (.head _))
  obtain ⟨bl, l1, l2, hb, hlen, hlk, hbc, hbz, hbf⟩ := Ag.at19 (w := w) (i := 19) S.ag (by decide)
  kd_p1
  rename_i C
  refine subG (L := L) C (r'.le (by kd_p)) (by kd_in) (by kd_in) Ag.m_d Ag.m_sl (by decide) (by decide) hlk fun s1 C => ?_
  kd_p1
  refine gmL C (List.mem_append_left _ hbc) ?_
  kd_p1
  rename_i C
  refine negE C (r'.le (by kd_p)) (L := L) (by kd_in) (by kd_in) fun q0 s0 C => ?_
  kd_p1
  rename_i C
  refine mk_Ex (x1 := x) (x2 := .neg y) C (r'.le (by kd_p)) (by kd_in) (by kd_in) fun q1 s1 C => ?_
  kd_p1
  rename_i p s2 C
  refine appL C (Ag.updBs (e := .ex x (.neg y)) hb) (by kd_p) fun s5 C => ?_
  replace C := C.mkPair (v := .ref q1) (x := .ex x (.neg y)) (p := p) (by kd_in) (by kd_in)
  replace C := C.snoc (vs := bl.vs) (as := bl.es.map pairE) (v := .ref p) (a := pairE (.ex x (.neg y))) (by kd_in) (.head _)
  have o1 := ofC C (p := fun F => (G.push l1 l2 bl (.ref p) (.ex x (.neg y))).ok F (nN (n + 1) + 1)) (Ag.ok.push (S.ag.mono (by walk_at "w")) hb (by rw [List.map_append]; exact .head _))
  have c1 : (G.push l1 l2 bl (.ref p) (.ex x (.neg y))).cont = putP G.cont (.ex x (.neg y)) := by rw [Ag.cont_push hb, hlen]; rfl
  have S2 := S.put hg.negAll c1 o1 (by kd_p) (by walk_at "w")
  have gv := S.fv _ (.head _)
  kd_p1
  rename_i C
  refine addDbg C (r'.le (by kd_p)) (L := L) (by kd_in) (by kd_in) fun db' t1 t2 s3 C => ?_
  kd_p1
  rename_i C
  refine recur (G := G.push l1 l2 bl (.ref p) (.ex x (.neg y))) IH h1 h2 hk C perm1 (S2.mono (by walk_at "w")) (.head _) r' (by rw [c1]; exact ha) fun fs4 s4 f4 C => ?_
  exact h fs4 s4 (fun f hf => f4 f (by kd_in)) ((C.permC List.perm_middle.symm).drop)
theorem Sit.add {q : ARec} {fs' : List Fact} (S : Sit v (n + 1) G la lt acc ats fs) (hq : gA (n + 1) q.cont) (hf : ∀ f ∈ q.f, f ∈ fs') (k : ∀ f ∈ fs, f ∈ fs') : Sit v n (G.setAl (G.al ++ [q])) la lt acc ats fs' ∧ (G.setAl (G.al ++ [q])).cont = addAllP G.cont q.cont := by
  have c : (G.setAl (G.al ++ [q])).cont = addAllP G.cont q.cont := by simp [Ag.cont, Ag.setAl, addAllP]
  exact ⟨⟨by have := S.le; kd_p, (Ag.ok.addAl (S.ag.mono k) hf).le (by have := nN_succ S.le; kd_p), c ▸ (S.gg.add hq).le (Nat.le_succ n), S.gc.le (Nat.le_succ n), S.gt.le (Nat.le_succ n), let ⟨vs, a, b⟩ := S.fa; ⟨vs, k _ a, k _ b⟩, let ⟨vs, a, b⟩ := S.ft; ⟨vs, k _ a, k _ b⟩, fun f hf => k f (S.fv f hf)⟩, c⟩
theorem rule_n_some {x : Str} {y : E} (IH : AttOK w S₀ v n) (h1 : v.dl.isSome = st.2.isSome) (h2 : 0 ≤ st.1) (hk : k + 1 = 201 - n) (C : St w S₀ (G.c w ++ (v.c w st ++ cs)) fs s) (S : Sit v (n + 1) G la lt acc ats fs) (hd : Fact.ins db 1435 [("indent", t', .int k t)] ∈ fs) (r : Room A (2 * n + 151))
    (he : Fact.v (.ref a) (.e (.neg (.ex x y))) ∈ fs) (hg : gE (.neg (.ex x y))) (ha : stepE (att n) (.neg (.ex x y)) G.cont acc ats st = some (b, st')) (h : ∀ fs' s', (∀ f ∈ fs, f ∈ fs') → St w S₀ (v.c w st' ++ cs) fs' s' → R (.ok (.ret (.bool b))) s') :
    codeAny (model pw w) A (.call (.ref 1223) (RArgs v G a la lt db)) R s := by
  refine callF (n := 2 * n + 150) (binds := [("self", .ref v.p), ("current", .ref a), ("context", .none), ("agenda", .ref G.ag), ("accessible_vars", .ref la), ("atoms", .ref lt), ("debug", .ref db)]) ok1223 C r (binds0 (by kernel_rfl)) (by kernel_rfl) (by kernel_rfl) fun L A' s' r' C => ?_
  have nc_ALL := c_ALL; have ng_AllExpression := g_AllExpression; have ng_Categories := g_Categories
  walk_at "B"
  replace C := C.agIn
  walk_at "mI"
  rename_i C
  have g1 := Ag.f_ag S.ag
  have hle := S.le
  have n1 := nN_succ hle
  have n2 := nN_le hle
  have hz : (G.al.map fun r => Value.ref r.p).length ≤ 100000 := by rw [List.length_map]; have := S.ag.2.2.2; kd_p
  obtain ⟨i1, i2, C⟩ := C.openNeg he
  obtain ⟨e1, e2, e3, e4, C⟩ := C.openEx (.tail _ (.head _))
  kd_p1
  rename_i C
  refine subG (L := L) C (r'.le (by kd_p)) (by kd_in) (by kd_in) Ag.m_d Ag.m_sl (by decide) (by decide) (Ag.list20 S.ag) fun s1 C => ?_
  kd_p1
  rename_i C
  refine negE C (r'.le (by kd_p)) (L := L) (by kd_in) (by kd_in) fun q0 s0 C => ?_
  kd_p1
  rename_i C
  refine mk_AllM (x1 := x) (x2 := .neg y) C (r'.le (by kd_p)) (by kd_in) (by kd_in) fun q1 d1 s1 C => ?_
  kd_p1
  rename_i p s2 C
  refine appL C (.tail (Ag.updAa (q := ⟨p, q1, d1, e3, q0, x, .neg y, none, false⟩))) hz fun s5 C => ?_
  replace C := Ag.join (q := ⟨p, q1, d1, e3, q0, x, .neg y, none, false⟩) C
  obtain ⟨S2, c1⟩ := S.add (q := ⟨p, q1, d1, e3, q0, x, .neg y, none, false⟩) (fs' := .ob p (tupObj [.ref q1, .none]) :: .ob q1 (instObj 788 d1) :: .v (.ref q0) (.e (.neg y)) :: .ins i2 755 [("variable", e1, .ref e3), ("term", e2, .ref e4)] :: .v (.ref e3) (.var x) :: .v (.ref e4) (.e y) :: .ins a 842 [("term", i1, .ref i2)] :: .v (.ref i2) (.e (.ex x y)) :: fs) ⟨hg.negEx, fun u hu => by cases hu⟩ (by simp only [ARec.f, List.cons_append, List.nil_append]; walk_at "w") (by walk_at "w")
  have gv := S.fv _ (.head _)
  kd_p1
  rename_i C
  refine addDbg C (r'.le (by kd_p)) (L := L) (by kd_in) (by kd_in) fun db' t1 t2 s3 C => ?_
  kd_p1
  rename_i C
  refine recur (G := G.setAl (G.al ++ [⟨p, q1, d1, e3, q0, x, .neg y, none, false⟩])) IH h1 h2 hk C perm1 (S2.mono (by walk_at "w")) (.head _) r' (by rw [c1]; exact ha) fun fs4 s4 f4 C => ?_
  exact h fs4 s4 (fun f hf => f4 f (by kd_in)) ((C.permC List.perm_middle.symm).drop)
end
theorem GAg.no6 {m : Nat} {G : Ag} (h : GAg m G.cont) : ∀ b, G.bs[6]? = some b → b.es = [] := by
  intro b hb
  have hl : G.cont.1[6]? = some b.es := by show (G.bs.map (·.es))[6]? = _; rw [List.getElem?_map, hb]; rfl
  cases q : b.es with
  | nil => rfl
  | cons e r =>
    have z := (h.1 6 _ hl e (by rw [q]; exact .head _)).1
    exact absurd z (of_decide_eq_false (by
      cases e with
      | neg t => cases t <;> kernel_rfl
      | _ => kernel_rfl))
theorem GAg.noU {m : Nat} {G : Ag} (h : GAg m G.cont) : ∀ q ∈ G.al, ∀ u, q.u = some u → u.2.2.length ≤ 5000 := by
  intro q hq u hu
  have z := ((h.2 q.cont (List.mem_map_of_mem hq)).2 u.2.2 (by show q.u.map (·.2.2) = _; rw [hu]; rfl)).2
  kd_p
section
variable {w : World} {S₀ s : Shared} {cs cs' : List Cell} {fs : List Fact} {A : Around} {E' : Value → Shared → Prop} {Q : Value → Shared → Prop} {env : Env} {R : Result → Shared → Prop} {G : Ag} {N : Nat} {v : PV} {n : Nat} {la lt db a : Addr} {acc : List E} {ats : List (E × Bool)} {st st' : PSt} {b : Bool} {t t' : Tok} {k : Int}
theorem perm2 {X Y V : List Cell} {d : Cell} : (X ++ (V ++ (Y ++ (d :: cs)))).Perm (Y ++ (X ++ (d :: (V ++ cs)))) := by
  refine (List.Perm.append_left X (?_ : (V ++ (Y ++ (d :: cs))).Perm (Y ++ (d :: (V ++ cs))))).trans (List.perm_append_comm_assoc _ _ _)
  exact (List.perm_append_comm_assoc _ _ _).trans (List.Perm.append_left Y List.perm_middle)
theorem perm3 {X V : List Cell} {d : Cell} : (X ++ (V ++ (d :: cs))).Perm (V ++ (X ++ (d :: cs))) := List.perm_append_comm_assoc _ _ _
theorem Sit.putC {G1 G' : Ag} {e : E} {fs' : List Fact} {j : Nat} (S : Sit v (n + 1) G la lt acc ats fs) (h1 : G1.cont = cloneP G.cont) (he : gE e) (hc : G'.cont = putP G1.cont e) (ho : G'.ok fs' (j + 1)) (hj : j + 1 ≤ nN n) (k : ∀ f ∈ fs, f ∈ fs') : Sit v n G' la lt acc ats fs' :=
  ⟨by have := S.le; kd_p, ho.le hj, hc ▸ ((h1 ▸ S.gg.clone (by have := S.le; kd_p) : GAg (n + 1) G1.cont).put he (by have := S.le; kd_p)).le (Nat.le_succ n), S.gc.le (Nat.le_succ n), S.gt.le (Nat.le_succ n), let ⟨vs, a, b⟩ := S.fa; ⟨vs, k _ a, k _ b⟩, let ⟨vs, a, b⟩ := S.ft; ⟨vs, k _ a, k _ b⟩, fun f hf => k f (S.fv f hf)⟩
theorem rule_or {x y : E} (IH : AttOK w S₀ v n) (h1 : v.dl.isSome = st.2.isSome) (h2 : 0 ≤ st.1) (hk : k + 1 = 201 - n) (C : St w S₀ (G.c w ++ (v.c w st ++ cs)) fs s) (S : Sit v (n + 1) G la lt acc ats fs) (hd : Fact.ins db 1435 [("indent", t', .int k t)] ∈ fs) (r : Room A (2 * n + 151))
    (he : Fact.v (.ref a) (.e (.or x y)) ∈ fs) (hg : gE (.or x y)) (ha : stepE (att n) (.or x y) G.cont acc ats st = some (b, st')) (h : ∀ fs' s', (∀ f ∈ fs, f ∈ fs') → St w S₀ (v.c w st' ++ cs) fs' s' → R (.ok (.ret (.bool b))) s') :
    codeAny (model pw w) A (.call (.ref 1251) (RArgs v G a la lt db)) R s := by
  refine callF (n := 2 * n + 150) (binds := [("self", .ref v.p), ("current", .ref a), ("context", .none), ("agenda", .ref G.ag), ("accessible_vars", .ref la), ("atoms", .ref lt), ("debug", .ref db)]) ok1251 C r (binds0 (by kernel_rfl)) (by kernel_rfl) (by kernel_rfl) fun L A' s' r' C => ?_
  walk_at "B"
  replace C := C.agIn
  walk_at "mI"
  rename_i C
  have g1 := Ag.f_ag S.ag
  have hle := S.le
  have n1 := nN_succ hle
  have n2 := nN_le hle
  replace ha : orS (att n) (putP G.cont (x)) (putP (cloneP G.cont) (y)) acc ats st = some (b, st') := ha
  kd_p1
  rename_i C
  refine wpAny_call (code_clone C S.ag (by kd_p) (GAg.no6 S.gg) (GAg.noU S.gg) (r'.le (by kd_p)) fun G1 fs1 s1 c1 o1 f1 C => ?_)
  replace S := S.mono f1
  replace he := f1 _ he
  have g3 := Ag.f_ag o1
  have g1 := Ag.f_ag S.ag
  kd_p1
  rename_i C
  replace C := C.permC (List.perm_append_comm_assoc _ _ _)
  obtain ⟨e1, e2, e3, e4, C⟩ := C.openOr he
  kd_p1
  rename_i C
  refine wpAny_call (code_put C (S.ag.mono (by walk_at "w")) (by kd_p) (r'.le (by kd_p)) (hg.or2).1.wf (by kd_in) (.inr rfl) fun G2 fs2 s2 a2 c2 o2 f2 C => ?_)
  replace C := C.permC (List.perm_append_comm_assoc _ _ _)
  replace o1 := o1.mono (fun f k => f2 f (by kd_in))
  replace g3 : Fact.ob G1.ag (instObj 1406 G1.d) ∈ fs2 := f2 _ (by kd_in)
  obtain ⟨e1, e2, e3, e4, C⟩ := C.openOr (f2 _ (show Fact.v (.ref a) (.e (.or x y)) ∈ _ by kd_in))
  kd_p1
  rename_i C
  refine wpAny_call (code_put C (o1.mono (by walk_at "w")) (by kd_p) (r'.le (by kd_p)) (hg.or2).2.wf (by kd_in) (.inr rfl) fun G3 fs3 s3 a3 c3 o3 f3 C => ?_)
  have f4 : ∀ f ∈ fs1, f ∈ fs3 := fun f hf => f3 f (by have := f2 f (by kd_in); kd_in)
  have S2 := S.put (hg.or2).1 c2 (o2.mono (fun f k => f3 f (by kd_in))) (by kd_p) f4
  have S3 := S.putC c1 (hg.or2).2 c3 o3 (by kd_p) f4
  have gv := S2.fv _ (.head _)
  have gd := f4 _ (f1 _ hd)
  kd_p1
  rename_i C
  refine addDbg C (r'.le (by kd_p)) (L := L) (by kd_in) gd fun db' t1 t2 s4 C => ?_
  kd_p1
  rename_i C
  cases q : att n (putP G.cont (x)) acc ats st with
  | none => unfold orS at ha; rw [q] at ha; cases ha
  | some p =>
    obtain ⟨b1, st1⟩ := p
    have le1 := att_le n q
    rw [← a2]
    refine recur IH h1 h2 hk C perm2 (S2.mono (by walk_at "w")) (.head _) r' (by rw [c2]; exact q) fun fs5 s5 f5 C => ?_
    unfold orS at ha
    rw [q] at ha
    cases b1 with
    | false =>
      cases ha
      kd_p1
      exact h fs5 _ (fun f hf => f5 f (.tail _ (f4 f (f1 f hf)))) ((C.weakC (List.Sublist.append (List.Sublist.refl _) ((List.sublist_cons_self _ _).trans (List.sublist_append_right _ _)))))
    | true =>
      have gv := f5 _ (.tail _ gv)
      have gd := f5 _ (.tail _ gd)
      have g5 := Ag.f_ag (o3.mono (fun f k => f5 f (.tail _ k)))
      rw [a3] at g5
      kd_p1
      rename_i C
      refine addDbg C (r'.le (by kd_p)) (L := L) (by kd_in) gd fun db2 t3 t4 s6 C => ?_
      kd_p1
      rename_i C
      rw [← a3]
      refine recur IH (h1.trans le1.1.symm) (Int.le_trans h2 le1.2) hk C perm3 (S3.mono (fun f k => .tail _ (f5 f (.tail _ k)))) (.head _) r' (by rw [c3, c1]; exact ha) fun fs6 s6 f6 C => ?_
      exact h fs6 s6 (fun f hf => f6 f (.tail _ (f5 f (.tail _ (f4 f (f1 f hf)))))) ((C.permC List.perm_middle.symm).drop)
theorem rule_imp {x y : E} (IH : AttOK w S₀ v n) (h1 : v.dl.isSome = st.2.isSome) (h2 : 0 ≤ st.1) (hk : k + 1 = 201 - n) (C : St w S₀ (G.c w ++ (v.c w st ++ cs)) fs s) (S : Sit v (n + 1) G la lt acc ats fs) (hd : Fact.ins db 1435 [("indent", t', .int k t)] ∈ fs) (r : Room A (2 * n + 151))
    (he : Fact.v (.ref a) (.e (.imp x y)) ∈ fs) (hg : gE (.imp x y)) (ha : stepE (att n) (.imp x y) G.cont acc ats st = some (b, st')) (h : ∀ fs' s', (∀ f ∈ fs, f ∈ fs') → St w S₀ (v.c w st' ++ cs) fs' s' → R (.ok (.ret (.bool b))) s') :
    codeAny (model pw w) A (.call (.ref 1258) (RArgs v G a la lt db)) R s := by
  refine callF (n := 2 * n + 150) (binds := [("self", .ref v.p), ("current", .ref a), ("context", .none), ("agenda", .ref G.ag), ("accessible_vars", .ref la), ("atoms", .ref lt), ("debug", .ref db)]) ok1258 C r (binds0 (by kernel_rfl)) (by kernel_rfl) (by kernel_rfl) fun L A' s' r' C => ?_
  walk_at "B"
  replace C := C.agIn
  walk_at "mI"
  rename_i C
  have g1 := Ag.f_ag S.ag
  have hle := S.le
  have n1 := nN_succ hle
  have n2 := nN_le hle
  replace ha : orS (att n) (putP G.cont (.neg (x))) (putP (cloneP G.cont) (y)) acc ats st = some (b, st') := ha
  kd_p1
  rename_i C
  refine wpAny_call (code_clone C S.ag (by kd_p) (GAg.no6 S.gg) (GAg.noU S.gg) (r'.le (by kd_p)) fun G1 fs1 s1 c1 o1 f1 C => ?_)
  replace S := S.mono f1
  replace he := f1 _ he
  have g3 := Ag.f_ag o1
  have g1 := Ag.f_ag S.ag
  kd_p1
  rename_i C
  replace C := C.permC (List.perm_append_comm_assoc _ _ _)
  obtain ⟨e1, e2, e3, e4, C⟩ := C.openImp he
  kd_p1
  rename_i C
  refine negE C (r'.le (by kd_p)) (L := L) (by kd_in) (by kd_in) fun q0 s0 C => ?_
  kd_p1
  rename_i C
  refine wpAny_call (code_put C (S.ag.mono (by walk_at "w")) (by kd_p) (r'.le (by kd_p)) (hg.imp2).1.wf (by kd_in) (.inr rfl) fun G2 fs2 s2 a2 c2 o2 f2 C => ?_)
  replace C := C.permC (List.perm_append_comm_assoc _ _ _)
  replace o1 := o1.mono (fun f k => f2 f (by kd_in))
  replace g3 : Fact.ob G1.ag (instObj 1406 G1.d) ∈ fs2 := f2 _ (by kd_in)
  obtain ⟨e1, e2, e3, e4, C⟩ := C.openImp (f2 _ (show Fact.v (.ref a) (.e (.imp x y)) ∈ _ by kd_in))
  kd_p1
  rename_i C
  refine wpAny_call (code_put C (o1.mono (by walk_at "w")) (by kd_p) (r'.le (by kd_p)) (hg.imp2).2.wf (by kd_in) (.inr rfl) fun G3 fs3 s3 a3 c3 o3 f3 C => ?_)
  have f4 : ∀ f ∈ fs1, f ∈ fs3 := fun f hf => f3 f (by have := f2 f (by kd_in); kd_in)
  have S2 := S.put (hg.imp2).1 c2 (o2.mono (fun f k => f3 f (by kd_in))) (by kd_p) f4
  have S3 := S.putC c1 (hg.imp2).2 c3 o3 (by kd_p) f4
  have gv := S2.fv _ (.head _)
  have gd := f4 _ (f1 _ hd)
  kd_p1
  rename_i C
  refine addDbg C (r'.le (by kd_p)) (L := L) (by kd_in) gd fun db' t1 t2 s4 C => ?_
  kd_p1
  rename_i C
  cases q : att n (putP G.cont (.neg (x))) acc ats st with
  | none => unfold orS at ha; rw [q] at ha; cases ha
  | some p =>
    obtain ⟨b1, st1⟩ := p
    have le1 := att_le n q
    rw [← a2]
    refine recur IH h1 h2 hk C perm2 (S2.mono (by walk_at "w")) (.head _) r' (by rw [c2]; exact q) fun fs5 s5 f5 C => ?_
    unfold orS at ha
    rw [q] at ha
    cases b1 with
    | false =>
      cases ha
      kd_p1
      exact h fs5 _ (fun f hf => f5 f (.tail _ (f4 f (f1 f hf)))) ((C.weakC (List.Sublist.append (List.Sublist.refl _) ((List.sublist_cons_self _ _).trans (List.sublist_append_right _ _)))))
    | true =>
      have gv := f5 _ (.tail _ gv)
      have gd := f5 _ (.tail _ gd)
      have g5 := Ag.f_ag (o3.mono (fun f k => f5 f (.tail _ k)))
      rw [a3] at g5
      kd_p1
      rename_i C
      refine addDbg C (r'.le (by kd_p)) (L := L) (by kd_in) gd fun db2 t3 t4 s6 C => ?_
      kd_p1
      rename_i C
      rw [← a3]
      refine recur IH (h1.trans le1.1.symm) (Int.le_trans h2 le1.2) hk C perm3 (S3.mono (fun f k => .tail _ (f5 f (.tail _ k)))) (.head _) r' (by rw [c3, c1]; exact ha) fun fs6 s6 f6 C => ?_
      exact h fs6 s6 (fun f hf => f6 f (.tail _ (f5 f (.tail _ (f4 f (f1 f hf)))))) ((C.permC List.perm_middle.symm).drop)
theorem rule_n_and {x y : E} (IH : AttOK w S₀ v n) (h1 : v.dl.isSome = st.2.isSome) (h2 : 0 ≤ st.1) (hk : k + 1 = 201 - n) (C : St w S₀ (G.c w ++ (v.c w st ++ cs)) fs s) (S : Sit v (n + 1) G la lt acc ats fs) (hd : Fact.ins db 1435 [("indent", t', .int k t)] ∈ fs) (r : Room A (2 * n + 151))
    (he : Fact.v (.ref a) (.e (.neg (.and x y))) ∈ fs) (hg : gE (.neg (.and x y))) (ha : stepE (att n) (.neg (.and x y)) G.cont acc ats st = some (b, st')) (h : ∀ fs' s', (∀ f ∈ fs, f ∈ fs') → St w S₀ (v.c w st' ++ cs) fs' s' → R (.ok (.ret (.bool b))) s') :
    codeAny (model pw w) A (.call (.ref 1265) (RArgs v G a la lt db)) R s := by
  refine callF (n := 2 * n + 150) (binds := [("self", .ref v.p), ("current", .ref a), ("context", .none), ("agenda", .ref G.ag), ("accessible_vars", .ref la), ("atoms", .ref lt), ("debug", .ref db)]) ok1265 C r (binds0 (by kernel_rfl)) (by kernel_rfl) (by kernel_rfl) fun L A' s' r' C => ?_
  walk_at "B"
  replace C := C.agIn
  walk_at "mI"
  rename_i C
  have g1 := Ag.f_ag S.ag
  have hle := S.le
  have n1 := nN_succ hle
  have n2 := nN_le hle
  replace ha : orS (att n) (putP G.cont (.neg (x))) (putP (cloneP G.cont) (.neg (y))) acc ats st = some (b, st') := ha
  kd_p1
  rename_i C
  refine wpAny_call (code_clone C S.ag (by kd_p) (GAg.no6 S.gg) (GAg.noU S.gg) (r'.le (by kd_p)) fun G1 fs1 s1 c1 o1 f1 C => ?_)
  replace S := S.mono f1
  replace he := f1 _ he
  have g3 := Ag.f_ag o1
  have g1 := Ag.f_ag S.ag
  kd_p1
  rename_i C
  replace C := C.permC (List.perm_append_comm_assoc _ _ _)
  obtain ⟨i1, i2, C⟩ := C.openNeg he
  obtain ⟨e1, e2, e3, e4, C⟩ := C.openAnd (.tail _ (.head _))
  kd_p1
  rename_i C
  refine negE C (r'.le (by kd_p)) (L := L) (by kd_in) (by kd_in) fun q0 s0 C => ?_
  kd_p1
  rename_i C
  refine wpAny_call (code_put C (S.ag.mono (by walk_at "w")) (by kd_p) (r'.le (by kd_p)) (hg.negAnd).1.wf (by kd_in) (.inr rfl) fun G2 fs2 s2 a2 c2 o2 f2 C => ?_)
  replace C := C.permC (List.perm_append_comm_assoc _ _ _)
  replace o1 := o1.mono (fun f k => f2 f (by kd_in))
  replace g3 : Fact.ob G1.ag (instObj 1406 G1.d) ∈ fs2 := f2 _ (by kd_in)
  obtain ⟨i1, i2, C⟩ := C.openNeg (f2 _ (show Fact.v (.ref a) (.e (.neg (.and x y))) ∈ _ by kd_in))
  obtain ⟨e1, e2, e3, e4, C⟩ := C.openAnd (.tail _ (.head _))
  kd_p1
  rename_i C
  refine negE C (r'.le (by kd_p)) (L := L) (by kd_in) (by kd_in) fun q0 s0 C => ?_
  kd_p1
  rename_i C
  refine wpAny_call (code_put C (o1.mono (by walk_at "w")) (by kd_p) (r'.le (by kd_p)) (hg.negAnd).2.wf (by kd_in) (.inr rfl) fun G3 fs3 s3 a3 c3 o3 f3 C => ?_)
  have f4 : ∀ f ∈ fs1, f ∈ fs3 := fun f hf => f3 f (by have := f2 f (by kd_in); kd_in)
  have S2 := S.put (hg.negAnd).1 c2 (o2.mono (fun f k => f3 f (by kd_in))) (by kd_p) f4
  have S3 := S.putC c1 (hg.negAnd).2 c3 o3 (by kd_p) f4
  have gv := S2.fv _ (.head _)
  have gd := f4 _ (f1 _ hd)
  kd_p1
  rename_i C
  refine addDbg C (r'.le (by kd_p)) (L := L) (by kd_in) gd fun db' t1 t2 s4 C => ?_
  kd_p1
  rename_i C
  cases q : att n (putP G.cont (.neg (x))) acc ats st with
  | none => unfold orS at ha; rw [q] at ha; cases ha
  | some p =>
    obtain ⟨b1, st1⟩ := p
    have le1 := att_le n q
    rw [← a2]
    refine recur IH h1 h2 hk C perm2 (S2.mono (by walk_at "w")) (.head _) r' (by rw [c2]; exact q) fun fs5 s5 f5 C => ?_
    unfold orS at ha
    rw [q] at ha
    cases b1 with
    | false =>
      cases ha
      kd_p1
      exact h fs5 _ (fun f hf => f5 f (.tail _ (f4 f (f1 f hf)))) ((C.weakC (List.Sublist.append (List.Sublist.refl _) ((List.sublist_cons_self _ _).trans (List.sublist_append_right _ _)))))
    | true =>
      have gv := f5 _ (.tail _ gv)
      have gd := f5 _ (.tail _ gd)
      have g5 := Ag.f_ag (o3.mono (fun f k => f5 f (.tail _ k)))
      rw [a3] at g5
      kd_p1
      rename_i C
      refine addDbg C (r'.le (by kd_p)) (L := L) (by kd_in) gd fun db2 t3 t4 s6 C => ?_
      kd_p1
      rename_i C
      rw [← a3]
      refine recur IH (h1.trans le1.1.symm) (Int.le_trans h2 le1.2) hk C perm3 (S3.mono (fun f k => .tail _ (f5 f (.tail _ k)))) (.head _) r' (by rw [c3, c1]; exact ha) fun fs6 s6 f6 C => ?_
      exact h fs6 s6 (fun f hf => f6 f (.tail _ (f5 f (.tail _ (f4 f (f1 f hf)))))) ((C.permC List.perm_middle.symm).drop)
end
section
variable {w : World} {S₀ s : Shared} {cs cs' : List Cell} {fs : List Fact} {A : Around} {E' : Value → Shared → Prop} {Q : Value → Shared → Prop} {env : Env} {R : Result → Shared → Prop} {G : Ag} {N : Nat} {v : PV} {n : Nat} {la lt db a : Addr} {acc : List E} {ats : List (E × Bool)} {st st' : PSt} {b : Bool} {t t' : Tok} {k : Int}
theorem St.mkPairB (C : St w S₀ cs fs s) {p : Addr} {u : Value} {x : E} {c : Bool} (ho : Fact.ob p (tupObj [u, .bool c]) ∈ fs) (hv : Fact.v u (.e x) ∈ fs) : St w S₀ cs (.v (.ref p) (kP.av (x, c)) :: fs) s := C.fact fun g Y => by
  exact relT (xs := [.e x, .bool c]) (Y _ ho) (relL1 (Y _ hv) (relL1 rfl relL0))
theorem St.agDrop (C : St w S₀ (G.c w ++ cs) fs s) : St w S₀ cs fs s := C.weakC (List.sublist_append_right _ _)
theorem St.oneL (C : St w S₀ cs fs s) {u : Value} {x : AV} (hv : Fact.v u x ∈ fs) : St w S₀ cs (.l [u] [x] :: fs) s := C.fact fun g Y => by
  exact relL1 (Y _ hv) relL0
theorem Sit.fresh (S : Sit v (n + 1) G la lt acc ats fs) {la' lt' : Addr} {acc' : List E} {ats' : List (E × Bool)} {fs' : List Fact} (k : ∀ f ∈ fs, f ∈ fs') (gc : GAc n acc') (gt : GAt n ats') (fa : ∃ vs, Fact.li la' vs ∈ fs' ∧ Fact.l vs (acc'.map .e) ∈ fs') (ft : ∃ us, Fact.li lt' us ∈ fs' ∧ Fact.l us (ats'.map kP.av) ∈ fs') :
    Sit v n (G.setAl (G.al.map ARec.fresh)) la' lt' acc' ats' fs' ∧ (G.setAl (G.al.map ARec.fresh)).cont = freshP G.cont := by
  have c : (G.setAl (G.al.map ARec.fresh)).cont = freshP G.cont := by
    simp only [Ag.cont, Ag.setAl, freshP, List.map_map]
    rfl
  exact ⟨⟨by have := S.le; kd_p, ((S.ag.mono k).fresh).le (by have := nN_succ S.le; kd_p), c ▸ (S.gg.le (Nat.le_succ n)).fresh, gc, gt, fa, ft, fun f hf => k f (S.fv f hf)⟩, c⟩
theorem argsE_len : ∀ {e : E}, (argsE e).length ≤ depE e
  | .app f x => by
    have := @argsE_len f
    simp only [argsE, depE, List.length_append, List.length_cons, List.length_nil]
    kd_p
  | .con _ => Nat.zero_le _ | .iv _ => Nat.zero_le _ | .neg _ => Nat.zero_le _ | .and _ _ => Nat.zero_le _ | .or _ _ => Nat.zero_le _ | .imp _ _ => Nat.zero_le _ | .all _ _ => Nat.zero_le _ | .ex _ _ => Nat.zero_le _
theorem argsE_cl : ∀ {e : E}, clE [] e → ∀ y ∈ argsE e, clE [] y
  | .app f x, h, y, hy => by
    rcases List.mem_append.mp hy with hy | hy
    · exact argsE_cl h.1 y hy
    · rw [List.mem_singleton.mp hy]; exact h.2
  | .con _, _, _, hy => by cases hy
  | .iv _, _, _, hy => by cases hy
  | .neg _, _, _, hy => by cases hy
  | .and _ _, _, _, hy => by cases hy
  | .or _ _, _, _, hy => by cases hy
  | .imp _ _, _, _, hy => by cases hy
  | .all _ _, _, _, hy => by cases hy
  | .ex _ _, _, _, hy => by cases hy
theorem atom_okA {e : E} (h : atomE e) (hc : clE [] e) : ∀ y ∈ argsE e, okA y := fun y hy => by
  obtain ⟨m, hm⟩ := h.2.2 y hy
  refine ⟨⟨m, hm⟩, fun x hx q => ?_⟩
  have := argsE_cl hc y hy
  rw [q] at this
  exact absurd (this hx) List.not_mem_nil
theorem rule_atom {x y : E} (IH : AttOK w S₀ v n) (h1 : v.dl.isSome = st.2.isSome) (h2 : 0 ≤ st.1) (hk : k + 1 = 201 - n) (C : St w S₀ (G.c w ++ (v.c w st ++ cs)) fs s) (S : Sit v (n + 1) G la lt acc ats fs) (hd : Fact.ins db 1435 [("indent", t', .int k t)] ∈ fs) (r : Room A (2 * n + 151))
    (he : Fact.v (.ref a) (.e (.app x y)) ∈ fs) (hg : gE (.app x y)) (ha : stepE (att n) (.app x y) G.cont acc ats st = some (b, st')) (h : ∀ fs' s', (∀ f ∈ fs, f ∈ fs') → St w S₀ (v.c w st' ++ cs) fs' s' → R (.ok (.ret (.bool b))) s') :
    codeAny (model pw w) A (.call (.ref 1160) (RArgs v G a la lt db)) R s := by
  refine callF (n := 2 * n + 150) (binds := [("self", .ref v.p), ("current", .ref a), ("context", .none), ("agenda", .ref G.ag), ("accessible_vars", .ref la), ("atoms", .ref lt), ("debug", .ref db)]) ok1160 C r (binds0 (by kernel_rfl)) (by kernel_rfl) (by kernel_rfl) fun L A' s' r' C => ?_
  have nb_isinstance := b_isinstance; have ng_NegatedExpression := g_NegatedExpression; have ng__union := g__union
  walk_at "B"
  replace C := C.agIn
  walk_at "mI"
  rename_i C
  have g1 := Ag.f_ag S.ag
  have gv := S.fv _ (.head _)
  have hle := S.le
  have n1 := nN_succ hle
  have n2 := nN_le hle
  obtain ⟨vs, va1, va2⟩ := S.fa
  obtain ⟨us, vt1, vt2⟩ := S.ft
  have hw : atomE (.app x y) := hg.wf
  replace ha : (if ats.any (fun p => kP.eq p (.app x y, true)) then some (true, st) else att n (freshP G.cont) (unE acc (argsE (.app x y))) (unP ats [(.app x y, false)]) st) = some (b, st') := ha
  kd_p1
  rename_i p s1 C
  replace C := C.mkPairB (x := .app x y) (c := true) (.head _) (by kd_in)
  refine in_K (K := kP) (x := (.app x y, true)) (L := L) C (r'.le (by kd_p)) hw.2.1 (fun q hq => S.gt.1 q hq) (by kd_in) (.inr (by kd_in)) (by kd_in) (.head _) fun s2 C => ?_
  cases q : ats.any fun p => kP.eq p (.app x y, true) with
  | true =>
    rw [q, if_pos rfl] at ha
    cases ha
    kd_p1
    exact h _ _ (by walk_at "w") C.agOut.drop.agDrop
  | false =>
    rw [q, if_neg Bool.false_ne_true] at ha
    kd_p1
    rename_i C
    refine mark_fresh C (S.ag.mono (by walk_at "w")) (r'.le (by kd_p)) fun s3 C => ?_
    obtain ⟨e1, e2, e3, e4, C⟩ := C.openApp (.tail _ (.tail _ he))
    kd_p1
    rename_i C
    refine getArgs (e := .app x y) C (r'.le (by kd_p)) ⟨_, _, rfl⟩ (by have := hw.2.1.2; kd_p) (by kd_in) fun l vs1 s4 C => ?_
    replace C := C.freezeL
    kd_p1
    rename_i l0 s5 C
    refine union_K (K := kE) (xs := acc) (ys := argsE (.app x y)) C (r'.le (by kd_p)) (.head _) (by kd_in) (by kd_in) (show Fact.l vs (acc.map .e) ∈ _ by kd_in) (show Fact.l vs1 ((argsE (.app x y)).map .e) ∈ _ by kd_in) S.gc.okE (fun z hz => okA_okE (atom_okA hw hg.cl z hz)) ?_ fun q1 rs1 s6 C => ?_
    · have := @argsE_len (.app x y)
      have := hw.2.1.2
      have := S.gc.2
      kd_p
    replace C := C.drop
    kd_p1
    rename_i p2 s7 _ l2 s8 _ l3 s9 C
    replace C := (C.permC (List.Perm.swap _ _ _)).freezeL
    replace C := C.mkPairB (p := p2) (u := .ref a) (x := .app x y) (c := false) (by kd_in) (by kd_in)
    replace C := C.oneL (u := .ref p2) (x := kP.av (.app x y, false)) (.head _)
    refine union_K (K := kP) (xs := ats) (ys := [(.app x y, false)]) C (r'.le (by kd_p)) (.head _) (by kd_in) (by kd_in) (by kd_in) (.head _) (fun z hz => S.gt.1 z hz) (fun z hz => List.mem_singleton.mp hz ▸ hw.2.1) ?_ fun q2 rs2 s10 C => ?_
    · have := S.gt.2
      simp only [List.length_cons, List.length_nil]
      kd_p
    replace C := C.drop
    kd_p1
    rename_i C
    refine addDbg C (r'.le (by kd_p)) (L := L) (by kd_in) (by kd_in) fun db' t1 t2 s11 C => ?_
    have S2 := ofC C (p := fun F => Sit v n (G.setAl (G.al.map ARec.fresh)) q1 q2 (unE acc (argsE (.app x y))) (unP ats [(.app x y, false)]) F ∧ _) (S.fresh (la' := q1) (lt' := q2) (by walk_at "w") (S.gc.un (atom_okA hw hg.cl) (by have := @argsE_len (.app x y); have := hw.2.1.2; kd_p)) (S.gt.un hw.2.1)
      ⟨rs1, by kd_in, (show Fact.l rs1 ((uni kE.eq (uni kE.eq [] acc) (argsE (.app x y))).map kE.av) ∈ _ by kd_in)⟩ ⟨rs2, by kd_in, (show Fact.l rs2 ((uni kP.eq (uni kP.eq [] ats) [(.app x y, false)]).map kP.av) ∈ _ by kd_in)⟩)
    kd_p1
    rename_i C
    refine recur (G := G.setAl (G.al.map ARec.fresh)) IH h1 h2 hk C perm1 S2.1 (.head _) r' (by rw [S2.2]; exact ha) fun fs4 s4 f4 C => ?_
    exact h fs4 s4 (fun f hf => f4 f (by kd_in)) ((C.permC List.perm_middle.symm).drop)
theorem rule_n_atom {x y : E} (IH : AttOK w S₀ v n) (h1 : v.dl.isSome = st.2.isSome) (h2 : 0 ≤ st.1) (hk : k + 1 = 201 - n) (C : St w S₀ (G.c w ++ (v.c w st ++ cs)) fs s) (S : Sit v (n + 1) G la lt acc ats fs) (hd : Fact.ins db 1435 [("indent", t', .int k t)] ∈ fs) (r : Room A (2 * n + 151))
    (he : Fact.v (.ref a) (.e (.neg (.app x y))) ∈ fs) (hg : gE (.neg (.app x y))) (ha : stepE (att n) (.neg (.app x y)) G.cont acc ats st = some (b, st')) (h : ∀ fs' s', (∀ f ∈ fs, f ∈ fs') → St w S₀ (v.c w st' ++ cs) fs' s' → R (.ok (.ret (.bool b))) s') :
    codeAny (model pw w) A (.call (.ref 1167) (RArgs v G a la lt db)) R s := by
  refine callF (n := 2 * n + 150) (binds := [("self", .ref v.p), ("current", .ref a), ("context", .none), ("agenda", .ref G.ag), ("accessible_vars", .ref la), ("atoms", .ref lt), ("debug", .ref db)]) ok1167 C r (binds0 (by kernel_rfl)) (by kernel_rfl) (by kernel_rfl) fun L A' s' r' C => ?_
  have nb_isinstance := b_isinstance; have ng_NegatedExpression := g_NegatedExpression; have ng__union := g__union
  walk_at "B"
  replace C := C.agIn
  walk_at "mI"
  rename_i C
  have g1 := Ag.f_ag S.ag
  have gv := S.fv _ (.head _)
  have hle := S.le
  have n1 := nN_succ hle
  have n2 := nN_le hle
  obtain ⟨vs, va1, va2⟩ := S.fa
  obtain ⟨us, vt1, vt2⟩ := S.ft
  have hw : atomE (.app x y) := hg.wf
  replace ha : (if ats.any (fun p => kP.eq p (.app x y, false)) then some (true, st) else att n (freshP G.cont) (unE acc (argsE (.app x y))) (unP ats [(.app x y, true)]) st) = some (b, st') := ha
  obtain ⟨i1, i2, C⟩ := C.openNeg he
  have he0 := ofC C (p := fun F => Fact.v (.ref i2) (.e (.app x y)) ∈ F) (.tail _ (.head _))
  kd_p1
  rename_i p s1 C
  replace C := C.mkPairB (x := .app x y) (c := false) (.head _) (by kd_in)
  refine in_K (K := kP) (x := (.app x y, false)) (L := L) C (r'.le (by kd_p)) hw.2.1 (fun q hq => S.gt.1 q hq) (by kd_in) (.inr (by kd_in)) (by kd_in) (.head _) fun s2 C => ?_
  cases q : ats.any fun p => kP.eq p (.app x y, false) with
  | true =>
    rw [q, if_pos rfl] at ha
    cases ha
    kd_p1
    exact h _ _ (by walk_at "w") C.agOut.drop.agDrop
  | false =>
    rw [q, if_neg Bool.false_ne_true] at ha
    kd_p1
    rename_i C
    refine mark_fresh C (S.ag.mono (by walk_at "w")) (r'.le (by kd_p)) fun s3 C => ?_
    obtain ⟨e1, e2, e3, e4, C⟩ := C.openApp (.tail _ (.tail _ he0))
    kd_p1
    rename_i C
    refine getArgs (e := .app x y) C (r'.le (by kd_p)) ⟨_, _, rfl⟩ (by have := hw.2.1.2; kd_p) (by kd_in) fun l vs1 s4 C => ?_
    replace C := C.freezeL
    kd_p1
    rename_i l0 s5 C
    refine union_K (K := kE) (xs := acc) (ys := argsE (.app x y)) C (r'.le (by kd_p)) (.head _) (by kd_in) (by kd_in) (show Fact.l vs (acc.map .e) ∈ _ by kd_in) (show Fact.l vs1 ((argsE (.app x y)).map .e) ∈ _ by kd_in) S.gc.okE (fun z hz => okA_okE (atom_okA hw hg.cl z hz)) ?_ fun q1 rs1 s6 C => ?_
    · have := @argsE_len (.app x y)
      have := hw.2.1.2
      have := S.gc.2
      kd_p
    replace C := C.drop
    kd_p1
    rename_i p2 s7 _ l2 s8 _ l3 s9 C
    replace C := (C.permC (List.Perm.swap _ _ _)).freezeL
    replace C := C.mkPairB (p := p2) (u := .ref i2) (x := .app x y) (c := true) (by kd_in) (by kd_in)
    replace C := C.oneL (u := .ref p2) (x := kP.av (.app x y, true)) (.head _)
    refine union_K (K := kP) (xs := ats) (ys := [(.app x y, true)]) C (r'.le (by kd_p)) (.head _) (by kd_in) (by kd_in) (by kd_in) (.head _) (fun z hz => S.gt.1 z hz) (fun z hz => List.mem_singleton.mp hz ▸ hw.2.1) ?_ fun q2 rs2 s10 C => ?_
    · have := S.gt.2
      simp only [List.length_cons, List.length_nil]
      kd_p
    replace C := C.drop
    kd_p1
    rename_i C
    refine addDbg C (r'.le (by kd_p)) (L := L) (by kd_in) (by kd_in) fun db' t1 t2 s11 C => ?_
    have S2 := ofC C (p := fun F => Sit v n (G.setAl (G.al.map ARec.fresh)) q1 q2 (unE acc (argsE (.app x y))) (unP ats [(.app x y, true)]) F ∧ _) (S.fresh (la' := q1) (lt' := q2) (by walk_at "w") (S.gc.un (atom_okA hw hg.cl) (by have := @argsE_len (.app x y); have := hw.2.1.2; kd_p)) (S.gt.un hw.2.1)
      ⟨rs1, by kd_in, (show Fact.l rs1 ((uni kE.eq (uni kE.eq [] acc) (argsE (.app x y))).map kE.av) ∈ _ by kd_in)⟩ ⟨rs2, by kd_in, (show Fact.l rs2 ((uni kP.eq (uni kP.eq [] ats) [(.app x y, true)]).map kP.av) ∈ _ by kd_in)⟩)
    kd_p1
    rename_i C
    refine recur (G := G.setAl (G.al.map ARec.fresh)) IH h1 h2 hk C perm1 S2.1 (.head _) r' (by rw [S2.2]; exact ha) fun fs4 s4 f4 C => ?_
    exact h fs4 s4 (fun f hf => f4 f (by kd_in)) ((C.permC List.perm_middle.symm).drop)
end
section
variable {w : World} {S₀ s : Shared} {cs cs' : List Cell} {fs : List Fact} {A : Around} {E' : Value → Shared → Prop} {Q : Value → Shared → Prop} {env : Env} {R : Result → Shared → Prop} {G : Ag} {N : Nat} {v : PV} {n : Nat} {la lt db a : Addr} {acc : List E} {ats : List (E × Bool)} {st st' : PSt} {b : Bool} {t t' : Tok} {k : Int}
theorem CallKw_ {M : Model} {func : Expr} {args : List Expr} {kws : List Keyword} {pos : Pos}
    (h : wpAny M A (eval func env) (fun f s₁ => wpAny M A (callWith pos f [] (backTo pos (starEach args env)) (backToKw pos (keywordEach kws env))) Q E' s₁) E' s)
    (he : autoParam (eval (.Call func args kws pos) env = (do callWith pos (← eval func env) [] (backTo pos (starEach args env)) (backToKw pos (keywordEach kws env)))) tRfl) :
    wpAny M A (eval (.Call func args kws pos) env) Q E' s := by
  rw [he]; exact wpAny_bind h
theorem gE.exOf {x : Str} {y : E} (h : gE (.ex x y)) {z : E} (hz : okA z) : gE (Tbx.sub x z y) := gE.sub h.wf (by have := h.ht; simp only [hgt] at this; kd_p) h.cl.2 hz
theorem gE.allOf {x : Str} {y : E} (h : gE (.all x y)) {z : E} (hz : okA z) : gE (Tbx.sub x z y) := gE.sub h.wf (by have := h.ht; simp only [hgt] at this; kd_p) h.cl.2 hz
theorem Sit.putFresh {G' : Ag} {e : E} {fs' : List Fact} {j : Nat} {la' : Addr} {acc' : List E} (S : Sit v (n + 1) G la lt acc ats fs) (he : gE e) (hc : G'.cont = putP G.cont e) (ho : G'.ok fs' (j + 1)) (hj : j + 1 ≤ nN n) (k : ∀ f ∈ fs, f ∈ fs') (gc : GAc n acc')
    (fa : ∃ vs, Fact.li la' vs ∈ fs' ∧ Fact.l vs (acc'.map .e) ∈ fs') : Sit v n (G'.setAl (G'.al.map ARec.fresh)) la' lt acc' ats fs' ∧ (G'.setAl (G'.al.map ARec.fresh)).cont = freshP (putP G.cont e) := by
  have S1 := S.put he hc ho hj k
  have c : (G'.setAl (G'.al.map ARec.fresh)).cont = freshP G'.cont := by
    simp only [Ag.cont, Ag.setAl, freshP, List.map_map]
    rfl
  exact ⟨⟨S1.le, S1.ag.fresh, c ▸ S1.gg.fresh, gc, S1.gt, fa, S1.ft, S1.fv⟩, by rw [c, hc]⟩
theorem updCt {d : Cell} : Upd (cntC w v.cd st.1) (cntC w v.cd (st.1 + 1)) (G.c w ++ (d :: (v.c w st ++ cs))) (G.c w ++ (d :: (v.c w (st.1 + 1, st.2) ++ cs))) := Upd.appR (.tail .head)
theorem rule_some {x : Str} {y : E} (IH : AttOK w S₀ v n) (h1 : v.dl.isSome = st.2.isSome) (h2 : 0 ≤ st.1) (hk : k + 1 = 201 - n) (C : St w S₀ (G.c w ++ (v.c w st ++ cs)) fs s) (S : Sit v (n + 1) G la lt acc ats fs) (hd : Fact.ins db 1435 [("indent", t', .int k t)] ∈ fs) (r : Room A (2 * n + 151))
    (he : Fact.v (.ref a) (.e (.ex x y)) ∈ fs) (hg : gE (.ex x y)) (ha : stepE (att n) (.ex x y) G.cont acc ats st = some (b, st')) (h : ∀ fs' s', (∀ f ∈ fs, f ∈ fs') → St w S₀ (v.c w st' ++ cs) fs' s' → R (.ok (.ret (.bool b))) s') :
    codeAny (model pw w) A (.call (.ref 1293) (RArgs v G a la lt db)) R s := by
  refine callF (n := 2 * n + 150) (binds := [("self", .ref v.p), ("current", .ref a), ("context", .none), ("agenda", .ref G.ag), ("accessible_vars", .ref la), ("atoms", .ref lt), ("debug", .ref db)]) ok1293 C r (binds0 (by kernel_rfl)) (by kernel_rfl) (by kernel_rfl) fun L A' s' r' C => ?_
  have ng_VariableExpression := g_VariableExpression; have ng_unique_variable := g_unique_variable; have ng__union := g__union
  walk_at "B"
  replace C := C.agIn
  walk_at "mI"
  rename_i C
  have g1 := Ag.f_ag S.ag
  have gv := S.fv _ (.head _)
  have gct : Fact.ob v.ct (instObj 74 v.cd) ∈ fs := S.fv _ (.tail _ (.head _))
  have hle := S.le
  have n1 := nN_succ hle
  have n2 := nN_le hle
  obtain ⟨vs, va1, va2⟩ := S.fa
  obtain ⟨hc59, ha⟩ : st.1 < 59 ∧ att n (freshP (putP G.cont (sub x (zE (st.1 + 1)) y))) (unE acc [zE (st.1 + 1)]) ats (st.1 + 1, st.2) = some (b, st') := by
    have ha : (if st.1 < 59 then att n (freshP (putP G.cont (sub x (zE (st.1 + 1)) y))) (unE acc [zE (st.1 + 1)]) ats (st.1 + 1, st.2) else none) = some (b, st') := ha
    split at ha
    · exact ⟨by assumption, ha⟩
    · cases ha
  have hz : okA (zE (st.1 + 1)) := zE_ok (by kd_p) (by kd_p)
  obtain ⟨e1, e2, e3, e4, C⟩ := C.openEx he
  kd_p1
  refine CallKw_ ?_
  kd_p1
  rename_i C
  refine callWith_KW0 C.kin (keepA (by decide)) (by rfl) (kws_cons ?_)
  kd_p1
  rename_i C
  refine kws_nil ⟨C.kin, ?_⟩
  refine wpAny_call (code_uniq (c := v.ct) (d := v.cd) C (r'.le (by kd_p)) (kp_binds C.kin fun S => by kernel_rfl) (by kd_in) updCt h2 (by kd_p) fun nv s1 C => ?_)
  kd_p1
  rename_i C
  obtain ⟨z1, z2⟩ := zN_iv (k := st.1 + 1) (by kd_p) (by kd_p)
  refine call_VE (y := zE (st.1 + 1)) C (r'.le (by kd_p)) (.head _) z1 z2 fun nz s2 C => ?_
  clear z1 z2
  have tb := repF_tab y
  have tk := repF_keep y
  kd_p1
  rename_i C
  refine wpAny_call (rep_E (e := y) (y := zE (st.1 + 1)) (x := x) rfl (clE_noCatch hz hg.cl.2) C (r'.le ?_) (by kd_in) (by kd_in) (by kd_in) (.inl rfl) fun q1 s3 C => ?_)
  · have := hg.ht
    simp only [hgt] at this
    kd_p
  kd_p1
  rename_i C
  refine wpAny_call (code_put C (S.ag.mono (by walk_at "w")) (by kd_p) (r'.le (by kd_p)) (hg.exOf hz).wf (by kd_in) (.inr rfl) fun G1 fs1 s1 a1 c1 o1 f1 C => ?_)
  have g2 := Ag.f_ag o1
  rw [a1] at g2
  kd_p1
  rename_i C
  rw [← a1]
  refine mark_fresh C o1 (r'.le (by kd_p)) fun s4 C => ?_
  have f3 : ∀ f ∈ fs, f ∈ fs1 := fun f hf => f1 f (by kd_in)
  have gv := f3 _ gv
  have gd := f3 _ hd
  have nz1 : Fact.v (.ref nz) (.e (zE (st.1 + 1))) ∈ fs1 := f1 _ (by kd_in)
  have va1 := f3 _ va1
  have va2 := f3 _ va2
  kd_p1
  rename_i l2 s7 _ l3 s9 C
  replace C := (C.permC (List.Perm.swap _ _ _)).freezeL
  replace C := C.oneL (u := .ref nz) (x := .e (zE (st.1 + 1))) (by kd_in)
  refine union_K (K := kE) (xs := acc) (ys := [zE (st.1 + 1)]) C (r'.le (by kd_p)) (.head _) (by kd_in) (by kd_in) (show Fact.l vs (acc.map .e) ∈ _ by kd_in) (.head _) S.gc.okE (fun z hz' => List.mem_singleton.mp hz' ▸ okA_okE hz) ?_ fun q2 rs2 s10 C => ?_
  · have := S.gc.2
    simp only [List.length_cons, List.length_nil]
    kd_p
  replace C := C.drop
  kd_p1
  rename_i C
  refine addDbg C (r'.le (by kd_p)) (L := L) (by kd_in) (by kd_in) fun db' t1 t2 s11 C => ?_
  kd_p1
  rename_i C
  have S2 := ofC C (p := fun F => Sit v n (G1.setAl (G1.al.map ARec.fresh)) q2 lt (unE acc [zE (st.1 + 1)]) ats F ∧ _) (S.putFresh (la' := q2) (hg.exOf hz) c1 (o1.mono (by walk_at "w")) (by kd_p) (by intro f hf; have := f3 f hf; kd_in) (S.gc.un (fun z hz' => List.mem_singleton.mp hz' ▸ hz) (by simp))
    ⟨rs2, by kd_in, (show Fact.l rs2 ((uni kE.eq (uni kE.eq [] acc) [zE (st.1 + 1)]).map kE.av) ∈ _ by kd_in)⟩)
  rw [← a1]
  refine recur (G := G1.setAl (G1.al.map ARec.fresh)) (st := (st.1 + 1, st.2)) IH h1 (by show 0 ≤ st.1 + 1; kd_p) hk C perm1 S2.1 (.head _) r' (by rw [S2.2]; exact ha) fun fs4 s4 f4 C => ?_
  exact h fs4 s4 (fun f hf => f4 f (by have := f3 f hf; kd_in)) ((C.permC List.perm_middle.symm).drop)
end
section
variable {w : World} {S₀ s : Shared} {cs cs' : List Cell} {fs : List Fact} {A : Around} {E' : Value → Shared → Prop} {Q : Value → Shared → Prop} {env : Env} {R : Result → Shared → Prop} {G : Ag} {N : Nat} {v : PV} {n : Nat} {la lt db a : Addr} {acc : List E} {ats : List (E × Bool)} {st st' : PSt} {b : Bool} {t t' : Tok} {k : Int}
structure Wr (p : Prop) : Prop where
  h : p
theorem Sit.putAdd {G' : Ag} {e : E} {q : ARec} {fs' : List Fact} {j : Nat} (S : Sit v (n + 1) G la lt acc ats fs) (he : gE e) (hc : G'.cont = putP G.cont e) (ho : G'.ok fs' (j + 1)) (hj : j + 2 ≤ nN n) (k : ∀ f ∈ fs, f ∈ fs') (hq : gA n q.cont) (hf : ∀ f ∈ q.f, f ∈ fs') :
    Sit v n (G'.setAl (G'.al ++ [q])) la lt acc ats fs' ∧ (G'.setAl (G'.al ++ [q])).cont = addAllP (putP G.cont e) q.cont := by
  have S1 := S.put he hc ho (by kd_p) k
  have c : (G'.setAl (G'.al ++ [q])).cont = addAllP G'.cont q.cont := by simp [Ag.cont, Ag.setAl, addAllP]
  exact ⟨⟨S1.le, (Ag.ok.addAl ho hf).le hj, c ▸ S1.gg.add hq, S1.gc, S1.gt, S1.fa, S1.ft, S1.fv⟩, by rw [c, hc]⟩
theorem Sit.putAddFresh {G' : Ag} {e : E} {q : ARec} {fs' : List Fact} {j : Nat} {la' : Addr} {acc' : List E} (S : Sit v (n + 1) G la lt acc ats fs) (he : gE e) (hc : G'.cont = putP G.cont e) (ho : G'.ok fs' (j + 1)) (hj : j + 2 ≤ nN n) (k : ∀ f ∈ fs, f ∈ fs') (hq : gA n q.cont) (hf : ∀ f ∈ q.f, f ∈ fs')
    (gc : GAc n acc') (fa : ∃ vs, Fact.li la' vs ∈ fs' ∧ Fact.l vs (acc'.map .e) ∈ fs') :
    Sit v n ((G'.setAl (G'.al ++ [q])).setAl ((G'.setAl (G'.al ++ [q])).al.map ARec.fresh)) la' lt acc' ats fs' ∧ ((G'.setAl (G'.al ++ [q])).setAl ((G'.setAl (G'.al ++ [q])).al.map ARec.fresh)).cont = freshP (addAllP (putP G.cont e) q.cont) := by
  obtain ⟨S1, c1⟩ := S.putAdd he hc ho hj k hq hf
  have c : ((G'.setAl (G'.al ++ [q])).setAl ((G'.setAl (G'.al ++ [q])).al.map ARec.fresh)).cont = freshP (G'.setAl (G'.al ++ [q])).cont := by
    simp only [Ag.cont, Ag.setAl, freshP, List.map_map]
    rfl
  exact ⟨⟨S1.le, S1.ag.fresh, c ▸ S1.gg.fresh, gc, S1.gt, fa, S1.ft, S1.fv⟩, by rw [c, c1]⟩
theorem updCt2 {d1 d2 d3 : Cell} : Upd (cntC w v.cd st.1) (cntC w v.cd (st.1 + 1)) (G.c w ++ (d1 :: d2 :: d3 :: (v.c w st ++ cs))) (G.c w ++ (d1 :: d2 :: d3 :: (v.c w (st.1 + 1, st.2) ++ cs))) := Upd.appR (.tail (.tail (.tail .head)))
theorem backA {q' : ARec} {d1 d2 : Cell} (C : St w S₀ (G.half w q' ++ (d1 :: q'.c w :: d2 :: cs)) fs s) : St w S₀ ((G.setAl (G.al ++ [q'])).c w ++ (d1 :: cs)) fs s := by
  have C2 : St w S₀ (q'.c w :: (G.half w q' ++ (d1 :: d2 :: cs))) fs s := C.permC ((List.perm_middle.symm).trans (List.Perm.append_left _ (List.Perm.swap _ _ _)))
  exact (Ag.join C2).weakC (List.Sublist.append (List.Sublist.refl _) (List.Sublist.cons_cons _ (List.sublist_cons_self _ _)))
inductive RQ (w : World) (S₀ : Shared) (F : List Fact) (es : List E) (T : Addr → List Cell) (s : Shared) : Prop
  | mk (ul : Addr) (uvs : List Value) (fs1 : List Fact) (f1 : ∀ f ∈ F, f ∈ fs1) (h1 : Fact.li ul uvs ∈ fs1) (h2 : Fact.l uvs (es.map .e) ∈ fs1) (C : St w S₀ (T ul) fs1 s)
theorem rule_all {q : ARec} (IH : AttOK w S₀ v n) (h1 : v.dl.isSome = st.2.isSome) (h2 : 0 ≤ st.1) (hk : k + 1 = 201 - n) (C : St w S₀ (q.c w :: (G.c w ++ (v.c w st ++ cs))) fs s) (S : Sit v (n + 1) G la lt acc ats fs) (hd : Fact.ins db 1435 [("indent", t', .int k t)] ∈ fs) (r : Room A (2 * n + 151))
    (hqf : ∀ f ∈ q.f, f ∈ fs) (hg : gA (n + 1) q.cont) (hqb : q.b = false) (ha : stepA (att n) q.cont G.cont acc ats st = some (b, st')) (h : ∀ fs' s', (∀ f ∈ fs, f ∈ fs') → St w S₀ (v.c w st' ++ cs) fs' s' → R (.ok (.ret (.bool b))) s') :
    codeAny (model pw w) A (.call (.ref 1298) (RArgs v G q.a la lt db)) R s := by
  refine callFC (n := 2 * n + 150) (binds := [("self", .ref v.p), ("current", .ref q.a), ("context", .none), ("agenda", .ref G.ag), ("accessible_vars", .ref la), ("atoms", .ref lt), ("debug", .ref db)])
    (lm := [("debug", .ref db), ("atoms", .ref lt), ("accessible_vars", .ref la), ("agenda", .ref G.ag), ("context", .none), ("self", .ref v.p)]) (cc := fun L => [cvC (L+1) (.ref q.a)]) ok1298 C r (binds0 (by kernel_rfl)) (by kernel_rfl) (by kernel_rfl) (fun L => by kernel_rfl) (by kernel_rfl) (fun L => by kernel_rfl) fun L A' s' r' C => ?_
  have ng_VariableExpression := g_VariableExpression; have ng__union := g__union; have ng_unique_variable := g_unique_variable; have nc_ALL := c_ALL; have ng_Categories := g_Categories
  conv in (bodyOf _) => whnf
  dsimp only [List.cons_append, List.nil_append] at C
  have g1 := Ag.f_ag S.ag
  have gv := S.fv _ (.head _)
  have gct : Fact.ob v.ct (instObj 74 v.cd) ∈ fs := S.fv _ (.tail _ (.head _))
  have gq : Fact.ob q.a (instObj 788 q.d) ∈ fs := hqf _ (List.mem_append_left _ (.tail _ (.head _)))
  have gx : Fact.v (.ref q.v) (.var q.x) ∈ fs := hqf _ (List.mem_append_left _ (.tail _ (.tail _ (.head _))))
  have gz : Fact.v (.ref q.z) (.e q.e) ∈ fs := hqf _ (List.mem_append_left _ (.tail _ (.tail _ (.tail _ (.head _)))))
  have hle := S.le
  have n1 := nN_succ hle
  have n2 := nN_le hle
  obtain ⟨vs, va1, va2⟩ := S.fa
  replace ha := Wr.mk ha
  replace C : St w S₀ (G.c w ++ (.ns L [("debug", .ref db), ("atoms", .ref lt), ("accessible_vars", .ref la), ("agenda", .ref G.ag), ("context", .none), ("self", .ref v.p)] :: allC w q.d q.v q.z (q.u.map (·.1)) false :: cvC (L+1) (.ref q.a) :: (v.c w st ++ cs))) fs s' := by
    have e : q.c w = allC w q.d q.v q.z (q.u.map (·.1)) false := by unfold ARec.c; rw [hqb]
    walk_at "zC"
    rw [e] at C
    refine C.permC ?_
    refine List.perm_middle.trans (List.Perm.cons _ ?_)
    exact (List.perm_middle.trans (List.Perm.cons _ List.perm_middle)).trans (List.Perm.swap _ _ _)
  let __m : List (Str × Value) := [("debug", .ref db), ("atoms", .ref lt), ("accessible_vars", .ref la), ("agenda", .ref G.ag), ("context", .none), ("self", .ref v.p)]
  let __T : Addr → List Cell := fun ul => G.c w ++ (.ns L __m :: allC w q.d q.v q.z (some ul) false :: cvC (L+1) (.ref q.a) :: (v.c w st ++ cs))
  let __Q : Flow → Shared → Prop := fun f s1 => f = .next ∧ RQ w S₀ fs (usedA q.cont) __T s1
  refine wpAny_execs_cons (wpAny_mono (Q := __Q) ?_ (fun f s1 hx => ?_) (fun _ _ e => e))
  · rcases hu : q.u with _ | ⟨ul, uvs, ues⟩
    · walk_at "zC"
      rw [hu] at C
      walk_at "zC"
      dsimp only [Option.map_none] at C
      kd_p1
      refine getUsed (u := none) (by assumption) gq (List.mem_append_right _ (.tail _ (.head _))) fun s7 C => ?_
      dsimp only
      kd_p1
      rename_i l' s8 C
      refine setUsed C (a := q.a) (d := q.d) (by kd_in) (.tail (Upd.appR (.tail .head))) fun s9 C => ?_
      kd_p1
      refine ⟨l', [], _, ?_, ?_, ?_, C.freezeL.nilL⟩
      · walk_at "w"
      · kd_in
      · have e : usedA q.cont = [] := by unfold usedA ARec.cont; rw [hu]; rfl
        rw [e]; exact .head _
    · walk_at "zC"
      rw [hu] at C
      walk_at "zC"
      dsimp only [Option.map_some] at C
      have hul : Fact.li ul uvs ∈ fs ∧ Fact.l uvs (ues.map .e) ∈ fs := by
        have z : ∀ f ∈ [Fact.li ul uvs, Fact.l uvs (ues.map .e)], f ∈ q.f := fun f hf => by
          unfold ARec.f; rw [hu]; exact List.mem_append_right _ hf
        exact ⟨hqf _ (z _ (.head _)), hqf _ (z _ (.tail _ (.head _)))⟩
      kd_p1
      refine getUsed (u := some ul) (by assumption) gq (List.mem_append_right _ (.tail _ (.head _))) fun s7 C => ?_
      dsimp only
      kd_p1
      refine ⟨ul, uvs, _, ?_, hul.1, ?_, by assumption⟩
      · walk_at "w"
      · have e : usedA q.cont = ues := by unfold usedA ARec.cont; rw [hu]; rfl
        rw [e]; exact hul.2
  obtain ⟨rfl, hx⟩ := hx
  obtain ⟨ul, uvs, fs1, f1, hu1, hu2, C⟩ := hx
  replace gq := f1 _ gq
  replace gx := f1 _ gx
  replace gz := f1 _ gz
  replace gv := f1 _ gv
  replace gct := f1 _ gct
  replace hd := f1 _ hd
  replace va1 := f1 _ va1
  replace va2 := f1 _ va2
  replace S := S.mono f1
  replace g1 := f1 _ g1
  have husok : GAc (n + 1) (usedA q.cont) := by
    unfold usedA
    cases hq0 : q.cont.2.2.1 with
    | none => exact ⟨(fun y hy => by cases hy), by simp; kd_p⟩
    | some u => exact hg.2 u hq0
  have hvl := C.len va2
  rw [List.length_map] at hvl
  have hvz : vs.length ≤ 100000 := by have := S.gc.2; kd_p
  have hve : vs.isEmpty = acc.isEmpty := len_empty hvl
  dsimp only
  kd_p1
  rename_i C
  cases hem : vs.isEmpty with
  | true =>
    rw [hem] at hve
    have hacc : acc.isEmpty = true := hve.symm
    obtain ⟨hc59, ha⟩ : st.1 < 59 ∧ att n (freshP (addAllP (putP G.cont (sub q.x (zE (st.1 + 1)) q.e)) (q.x, q.e, some (unE (usedA q.cont) [zE (st.1 + 1)]), false))) (unE acc [zE (st.1 + 1)]) ats (st.1 + 1, st.2) = some (b, st') := by
      replace ha := ha.h
      unfold stepA at ha
      rw [if_pos hacc] at ha
      split at ha
      · rw [← hqb]; exact ⟨by assumption, ha⟩
      · cases ha
    replace ha := Wr.mk ha
    have hz : okA (zE (st.1 + 1)) := zE_ok (by kd_p) (by kd_p)
    have hg0 : gE (sub q.x (zE (st.1 + 1)) q.e) := hg.1.allOf hz
    kd_p1
    refine CallKw_ ?_
    kd_p1
    rename_i C
    refine callWith_KW0 C.kin (keepA (by decide)) (by rfl) (kws_cons ?_)
    kd_p1
    rename_i C
    refine kws_nil ⟨C.kin, ?_⟩
    refine wpAny_call (code_uniq (c := v.ct) (d := v.cd) C (r'.le (by kd_p)) (kp_binds C.kin fun S => by kernel_rfl) (by kd_in) updCt2 h2 (by kd_p) fun nv s1 C => ?_)
    kd_p1
    rename_i C
    obtain ⟨z1, z2⟩ := zN_iv (k := st.1 + 1) (by kd_p) (by kd_p)
    refine call_VE (y := zE (st.1 + 1)) C (r'.le (by kd_p)) (.head _) z1 z2 fun nz s2 C => ?_
    clear z1 z2
    kd_p1
    rename_i C
    refine getUsed (u := some ul) C (by kd_in) (List.mem_append_right _ (.tail _ (.head _))) fun s7 C => ?_
    dsimp only
    kd_p1
    rename_i l2 s8 _ l3 s9 C
    replace C := (C.permC (List.Perm.swap _ _ _)).freezeL
    replace C := C.oneL (u := .ref nz) (x := .e (zE (st.1 + 1))) (by kd_in)
    refine union_K (K := kE) (xs := usedA q.cont) (ys := [zE (st.1 + 1)]) C (r'.le (by kd_p)) (.head _) (by kd_in) (by kd_in) (show Fact.l uvs ((usedA q.cont).map .e) ∈ _ by kd_in) (.head _) husok.okE (fun z hz' => List.mem_singleton.mp hz' ▸ okA_okE hz) ?_ fun q2 rs2 s10 C => ?_
    · have := husok.2
      simp only [List.length_cons, List.length_nil]
      kd_p
    replace C := C.drop
    kd_p1
    rename_i C
    refine setUsed C (a := q.a) (d := q.d) (by kd_in) (Upd.appR (.tail .head)) fun s11 C => ?_
    have tb := repF_tab q.e
    have tk := repF_keep q.e
    kd_p1
    rename_i C
    refine getTermA C (by kd_in) (List.mem_append_right _ (.tail _ (.head _))) fun s12 C => ?_
    kd_p1
    rename_i C
    refine getVarA C (by kd_in) (List.mem_append_right _ (.tail _ (.head _))) fun s13 C => ?_
    kd_p1
    rename_i C
    refine wpAny_call (rep_E (e := q.e) (y := zE (st.1 + 1)) (x := q.x) rfl (clE_noCatch hz hg.1.cl.2) C (r'.le ?_) (by kd_in) (by kd_in) (by kd_in) (.inl rfl) fun q1 s3 C => ?_)
    · have := hg.1.ht
      simp only [hgt, ARec.cont] at this
      kd_p
    kd_p1
    rename_i C
    refine wpAny_call (code_put C (S.ag.mono (by walk_at "w")) (by kd_p) (r'.le (by kd_p)) hg0.wf (by kd_in) (.inr rfl) fun G1 fs3 s1 a1 c1 o1 f3 C => ?_)
    have f4 : ∀ f ∈ fs1, f ∈ fs3 := fun f hf => f3 f (by kd_in)
    have gu1 : Fact.li q2 rs2 ∈ fs3 := f3 _ (by kd_in)
    have gu2 : Fact.l rs2 ((uni kE.eq (uni kE.eq [] (usedA q.cont)) [zE (st.1 + 1)]).map kE.av) ∈ fs3 := f3 _ (by kd_in)
    have nz1 : Fact.v (.ref nz) (.e (zE (st.1 + 1))) ∈ fs3 := f3 _ (by kd_in)
    have g2 := Ag.f_ag o1
    rw [a1] at g2
    replace gq := f4 _ gq
    replace gx := f4 _ gx
    replace gz := f4 _ gz
    replace gv := f4 _ gv
    replace hd := f4 _ hd
    replace va1 := f4 _ va1
    replace va2 := f4 _ va2
    have S1 : Sit v n G1 la lt acc ats fs3 := S.put hg0 c1 o1 (by kd_p) f4
    have hz20 : (G1.al.map fun r => Value.ref r.p).length ≤ 100000 := by rw [List.length_map]; have := o1.2.2.2; kd_p
    kd_p1
    rename_i C
    rw [← a1]
    refine subG (L := L) C (r'.le (by kd_p)) (by kd_in) (by rw [a1]; kd_in) Ag.m_d Ag.m_sl (by decide) (by decide) (Ag.list20 o1) fun s8 C => ?_
    kd_p1
    rename_i p s9 C
    let __q : ARec := ⟨p, q.a, q.d, q.v, q.z, q.x, q.e, some (q2, rs2, unE (usedA q.cont) [zE (st.1 + 1)]), false⟩
    refine appL C (Ag.updAa (q := __q)) hz20 fun s10 C => ?_
    have fq : ∀ f ∈ __q.f, f ∈ Fact.ob p (tupObj [.ref q.a, .none]) :: fs3 := by
      show ∀ f ∈ [Fact.ob p (tupObj [.ref q.a, .none]), .ob q.a (instObj 788 q.d), .v (.ref q.v) (.var q.x), .v (.ref q.z) (.e q.e), .li q2 rs2, .l rs2 ((unE (usedA q.cont) [zE (st.1 + 1)]).map .e)], _
      have gu3 : Fact.l rs2 ((unE (usedA q.cont) [zE (st.1 + 1)]).map .e) ∈ fs3 := gu2
      walk_at "w"
    have hq' : gA n __q.cont := ⟨hg.1, fun u hu => by cases hu; exact husok.un (fun z hz' => List.mem_singleton.mp hz' ▸ hz) (by simp)⟩
    replace C := backA (q' := __q) (C.weakC (List.Sublist.append (List.Sublist.refl _) (List.Sublist.refl _)))
    have o2 : (G1.setAl (G1.al ++ [__q])).ok (.ob p (tupObj [.ref q.a, .none]) :: fs3) _ := Ag.ok.addAl (o1.mono (by walk_at "w")) fq
    kd_p1
    rename_i C
    refine gmI C (isI2 (D := 1406) (.tail _ g2) Ag.m_d) rfl rfl ?_
    kd_p1
    rename_i C
    rw [← a1]
    refine mark_fresh (G := G1.setAl (G1.al ++ [__q])) C (o2.mono (by walk_at "w")) (r'.le (by kd_p)) fun s14 C => ?_
    kd_p1
    rename_i l5 s15 _ l6 s16 C
    replace C := (C.permC (List.Perm.swap _ _ _)).freezeL
    replace C := C.oneL (u := .ref nz) (x := .e (zE (st.1 + 1))) (by kd_in)
    refine union_K (K := kE) (xs := acc) (ys := [zE (st.1 + 1)]) C (r'.le (by kd_p)) (.head _) (by kd_in) (by kd_in) (show Fact.l vs (acc.map .e) ∈ _ by kd_in) (.head _) S.gc.okE (fun z hz' => List.mem_singleton.mp hz' ▸ okA_okE hz) ?_ fun q5 rs5 s17 C => ?_
    · have := S.gc.2
      simp only [List.length_cons, List.length_nil]
      kd_p
    replace C := C.drop
    kd_p1
    rename_i C
    refine addDbg C (r'.le (by kd_p)) (L := L) (by kd_in) (by kd_in) fun db' t1 t2 s11 C => ?_
    kd_p1
    rename_i C
    have S2 := ofC C (p := fun F => Sit v n ((G1.setAl (G1.al ++ [__q])).setAl ((G1.setAl (G1.al ++ [__q])).al.map ARec.fresh)) q5 lt (unE acc [zE (st.1 + 1)]) ats F ∧ _)
      (Sit.putAddFresh (la' := q5) S hg0 c1 (o1.mono (by walk_at "w")) (by kd_p) (by intro f hf; have := f4 f hf; kd_in) hq' (by intro f hf; have := fq f hf; exact List.mem_cons_of_mem _ (List.mem_cons_of_mem _ (List.mem_cons_of_mem _ (List.mem_cons_of_mem _ (List.mem_cons_of_mem _ this))))) (S.gc.un (fun z hz' => List.mem_singleton.mp hz' ▸ hz) (by simp))
      ⟨rs5, by kd_in, (show Fact.l rs5 ((uni kE.eq (uni kE.eq [] acc) [zE (st.1 + 1)]).map kE.av) ∈ _ by kd_in)⟩)
    rw [← a1]
    refine recur (G := (G1.setAl (G1.al ++ [__q])).setAl ((G1.setAl (G1.al ++ [__q])).al.map ARec.fresh)) (st := (st.1 + 1, st.2)) IH h1 (by show 0 ≤ st.1 + 1; kd_p) hk C perm1 S2.1 (.head _) r' (by rw [S2.2]; exact ha.h) fun fs5 s4 f5 C => ?_
    exact h fs5 s4 (fun f k => f5 f (by have := f4 f (f1 f k); kd_in)) ((C.permC List.perm_middle.symm).drop)
  | false =>
    rw [hem] at hve
    kd_p1
    refine Assign_Comp (cl := [("current", L+1)]) rfl (by exact rfl) ?_
    kd_p1
    rename_i it s2 C
    let __I : Nat → List Value → List Cell → List Fact → Prop := LC (__T ul) fs1 fun i => ((acc.take i).filter fun v => !(usedA q.cont).any fun y => eqE y v).map .e
    refine compW (n := vs.length) (I := __I)
      (drwL (l := la) (vs := vs) r'.hand) ?_ hvz ⟨rfl, (by walk_at "w"), .head _⟩ C.nilL ?_ ?_
    · intro i ys cs' fs' hI
      obtain ⟨hc, hf, hy⟩ := hI
      rw [hc]
      exact ⟨.inr (hf _ va1), .ns L __m, List.mem_append_right _ (.head _)⟩
    · intro i x ys L2 m acc2 cs' fs' s4 E4 hi hv hI C
      walk_at "k"
      obtain ⟨hc, hf, hy⟩ := hI
      replace C := C.eq3 hc
      obtain ⟨y, hyi, C⟩ := C.itemOf (K := kE) (hf _ va2) hv
      refine lotL C (.tail _ (.tail _ (.head _))) ?_
      kd_p1
      refine wpAny_tests_one ?_
      have gq' := hf _ gq
      kd_p1
      rename_i C
      refine getUsed (u := some ul) C (by kd_in) (.tail _ (.tail _ (.tail _ (List.mem_append_right _ (.tail _ (.head _)))))) fun s7 C => ?_
      dsimp only
      have hyok : okE y := S.gc.okE y (List.mem_of_getElem? hyi)
      have hu1' := hf _ hu1
      have hu2' := hf _ hu2
      refine notIn_K (K := kE) (x := y) (xs := usedA q.cont) (L := L2) C (r'.le (by kd_p)) hyok husok.okE (by kd_in) (.inr (by kd_in)) (show Fact.l uvs ((usedA q.cont).map .e) ∈ _ by kd_in) (.head _) fun s8 C => ?_
      kd_p1
      have ef : ((acc.take (i + 1)).filter fun v => !(usedA q.cont).any fun y => eqE y v) = ((acc.take i).filter fun v => !(usedA q.cont).any fun y => eqE y v) ++ [y].filter fun v => !(usedA q.cont).any fun y => eqE y v := by
        rw [List.take_add_one, hyi, List.filter_append]; rfl
      cases hp : (usedA q.cont).any fun z => kE.eq z y with
      | true =>
        have hp' : ((usedA q.cont).any fun z => eqE z y) = true := hp
        kd_p1
        rename_i C
        refine ⟨_, _, _, ⟨rfl, (by intro f k; have := hf f k; kd_in), ?_⟩, C⟩
        rw [ef]
        simp only [List.filter_cons, hp', Bool.not_true, Bool.false_eq_true, if_false, List.filter_nil, List.append_nil]
        kd_in
      | false =>
        have hp' : ((usedA q.cont).any fun z => eqE z y) = false := hp
        kd_p1
        rename_i C
        replace C := C.snoc (vs := ys) (v := x) (a := .e y) (by kd_in) (.head _)
        refine ⟨_, _, _, ⟨rfl, (by intro f k; have := hf f k; kd_in), ?_⟩, C⟩
        rw [ef]
        simp only [List.filter_cons, hp', Bool.not_false, if_true, List.filter_nil, List.map_append, List.map_cons, List.map_nil]
        kd_in
    · intro ys bv L2 m cs' fs2 s4 hys hI C
      walk_at "k"
      obtain ⟨hc, hf, hy⟩ := hI
      rw [hc] at C
      rw [List.take_of_length_le (by kd_p)] at hy
      kd_p1
      refine stL (L := L) C (.tail (.tail (Upd.appR .head))) fun s5 C => ⟨m, .li bv ys :: (G.c w ++ (.ns L (("bv_available", .ref bv) :: [("debug", .ref db), ("atoms", .ref lt), ("accessible_vars", .ref la), ("agenda", .ref G.ag), ("context", .none), ("self", .ref v.p)]) :: allC w q.d q.v q.z (some ul) false :: cvC (L+1) (.ref q.a) :: (v.c w st ++ cs))), fs2, .li bv ys, .head _, C, fun s6 C => ?_⟩
      replace gq := hf _ gq
      replace gx := hf _ gx
      replace gz := hf _ gz
      replace gv := hf _ gv
      replace gct := hf _ gct
      replace hd := hf _ hd
      replace va1 := hf _ va1
      replace va2 := hf _ va2
      replace hu1 := hf _ hu1
      replace hu2 := hf _ hu2
      replace S := S.mono hf
      replace g1 := hf _ g1
      have hyl := C.len hy
      rw [List.length_map] at hyl
      have hyz : ys.length ≤ 100000 := by kd_p
      replace C := C.agIn
      have hacc : acc.isEmpty = false := hve.symm
      kd_p1
      rename_i C
      cases hfl : acc.filter fun v => !(usedA q.cont).any fun y => eqE y v with
      | nil =>
        rw [hfl] at hy hyl
        obtain rfl : ys = [] := List.eq_nil_of_length_eq_zero hyl
        replace ha : att n (addAllP G.cont (q.x, q.e, some (usedA q.cont), true)) acc ats st = some (b, st') := by
          replace ha := ha.h
          unfold stepA at ha
          rw [if_neg (by rw [hacc]; exact Bool.false_ne_true), hfl] at ha
          exact ha
        replace ha := Wr.mk ha
        have hz20 : (G.al.map fun r => Value.ref r.p).length ≤ 100000 := by rw [List.length_map]; have := S.ag.2.2.2; kd_p
        kd_p1
        rename_i C
        refine setExh C gq (Upd.appR (.tail (.tail .head))) fun s7 C => ?_
        kd_p1
        rename_i C
        refine subG (L := L) C (r'.le (by kd_p)) (by kd_in) (by kd_in) Ag.m_d Ag.m_sl (by decide) (by decide) (Ag.list20 S.ag) fun s8 C => ?_
        kd_p1
        rename_i p s9 C
        refine appL C (Ag.updAa (q := ⟨p, q.a, q.d, q.v, q.z, q.x, q.e, some (ul, uvs, usedA q.cont), true⟩)) hz20 fun s10 C => ?_
        have S2 := ofC C (p := fun F => Sit v n _ la lt acc ats F ∧ _) (S.add (q := ⟨p, q.a, q.d, q.v, q.z, q.x, q.e, some (ul, uvs, usedA q.cont), true⟩) ⟨hg.1, fun u hu => by cases hu; exact husok⟩ (by simp only [ARec.f, List.cons_append, List.nil_append]; walk_at "w") (by walk_at "w"))
        replace C := C.permC (cs' := G.half w ⟨p, q.a, q.d, q.v, q.z, q.x, q.e, some (ul, uvs, usedA q.cont), true⟩ ++ (.ns L (("bv_available", .ref bv) :: [("debug", .ref db), ("atoms", .ref lt), ("accessible_vars", .ref la), ("agenda", .ref G.ag), ("context", .none), ("self", .ref v.p)]) :: allC w q.d q.v q.z (some ul) true :: cvC (L+1) (.ref q.a) :: .li bv [] :: (v.c w st ++ cs))) (List.Perm.append_left _ ((List.Perm.cons _ ((List.Perm.cons _ (List.Perm.swap _ _ _)).trans (List.Perm.swap _ _ _))).trans (List.Perm.swap _ _ _)))
        replace C := backA (q' := ⟨p, q.a, q.d, q.v, q.z, q.x, q.e, some (ul, uvs, usedA q.cont), true⟩) C
        kd_p1
        rename_i C
        refine addDbg C (r'.le (by kd_p)) (L := L) (by kd_in) (by kd_in) fun db' t1 t2 s3 C => ?_
        kd_p1
        rename_i C
        refine recur (G := G.setAl (G.al ++ [⟨p, q.a, q.d, q.v, q.z, q.x, q.e, some (ul, uvs, usedA q.cont), true⟩])) IH h1 h2 hk (C.weakC (List.Sublist.append (List.Sublist.refl _) (List.Sublist.cons_cons _ (List.sublist_cons_self _ _)))) perm1 (S2.1.mono (by walk_at "w")) (.head _) r' (by rw [S2.2]; exact ha.h) fun fs4 s4 f4 C => ?_
        exact h fs4 s4 (fun f k => f4 f (by have := hf f (f1 f k); kd_in)) ((C.permC List.perm_middle.symm).drop)
      | cons y0 yr =>
        rw [hfl] at hy hyl
        obtain ⟨x0, xr, rfl⟩ : ∃ x0 xr, ys = x0 :: xr := by
          cases ys with
          | nil => cases hyl
          | cons x0 xr => exact ⟨x0, xr, rfl⟩
        obtain ⟨y0', e0, C⟩ := C.itemOf (K := kE) (i := 0) hy rfl
        cases e0
        obtain ⟨a0, rfl⟩ := C.ref (x := y0) (.head _)
        have hy0 : okA y0 := S.gc.1 y0 (List.mem_filter.mp (show y0 ∈ acc.filter _ by rw [hfl]; exact .head _)).1
        obtain ⟨yn, hyn⟩ := hy0.1
        change St w S₀ _ (Fact.v (.ref a0) (.e y0) :: fs2) _ at C
        replace ha : att n (addAllP (putP G.cont (sub q.x y0 q.e)) (q.x, q.e, some (unE (usedA q.cont) [y0]), false)) acc ats st = some (b, st') := by
          replace ha := ha.h
          unfold stepA at ha
          rw [if_neg (by rw [hacc]; exact Bool.false_ne_true), hfl] at ha
          rw [← hqb]
          exact ha
        replace ha := Wr.mk ha
        have hg0 : gE (sub q.x y0 q.e) := hg.1.allOf hy0
        refine ite_d1 rfl ?_
        kd_p1
        rename_i C
        refine getUsed (u := some ul) C (by kd_in) (List.mem_append_right _ (.tail _ (.tail _ (.head _)))) fun s7 C => ?_
        dsimp only
        kd_p1
        rename_i l2 s8 _ l3 s9 C
        replace C := (C.permC (List.Perm.swap _ _ _)).freezeL
        replace C := C.oneL (u := .ref a0) (x := .e y0) (by kd_in)
        refine union_K (K := kE) (xs := usedA q.cont) (ys := [y0]) C (r'.le (by kd_p)) (.head _) (by kd_in) (by kd_in) (show Fact.l uvs ((usedA q.cont).map .e) ∈ _ by kd_in) (.head _) husok.okE (fun z hz' => List.mem_singleton.mp hz' ▸ okA_okE hy0) ?_ fun q2 rs2 s10 C => ?_
        · have := husok.2
          simp only [List.length_cons, List.length_nil]
          kd_p
        replace C := C.drop
        kd_p1
        rename_i C
        refine setUsed C (a := q.a) (d := q.d) (by kd_in) (Upd.appR (.tail (.tail .head))) fun s11 C => ?_
        have tb := repF_tab q.e
        have tk := repF_keep q.e
        kd_p1
        rename_i C
        refine getTermA C (by kd_in) (List.mem_append_right _ (.tail _ (.tail _ (.head _)))) fun s12 C => ?_
        kd_p1
        rename_i C
        refine getVarA C (by kd_in) (List.mem_append_right _ (.tail _ (.tail _ (.head _)))) fun s13 C => ?_
        kd_p1
        rename_i C
        refine wpAny_call (rep_E (e := q.e) (y := y0) (x := q.x) hyn (clE_noCatch hy0 hg.1.cl.2) C (r'.le ?_) (by kd_in) (by kd_in) (by kd_in) (.inl rfl) fun q1 s3 C => ?_)
        · have := hg.1.ht
          simp only [hgt, ARec.cont] at this
          kd_p
        kd_p1
        rename_i C
        refine wpAny_call (code_put C (S.ag.mono (by walk_at "w")) (by kd_p) (r'.le (by kd_p)) hg0.wf (by kd_in) (.inr rfl) fun G1 fs3 s1 a1 c1 o1 f3 C => ?_)
        have f4 : ∀ f ∈ fs2, f ∈ fs3 := fun f hf => f3 f (by kd_in)
        have gu1 : Fact.li q2 rs2 ∈ fs3 := f3 _ (by kd_in)
        have gu2 : Fact.l rs2 ((uni kE.eq (uni kE.eq [] (usedA q.cont)) [y0]).map kE.av) ∈ fs3 := f3 _ (by kd_in)
        have g2 := Ag.f_ag o1
        rw [a1] at g2
        replace gq := f4 _ gq
        replace gx := f4 _ gx
        replace gz := f4 _ gz
        replace gv := f4 _ gv
        replace hd := f4 _ hd
        have S1 : Sit v n G1 la lt acc ats fs3 := S.put hg0 c1 o1 (by kd_p) f4
        have hz20 : (G1.al.map fun r => Value.ref r.p).length ≤ 100000 := by rw [List.length_map]; have := o1.2.2.2; kd_p
        kd_p1
        rename_i C
        rw [← a1]
        refine subG (L := L) C (r'.le (by kd_p)) (by kd_in) (by rw [a1]; kd_in) Ag.m_d Ag.m_sl (by decide) (by decide) (Ag.list20 o1) fun s8 C => ?_
        kd_p1
        rename_i p s9 C
        refine appL C (Ag.updAa (q := ⟨p, q.a, q.d, q.v, q.z, q.x, q.e, some (q2, rs2, unE (usedA q.cont) [y0]), false⟩)) hz20 fun s10 C => ?_
        have S2 := ofC C (p := fun F => Sit v n (G1.setAl (G1.al ++ [⟨p, q.a, q.d, q.v, q.z, q.x, q.e, some (q2, rs2, unE (usedA q.cont) [y0]), false⟩])) la lt acc ats F ∧ _) (Sit.putAdd (q := ⟨p, q.a, q.d, q.v, q.z, q.x, q.e, some (q2, rs2, unE (usedA q.cont) [y0]), false⟩) S hg0 c1 (o1.mono (by walk_at "w")) (by kd_p) (by intro f hf; have := f4 f hf; kd_in) ⟨hg.1, fun u hu => by cases hu; exact husok.un (fun z hz' => List.mem_singleton.mp hz' ▸ hy0) (by simp)⟩ (by
          simp only [ARec.f, List.cons_append, List.nil_append]
          have gu3 : Fact.l rs2 ((unE (usedA q.cont) [y0]).map .e) ∈ fs3 := gu2
          walk_at "w"))
        replace C := C.permC (cs' := G1.half w ⟨p, q.a, q.d, q.v, q.z, q.x, q.e, some (q2, rs2, unE (usedA q.cont) [y0]), false⟩ ++ (.ns L (("variable_to_use", .ref a0) :: ("bv_available", .ref bv) :: [("debug", .ref db), ("atoms", .ref lt), ("accessible_vars", .ref la), ("agenda", .ref G.ag), ("context", .none), ("self", .ref v.p)]) :: allC w q.d q.v q.z (some q2) false :: cvC (L+1) (.ref q.a) :: .li bv (.ref a0 :: xr) :: (v.c w st ++ cs))) (List.Perm.append_left _ ((List.Perm.cons _ ((List.Perm.cons _ (List.Perm.swap _ _ _)).trans (List.Perm.swap _ _ _))).trans (List.Perm.swap _ _ _)))
        replace C := backA (q' := ⟨p, q.a, q.d, q.v, q.z, q.x, q.e, some (q2, rs2, unE (usedA q.cont) [y0]), false⟩) C
        kd_p1
        rename_i C
        refine addDbg C (r'.le (by kd_p)) (L := L) (by kd_in) (by kd_in) fun db' t1 t2 s3 C => ?_
        kd_p1
        rename_i C
        rw [← a1]
        refine recur (G := G1.setAl (G1.al ++ [⟨p, q.a, q.d, q.v, q.z, q.x, q.e, some (q2, rs2, unE (usedA q.cont) [y0]), false⟩])) IH h1 h2 hk (C.weakC (List.Sublist.append (List.Sublist.refl _) (List.Sublist.cons_cons _ (List.sublist_cons_self _ _)))) perm1 (S2.1.mono (by walk_at "w")) (.head _) r' (by rw [S2.2]; exact ha.h) fun fs5 s4 f5 C => ?_
        exact h fs5 s4 (fun f k => f5 f (by have := f4 f (hf f (f1 f k)); kd_in)) ((C.permC List.perm_middle.symm).drop)
end
section
variable {w : World} {S₀ s : Shared} {cs cs' : List Cell} {fs : List Fact} {A : Around} {E' : Value → Shared → Prop} {Q : Value → Shared → Prop} {env : Env} {R : Result → Shared → Prop} {G : Ag} {N : Nat} {v : PV} {n : Nat} {la lt db a : Addr} {acc : List E} {ats : List (E × Bool)} {st st' : PSt} {b : Bool} {t t' : Tok} {k : Int}
theorem truthyA {d vv z : Addr} {u : Option Addr} {b : Bool} {Q : Bool → Shared → Prop} (C : St w S₀ cs fs s) (ho : Fact.ob a (instObj 788 d) ∈ fs) (hm : allC w d vv z u b ∈ cs) (h : Q true s) : wpAny (model pw w) A (truthy (.ref a)) Q E' s := by
  obtain ⟨rest, p⟩ := perm_of_mem hm
  obtain ⟨t1, t2, u', e', ord, C, h1, h2⟩ := (C.permC p).openA
  exact truthyI C (isI2 ho (.head _)) h
theorem truthyE {e : E} {Q : Bool → Shared → Prop} (C : St w S₀ cs fs s) (he : Fact.v (.ref a) (.e e) ∈ fs) (h : Q true s) : wpAny (model pw w) A (truthy (.ref a)) Q E' s := by
  obtain ⟨l, hl, C⟩ := C.openM he
  exact truthyI C (.inl (.head _)) h (cls_tab e) (by cases e <;> exact fun q => by cases q)
theorem catSkip1 {L : Addr} {m : List (Str × Value)} {n : Str} {k j : Int} {t : Tok} {q1 q2 q3 q4 q5 : Pos} {body rest : List Stmt} {Q : Flow → Shared → Prop} (C : St w S₀ cs fs s) (hm : .ns L m ∈ cs) (hx : m.lookup ("category" : Str) = some (.int k t)) (hn : catTab.lookup n = some j) (hb : (k == j) = false)
    (h : ∀ s', St w S₀ cs fs s' → wpAny (model pw w) A (execs rest (callEnv F1153 L 1153)) Q E' s') :
    wpAny (model pw w) A (execs (.If (.Compare (.Name ("category" : Str) q1) [.Eq] [.Attribute (.Name ("Categories" : Str) q2) n q3] q4) body [] q5 :: rest) (callEnv F1153 L 1153)) Q E' s := by
  have ng_Categories := g_Categories
  kd_p1
  rename_i C
  rw [hb]
  refine ite_d2 (by decide) ?_
  kd_p1
  exact h _ C
theorem catHit {name n : Str} {f : Addr} {k j : Int} {ku : Tok} {L : Addr} {m : List (Str × Value)} {l : Flds} {q1 q2 q3 q4 q5 p1 p2 p3 p4 p5 p6 p7 p8 p9 p10 : Pos} {o rest : List Stmt} {Q : Flow → Shared → Prop} (C : St w S₀ cs fs s) (hm : .ns L m ∈ cs) (hx : m.lookup ("category" : Str) = some (.int k ku)) (hn : catTab.lookup n = some j) (hb : (k == j) = true)
    (hi : IsI cs fs v.p 1311 l) (hl : l.lookup name = none) (hf : mTab.lookup (1311, name) = some f) (hk : (cTab.contains f || keeps.contains f) = true)
    (m1 : m.lookup ("self" : Str) = some (.ref v.p)) (m2 : m.lookup ("current" : Str) = some (.ref a)) (m3 : m.lookup ("context" : Str) = some .none) (m4 : m.lookup ("agenda" : Str) = some (.ref G.ag)) (m5 : m.lookup ("accessible_vars" : Str) = some (.ref la)) (m6 : m.lookup ("atoms" : Str) = some (.ref lt)) (m7 : m.lookup ("debug" : Str) = some (.ref db))
    {pl : Sem Bool} (he : eval (.Call (.Attribute (.Name ("self" : Str) p1) name p2) [.Name ("current" : Str) p3, .Name ("context" : Str) p4, .Name ("agenda" : Str) p5, .Name ("accessible_vars" : Str) p6, .Name ("atoms" : Str) p7, .Name ("debug" : Str) p8] [] p9) (callEnv F1153 L 1153) = (do
      let ov ← eval (.Name ("self" : Str) p1) (callEnv F1153 L 1153)
      standAt p2.atName
      let (f, first) ← holding [ov] (getMethod ov name pl)
      callWith p9 f first (backTo p9 (starEach [.Name ("current" : Str) p3, .Name ("context" : Str) p4, .Name ("agenda" : Str) p5, .Name ("accessible_vars" : Str) p6, .Name ("atoms" : Str) p7, .Name ("debug" : Str) p8] (callEnv F1153 L 1153))) []))
    (h : ∀ s', St w S₀ cs fs s' → wpAny (model pw w) A (call (.ref f) (RArgs v G a la lt db).pos) (fun v s'' => Q (.ret v) s'') E' s') :
    wpAny (model pw w) A (execs (.If (.Compare (.Name ("category" : Str) q1) [.Eq] [.Attribute (.Name ("Categories" : Str) q2) n q3] q4) [.Return (some (.Call (.Attribute (.Name ("self" : Str) p1) name p2) [.Name ("current" : Str) p3, .Name ("context" : Str) p4, .Name ("agenda" : Str) p5, .Name ("accessible_vars" : Str) p6, .Name ("atoms" : Str) p7, .Name ("debug" : Str) p8] [] p9)) p10] o q5 :: rest) (callEnv F1153 L 1153)) Q E' s := by
  have ng_Categories := g_Categories
  kd_p1
  rename_i C
  rw [hb]
  kd_p1
  rename_i C
  refine PyProof.Rows.MethodCall_ ?_ he
  kd_p1
  rename_i C
  refine gmI C hi hf hl ?_
  kd_p1
  rename_i C
  exact h _ C
structure CatS where
  (x : Str) (q1 : Pos) (g : Str) (q2 : Pos) (n : Str) (q3 q4 : Pos) (body : List Stmt) (q5 : Pos)
noncomputable def CatS.stmt (c : CatS) : Stmt := .If (.Compare (.Name c.x c.q1) [.Eq] [.Attribute (.Name c.g c.q2) c.n c.q3] c.q4) c.body [] c.q5
noncomputable def catI : Stmt → Option CatS
  | .If (.Compare (.Name x q1) [.Eq] [.Attribute (.Name g q2) n q3] q4) body [] q5 => some ⟨x, q1, g, q2, n, q3, q4, body, q5⟩
  | _ => none
noncomputable def skipT (k : Int) (c : CatS) : Bool := c.x == ("category" : Str) && c.g == ("Categories" : Str) && (catTab.lookup c.n).any (fun j => !(k == j))
noncomputable def catsOf (k : Int) : List Stmt → List CatS × List Stmt
  | [] => ([], [])
  | s :: rest => match catI s with
    | some c => bif skipT k c then (c :: (catsOf k rest).1, (catsOf k rest).2) else ([], s :: rest)
    | none => ([], s :: rest)
noncomputable def skipC (k : Int) (l : List Stmt) : List Stmt := (catsOf k l).2
noncomputable abbrev SkipE (k : Int) (l : List Stmt) : Prop := l = (catsOf k l).1.map CatS.stmt ++ skipC k l
noncomputable abbrev SkipA (k : Int) (l : List Stmt) : Prop := true = (catsOf k l).1.all (skipT k)
theorem skipL {L : Addr} {m : List (Str × Value)} {k : Int} {t : Tok} {Q : Flow → Shared → Prop} {r : List Stmt} (hm : .ns L m ∈ cs) (hx : m.lookup ("category" : Str) = some (.int k t)) : ∀ (l : List CatS) {s : Shared}, l.all (skipT k) = true → St w S₀ cs fs s →
    (∀ s', St w S₀ cs fs s' → wpAny (model pw w) A (execs r (callEnv F1153 L 1153)) Q E' s') → wpAny (model pw w) A (execs (l.map CatS.stmt ++ r) (callEnv F1153 L 1153)) Q E' s := by
  intro l
  induction l with
  | nil => exact fun _ C h => h _ C
  | cons c rest ih =>
    intro s ha C h
    have hc := Bool.and_eq_true_iff.mp ha
    have h1 := Bool.and_eq_true_iff.mp hc.1
    have h2 := Bool.and_eq_true_iff.mp h1.1
    obtain ⟨j, hj, hb⟩ := (Option.any_eq_true _ _).mp h1.2
    show wpAny _ _ (execs (CatS.stmt c :: (rest.map CatS.stmt ++ r)) _) _ _ _
    unfold CatS.stmt
    rw [beq_iff_eq.mp h2.1, beq_iff_eq.mp h2.2]
    exact catSkip1 C hm hx hj ((Bool.not_eq_true' _).mp hb) fun s' C => ih hc.2 C h
theorem skipC_ok {L : Addr} {m : List (Str × Value)} {k : Int} {t : Tok} {Q : Flow → Shared → Prop} (hm : .ns L m ∈ cs) (hx : m.lookup ("category" : Str) = some (.int k t)) (l : List Stmt) {s : Shared} (C : St w S₀ cs fs s)
    (h : ∀ s', St w S₀ cs fs s' → wpAny (model pw w) A (execs (skipC k l) (callEnv F1153 L 1153)) Q E' s') (he : autoParam (SkipE k l) tKr) (ha : autoParam (SkipA k l) tKr) : wpAny (model pw w) A (execs l (callEnv F1153 L 1153)) Q E' s := by
  rw [he]
  exact skipL hm hx _ ha.symm C h
theorem eqTru {K : Bool → Shared → Prop} {b : Bool} (h : b = true) (k : K true s) : K b s := by rw [h]; exact k
theorem att_zero : AttOK w S₀ v 0 := by
  intro A R cs fs s G la lt db acc ats st st' b t t' k h1 h2 hk C S hd r ha h
  refine callF (n := 2 * 0 + 149) (binds := [("self", .ref v.p), ("agenda", .ref G.ag), ("accessible_vars", .ref la), ("atoms", .ref lt), ("debug", .ref db)]) ok1153 C r (binds0 (by kernel_rfl)) (by kernel_rfl) (by kernel_rfl) fun L A' s' r' C => ?_
  have nc_ATOM := c_ATOM; have nc_PROP := c_PROP; have nc_N_ATOM := c_N_ATOM; have nc_N_PROP := c_N_PROP; have nc_APP := c_APP; have nc_N_APP := c_N_APP; have nc_N_EQ := c_N_EQ; have nc_D_NEG := c_D_NEG; have nc_N_ALL := c_N_ALL; have nc_N_EXISTS := c_N_EXISTS; have nc_AND := c_AND; have nc_N_OR := c_N_OR; have nc_N_IMP := c_N_IMP; have nc_OR := c_OR; have nc_IMP := c_IMP; have nc_N_AND := c_N_AND; have nc_IFF := c_IFF; have nc_N_IFF := c_N_IFF; have nc_EQ := c_EQ; have nc_EXISTS := c_EXISTS; have nc_ALL := c_ALL; have ng_Categories := g_Categories
  walk_at "B"
  replace C := C.agIn
  walk_at "mI"
  rename_i C
  have gv := S.fv _ (.head _)
  have hgt : decide ((200 : Int) < k) = true := decide_eq_true (by kd_p)
  cases ha
  kd_p1
  rw [hgt]
  kd_p1
  rename_i C
  exact h _ _ (by walk_at "w") C.agOut.drop.agDrop
theorem att_succ (IH : AttOK w S₀ v n) : AttOK w S₀ v (n + 1) := by
  intro A R cs fs s G la lt db acc ats st st' b t t' k h1 h2 hk C S hd r ha h
  refine callF (n := 2 * n + 151) (binds := [("self", .ref v.p), ("agenda", .ref G.ag), ("accessible_vars", .ref la), ("atoms", .ref lt), ("debug", .ref db)]) ok1153 C (r.le (by kd_p)) (binds0 (by kernel_rfl)) (by kernel_rfl) (by kernel_rfl) fun L A' s' r' C => ?_
  have nc_ATOM := c_ATOM; have nc_PROP := c_PROP; have nc_N_ATOM := c_N_ATOM; have nc_N_PROP := c_N_PROP; have nc_APP := c_APP; have nc_N_APP := c_N_APP; have nc_N_EQ := c_N_EQ; have nc_D_NEG := c_D_NEG; have nc_N_ALL := c_N_ALL; have nc_N_EXISTS := c_N_EXISTS; have nc_AND := c_AND; have nc_N_OR := c_N_OR; have nc_N_IMP := c_N_IMP; have nc_OR := c_OR; have nc_IMP := c_IMP; have nc_N_AND := c_N_AND; have nc_IFF := c_IFF; have nc_N_IFF := c_N_IFF; have nc_EQ := c_EQ; have nc_EXISTS := c_EXISTS; have nc_ALL := c_ALL; have ng_Categories := g_Categories
  conv in (bodyOf _) => whnf
  replace C := C.agIn
  walk_at "mI"
  rename_i C
  have gv := S.fv _ (.head _)
  have g1 := Ag.f_ag S.ag
  have hle := S.le
  have n2 := nN_le hle
  have hgt : decide ((200 : Int) < k) = false := decide_eq_false (by kd_p)
  replace ha := Wr.mk ha
  let __Q : Flow → Shared → Prop := fun f s1 => f = .next ∧ St w S₀ (G.c w ++ (.ns L [("debug", .ref db), ("atoms", .ref lt), ("accessible_vars", .ref la), ("agenda", .ref G.ag), ("self", .ref v.p)] :: (v.c w st ++ cs))) fs s1
  refine wpAny_execs_cons (wpAny_mono (Q := __Q) ?_ (fun f s1 hx => ?_) (fun _ _ e => e))
  · kd_p1
    rw [hgt]
    kd_p1
    assumption
  obtain ⟨rfl, C⟩ := hx
  dsimp only
  let __Q : Flow → Shared → Prop := fun f s1 => (f = .ret (.bool false) ∧ overL (st.2.map (· - 1)) = true ∧ St w S₀ (v.c w (st.1, st.2.map (· - 1)) ++ cs) fs s1) ∨ (f = .next ∧ overL (st.2.map (· - 1)) = false ∧ St w S₀ (G.c w ++ (.ns L [("debug", .ref db), ("atoms", .ref lt), ("accessible_vars", .ref la), ("agenda", .ref G.ag), ("self", .ref v.p)] :: (v.c w (st.1, st.2.map (· - 1)) ++ cs))) fs s1)
  refine wpAny_execs_cons (wpAny_mono (Q := __Q) ?_ (fun f s1 hx => ?_) (fun _ _ e => e))
  · obtain ⟨sc, sk⟩ := st
    rcases hdl : v.dl with _ | ⟨da, dd⟩
    · rw [hdl] at h1
      obtain rfl : sk = none := by cases sk <;> first | rfl | cases h1
      have hdv : v.dlV = .none := by unfold PV.dlV; rw [hdl]
      rw [hdv] at gv
      kd_p1
      exact .inr ⟨rfl, rfl, by assumption⟩
    · rw [hdl] at h1
      obtain ⟨j, rfl⟩ : ∃ j, sk = some j := by cases sk <;> first | exact ⟨_, rfl⟩ | cases h1
      have hdv : v.dlV = .ref da := by unfold PV.dlV; rw [hdl]
      rw [hdv] at gv
      have gd : Fact.ob da (instObj 45 dd) ∈ fs := S.fv _ (by unfold PV.f; rw [hdl]; exact .tail _ (.tail _ (.head _)))
      have hvc : ∀ j, v.c w (sc, some j) = [cntC w v.cd sc, dlC w dd j] := fun j => by unfold PV.c PV.dc; rw [hdl]
      walk_at "zC"
      rw [hvc] at C
      walk_at "zG"
      simp only [Option.map_some, hvc]
      kd_p1
      rename_i C
      refine gmDl C gd (List.mem_append_right _ (.tail _ (.tail _ (.head _)))) ?_
      kd_p1
      rename_i C
      refine call_passed C (r'.le (by kd_p)) gd (Upd.appR (.tail (.tail .head))) fun s2 C => ?_
      cases hj : decide (j - 1 < 0) with
      | true =>
        kd_p1
        exact .inl ⟨rfl, hj, by have := C.agOut.drop.agDrop; assumption⟩
      | false =>
        kd_p1
        exact .inr ⟨rfl, hj, by assumption⟩
  rcases hx with ⟨rfl, hov, C⟩ | ⟨rfl, hov, C⟩
  · have ha := ha.h
    unfold att at ha
    rw [if_pos hov] at ha
    cases ha
    exact h _ _ (fun f hf => hf) C
  replace ha : Wr ((match firstNE G.cont.1 with
    | some (_, e, ls) => stepE (att n) e (ls, G.cont.2) acc ats (st.1, st.2.map (· - 1))
    | none => match splitX G.cont.2 with
      | some (l1, q, l2) => stepA (att n) q (G.cont.1, l1 ++ l2) acc ats (st.1, st.2.map (· - 1))
      | none => some (false, (st.1, st.2.map (· - 1)))) = some (b, st')) := by
    have ha := ha.h
    unfold att at ha
    rw [if_neg (by rw [hov]; exact Bool.false_ne_true)] at ha
    exact ⟨ha⟩
  have h1' : v.dl.isSome = (st.2.map (· - 1)).isSome := by rw [h1]; simp
  generalize st.2.map (· - 1) = sk at ha C h1'
  generalize hst : ((st.1, sk) : PSt) = st0 at ha C
  have h2' : 0 ≤ st0.1 := by rw [← hst]; exact h2
  have h1'' : v.dl.isSome = st0.2.isSome := by rw [← hst]; exact h1'
  dsimp only
  kd_p1
  rename_i C
  refine wpAny_call (code_pop C S.ag (by kd_p) (GAg.no6 S.gg) (r'.le (by kd_p)) ?_ ?_ ?_)
  · intro G1 ls e kk fs1 tt pp c u s1 hf hag hcont hok hff ft fp fe C
    obtain ⟨hgg, hcat, hge⟩ := S.gg.pop hf
    rw [← hcat] at ft
    have S2 : Sit v (n + 1) G1 la lt acc ats fs1 := ⟨S.le, hok, hcont ▸ hgg, S.gc, S.gt, let ⟨vs, a, b⟩ := S.fa; ⟨vs, hff _ a, hff _ b⟩, let ⟨vs, a, b⟩ := S.ft; ⟨vs, hff _ a, hff _ b⟩, fun f hf => hff f (S.fv f hf)⟩
    replace ha := ha.h
    rw [hf] at ha
    dsimp only at ha
    rw [← hcont] at ha
    replace ha := Wr.mk ha
    have gv := S2.fv _ (.head _)
    refine asT2 C (List.mem_append_right _ (.head _)) r'.hand ft rfl fun s2 C => ?_
    refine asT2 C (List.mem_append_right _ (.head _)) r'.hand fp rfl fun s3 C => ?_
    kd_p1
    rename_i C
    refine truthyE C fe ?_
    walk_at "k"
    walk_at "cI"
    rename_i C
    iterate 2 walk_at "y"
    replace ha := ha.h
    cases e with
    | con x => exact hge.wf.elim
    | iv x => exact hge.wf.elim
    | all x y =>
      exfalso
      have : (20 : Int) = kk := hcat
      have hk20 : kk < 20 := by
        obtain ⟨l1, l, l2, e1, e2, _⟩ := firstNE_spec hf
        have : G.cont.1.length = 20 := by show (G.bs.map _).length = 20; rw [List.length_map]; exact S.ag.1
        rw [e1] at this; simp only [List.length_append, List.length_cons] at this; kd_p
      kd_p
    | app x y =>
      replace ha := Wr.mk ha
      refine skipC_ok (by kd_in) (by exact rfl) _ C fun s5 C => ?_
      conv in (skipC _ _) => whnf
      refine catHit (G := G1) C (by kd_in) (by exact rfl) (by assumption) rfl (by walk_at "i") rfl (by exact rfl) (by decide) rfl rfl rfl (by rw [hag]; rfl) rfl rfl rfl rfl fun s6 C => ?_
      exact wpAny_call (rule_atom IH h1'' h2' (by kd_p) (C.permC perm1) (S2.mono (by walk_at "w")) (hff _ hd) r' (by kd_in) hge ha.h fun fs4 s4 f4 C => h fs4 s4 (fun f hf => f4 f (hff f hf)) (C.permC List.perm_middle.symm).drop)
    | and x y =>
      replace ha := Wr.mk ha
      refine skipC_ok (by kd_in) (by exact rfl) _ C fun s5 C => ?_
      conv in (skipC _ _) => whnf
      refine catHit (G := G1) C (by kd_in) (by exact rfl) (by assumption) rfl (by walk_at "i") rfl (by exact rfl) (by decide) rfl rfl rfl (by rw [hag]; rfl) rfl rfl rfl rfl fun s6 C => ?_
      exact wpAny_call (rule_and IH h1'' h2' (by kd_p) (C.permC perm1) (S2.mono (by walk_at "w")) (hff _ hd) r' (by kd_in) hge ha.h fun fs4 s4 f4 C => h fs4 s4 (fun f hf => f4 f (hff f hf)) (C.permC List.perm_middle.symm).drop)
    | or x y =>
      replace ha := Wr.mk ha
      refine skipC_ok (by kd_in) (by exact rfl) _ C fun s5 C => ?_
      conv in (skipC _ _) => whnf
      refine catHit (G := G1) C (by kd_in) (by exact rfl) (by assumption) rfl (by walk_at "i") rfl (by exact rfl) (by decide) rfl rfl rfl (by rw [hag]; rfl) rfl rfl rfl rfl fun s6 C => ?_
      exact wpAny_call (rule_or IH h1'' h2' (by kd_p) (C.permC perm1) (S2.mono (by walk_at "w")) (hff _ hd) r' (by kd_in) hge ha.h fun fs4 s4 f4 C => h fs4 s4 (fun f hf => f4 f (hff f hf)) (C.permC List.perm_middle.symm).drop)
    | imp x y =>
      replace ha := Wr.mk ha
      refine skipC_ok (by kd_in) (by exact rfl) _ C fun s5 C => ?_
      conv in (skipC _ _) => whnf
      refine catHit (G := G1) C (by kd_in) (by exact rfl) (by assumption) rfl (by walk_at "i") rfl (by exact rfl) (by decide) rfl rfl rfl (by rw [hag]; rfl) rfl rfl rfl rfl fun s6 C => ?_
      exact wpAny_call (rule_imp IH h1'' h2' (by kd_p) (C.permC perm1) (S2.mono (by walk_at "w")) (hff _ hd) r' (by kd_in) hge ha.h fun fs4 s4 f4 C => h fs4 s4 (fun f hf => f4 f (hff f hf)) (C.permC List.perm_middle.symm).drop)
    | ex x y =>
      replace ha := Wr.mk ha
      refine skipC_ok (by kd_in) (by exact rfl) _ C fun s5 C => ?_
      conv in (skipC _ _) => whnf
      refine catHit (G := G1) C (by kd_in) (by exact rfl) (by assumption) rfl (by walk_at "i") rfl (by exact rfl) (by decide) rfl rfl rfl (by rw [hag]; rfl) rfl rfl rfl rfl fun s6 C => ?_
      exact wpAny_call (rule_some IH h1'' h2' (by kd_p) (C.permC perm1) (S2.mono (by walk_at "w")) (hff _ hd) r' (by kd_in) hge ha.h fun fs4 s4 f4 C => h fs4 s4 (fun f hf => f4 f (hff f hf)) (C.permC List.perm_middle.symm).drop)
    | neg e' =>
      cases e' with
      | con x => exact hge.wf.elim
      | iv x => exact hge.wf.elim
      | app x y =>
        replace ha := Wr.mk ha
        refine skipC_ok (by kd_in) (by exact rfl) _ C fun s5 C => ?_
        conv in (skipC _ _) => whnf
        refine catHit (G := G1) C (by kd_in) (by exact rfl) (by assumption) rfl (by walk_at "i") rfl (by exact rfl) (by decide) rfl rfl rfl (by rw [hag]; rfl) rfl rfl rfl rfl fun s6 C => ?_
        exact wpAny_call (rule_n_atom IH h1'' h2' (by kd_p) (C.permC perm1) (S2.mono (by walk_at "w")) (hff _ hd) r' (by kd_in) hge ha.h fun fs4 s4 f4 C => h fs4 s4 (fun f hf => f4 f (hff f hf)) (C.permC List.perm_middle.symm).drop)
        | neg x =>
        replace ha := Wr.mk ha
        refine skipC_ok (by kd_in) (by exact rfl) _ C fun s5 C => ?_
        conv in (skipC _ _) => whnf
        refine catHit (G := G1) C (by kd_in) (by exact rfl) (by assumption) rfl (by walk_at "i") rfl (by exact rfl) (by decide) rfl rfl rfl (by rw [hag]; rfl) rfl rfl rfl rfl fun s6 C => ?_
        exact wpAny_call (rule_d_neg IH h1'' h2' (by kd_p) (C.permC perm1) (S2.mono (by walk_at "w")) (hff _ hd) r' (by kd_in) hge ha.h fun fs4 s4 f4 C => h fs4 s4 (fun f hf => f4 f (hff f hf)) (C.permC List.perm_middle.symm).drop)
        | all x y =>
        replace ha := Wr.mk ha
        refine skipC_ok (by kd_in) (by exact rfl) _ C fun s5 C => ?_
        conv in (skipC _ _) => whnf
        refine catHit (G := G1) C (by kd_in) (by exact rfl) (by assumption) rfl (by walk_at "i") rfl (by exact rfl) (by decide) rfl rfl rfl (by rw [hag]; rfl) rfl rfl rfl rfl fun s6 C => ?_
        exact wpAny_call (rule_n_all IH h1'' h2' (by kd_p) (C.permC perm1) (S2.mono (by walk_at "w")) (hff _ hd) r' (by kd_in) hge ha.h fun fs4 s4 f4 C => h fs4 s4 (fun f hf => f4 f (hff f hf)) (C.permC List.perm_middle.symm).drop)
        | ex x y =>
        replace ha := Wr.mk ha
        refine skipC_ok (by kd_in) (by exact rfl) _ C fun s5 C => ?_
        conv in (skipC _ _) => whnf
        refine catHit (G := G1) C (by kd_in) (by exact rfl) (by assumption) rfl (by walk_at "i") rfl (by exact rfl) (by decide) rfl rfl rfl (by rw [hag]; rfl) rfl rfl rfl rfl fun s6 C => ?_
        exact wpAny_call (rule_n_some IH h1'' h2' (by kd_p) (C.permC perm1) (S2.mono (by walk_at "w")) (hff _ hd) r' (by kd_in) hge ha.h fun fs4 s4 f4 C => h fs4 s4 (fun f hf => f4 f (hff f hf)) (C.permC List.perm_middle.symm).drop)
        | or x y =>
        replace ha := Wr.mk ha
        refine skipC_ok (by kd_in) (by exact rfl) _ C fun s5 C => ?_
        conv in (skipC _ _) => whnf
        refine catHit (G := G1) C (by kd_in) (by exact rfl) (by assumption) rfl (by walk_at "i") rfl (by exact rfl) (by decide) rfl rfl rfl (by rw [hag]; rfl) rfl rfl rfl rfl fun s6 C => ?_
        exact wpAny_call (rule_n_or IH h1'' h2' (by kd_p) (C.permC perm1) (S2.mono (by walk_at "w")) (hff _ hd) r' (by kd_in) hge ha.h fun fs4 s4 f4 C => h fs4 s4 (fun f hf => f4 f (hff f hf)) (C.permC List.perm_middle.symm).drop)
        | imp x y =>
        replace ha := Wr.mk ha
        refine skipC_ok (by kd_in) (by exact rfl) _ C fun s5 C => ?_
        conv in (skipC _ _) => whnf
        refine catHit (G := G1) C (by kd_in) (by exact rfl) (by assumption) rfl (by walk_at "i") rfl (by exact rfl) (by decide) rfl rfl rfl (by rw [hag]; rfl) rfl rfl rfl rfl fun s6 C => ?_
        exact wpAny_call (rule_n_imp IH h1'' h2' (by kd_p) (C.permC perm1) (S2.mono (by walk_at "w")) (hff _ hd) r' (by kd_in) hge ha.h fun fs4 s4 f4 C => h fs4 s4 (fun f hf => f4 f (hff f hf)) (C.permC List.perm_middle.symm).drop)
        | and x y =>
        replace ha := Wr.mk ha
        refine skipC_ok (by kd_in) (by exact rfl) _ C fun s5 C => ?_
        conv in (skipC _ _) => whnf
        refine catHit (G := G1) C (by kd_in) (by exact rfl) (by assumption) rfl (by walk_at "i") rfl (by exact rfl) (by decide) rfl rfl rfl (by rw [hag]; rfl) rfl rfl rfl rfl fun s6 C => ?_
        exact wpAny_call (rule_n_and IH h1'' h2' (by kd_p) (C.permC perm1) (S2.mono (by walk_at "w")) (hff _ hd) r' (by kd_in) hge ha.h fun fs4 s4 f4 C => h fs4 s4 (fun f hf => f4 f (hff f hf)) (C.permC List.perm_middle.symm).drop)
  · intro l1 l2 q fs1 tt u s1 hf hal hex hqb hff ft C
    have hqm : q ∈ G.al := by rw [hal]; simp
    have hcal : G.cont.2 = l1.map ARec.cont ++ q.cont :: l2.map ARec.cont := by show G.al.map ARec.cont = _; rw [hal]; simp
    have hsp : splitX G.cont.2 = some (l1.map ARec.cont, q.cont, l2.map ARec.cont) := by
      rw [hcal]
      exact splitX_at hqb fun x hx => by obtain ⟨y, hy, rfl⟩ := List.mem_map.mp hx; exact hex y hy
    obtain ⟨hgg, hgq⟩ := S.gg.popA hsp
    have hcont : (G.setAl (l1 ++ l2)).cont = (G.cont.1, l1.map ARec.cont ++ l2.map ARec.cont) := by simp [Ag.cont, Ag.setAl]
    have hok : (G.setAl (l1 ++ l2)).ok fs1 (nN (n + 1)) := by
      refine ⟨S.ag.1, fun f hf' => ?_, S.ag.2.2.1, ?_⟩
      · refine hff f (S.ag.2.1 f ?_)
        simp only [Ag.f, Ag.setAl, List.map_append, List.flatten_append, List.mem_cons, List.mem_append] at hf' ⊢
        rw [hal]
        simp only [List.map_append, List.map_cons, List.flatten_append, List.flatten_cons, List.mem_append]
        rcases hf' with h | h | h | h <;> simp [h]
      · have := S.ag.2.2.2
        rw [hal] at this
        simp only [List.length_append, List.length_cons] at this
        show (l1 ++ l2).length ≤ _
        rw [List.length_append]; kd_p
    have hqf : ∀ f ∈ q.f, f ∈ fs1 := fun f hf' => hff f (Ag.f_al S.ag hqm f hf')
    have S2 : Sit v (n + 1) (G.setAl (l1 ++ l2)) la lt acc ats fs1 := ⟨S.le, hok, hcont ▸ hgg, S.gc, S.gt, let ⟨vs, a, b⟩ := S.fa; ⟨vs, hff _ a, hff _ b⟩, let ⟨vs, a, b⟩ := S.ft; ⟨vs, hff _ a, hff _ b⟩, fun f hf => hff f (S.fv f hf)⟩
    replace ha := ha.h
    rw [hf, hsp] at ha
    dsimp only at ha
    rw [← hcont] at ha
    replace ha := Wr.mk ha
    have gv := S2.fv _ (.head _)
    have fp : Fact.ob q.p (tupObj [.ref q.a, .none]) ∈ fs1 := hqf _ (List.mem_append_left _ (.head _))
    have gq : Fact.ob q.a (instObj 788 q.d) ∈ fs1 := hqf _ (List.mem_append_left _ (.tail _ (.head _)))
    refine asT2 C (.head _) r'.hand ft rfl fun s2 C => ?_
    refine asT2 C (.head _) r'.hand fp rfl fun s3 C => ?_
    kd_p1
    rename_i C
    refine truthyA C gq (.head _) ?_
    walk_at "k"
    walk_at "cI"
    rename_i C
    iterate 2 walk_at "y"
    refine skipC_ok (by kd_in) (by exact rfl) _ C fun s5 C => ?_
    conv in (skipC _ _) => whnf
    kd_p1
    rename_i C
    exact wpAny_call (rule_all (G := G.setAl (l1 ++ l2)) IH h1'' h2' (by kd_p) (C.permC (List.Perm.cons _ perm1)) S2 (hff _ hd) r' hqf hgq hqb ha.h fun fs4 s4 f4 C => h fs4 s4 (fun f hf => f4 f (hff f hf)) (C.permC List.perm_middle.symm).drop)
  · intro fs1 tt t2 s1 hf hex hff ft ft2 C
    have hsp : splitX G.cont.2 = none := splitX_no fun x hx => by obtain ⟨y, hy, rfl⟩ := List.mem_map.mp hx; exact hex y hy
    replace ha := ha.h
    rw [hf, hsp] at ha
    cases ha
    refine asT2 C (List.mem_append_right _ (.head _)) r'.hand ft rfl fun s2 C => ?_
    refine asT2 C (List.mem_append_right _ (.head _)) r'.hand ft2 rfl fun s3 C => ?_
    kd_p1
    rename_i C
    exact h _ _ hff C.agOut.drop.agDrop
theorem att_ok : ∀ n : Nat, AttOK w S₀ v n
  | 0 => att_zero
  | n + 1 => att_succ (att_ok n)
end
noncomputable def empP : PAg := (List.replicate 20 [], [])
noncomputable def lookO (k : Int) : Option Int := if k = 0 then none else some k
noncomputable def proveP (k : Int) (e0 : E) (es : List E) : Option (Bool × PSt) := att 201 (es.foldl putP (putP empP (.neg e0))) [] [] (0, lookO k)
theorem GAg.emp : GAg 201 empP := by
  refine ⟨fun i l hl e he => ?_, fun q hq => by cases hq⟩
  have : l = [] := (List.mem_replicate.mp (List.mem_of_getElem? hl)).2
  rw [this] at he; cases he
theorem GAg.puts : ∀ {es : List E} {P : PAg}, GAg 201 P → (∀ e ∈ es, gE e) → GAg 201 (es.foldl putP P)
  | [], _, h, _ => h
  | e :: es, P, h, he => GAg.puts (P := putP P e) (h.put (he e (.head _)) (by decide)) fun x hx => he x (.tail _ hx)
section
variable {w : World} {S₀ s : Shared} {cs cs' : List Cell} {fs : List Fact} {A : Around} {E' : Value → Shared → Prop} {Q : Value → Shared → Prop} {env : Env} {R : Result → Shared → Prop} {G : Ag} {N : Nat} {n : Nat} {b : Bool} {t t' : Tok} {k : Int}
theorem permD {a b c : Cell} {X R : List Cell} : (a :: b :: (X ++ (c :: R))).Perm (b :: (X ++ (c :: a :: R))) := by
  haveI : DecidableEq Cell := fun a b => Classical.propDecidable (a = b)
  rw [List.perm_iff_count]
  intro x
  simp only [List.count_cons, List.count_append, List.count_nil]
  kd_p
theorem permE {a b c d : Cell} {X R : List Cell} : (a :: b :: d :: (X ++ (c :: R))).Perm (d :: b :: (X ++ (c :: a :: R))) := by
  haveI : DecidableEq Cell := fun a b => Classical.propDecidable (a = b)
  rw [List.perm_iff_count]
  intro x
  simp only [List.count_cons, List.count_append, List.count_nil]
  kd_p
inductive PV9 (w : World) (S₀ : Shared) (L g p d : Addr) (t1 u : Tok) (k : Int) (vs : List Value) (F : List Fact) (cs : List Cell) (s : Shared) : Prop
  | mk (l' : Addr) (m : List (Str × Value)) (fs1 : List Fact) (f1 : ∀ f ∈ F, f ∈ fs1) (hl : Fact.li l' vs ∈ fs1) (m1 : m.lookup ("assumptions" : Str) = some (.ref l')) (m2 : m.lookup ("goal" : Str) = some (.ref g)) (m3 : m.lookup ("self" : Str) = some (.ref p)) (C : St w S₀ (.ns L m :: .di d [("TIMEOUT", t1, .int k u)] :: cs) fs1 s)
theorem code_prove {p d g l : Addr} {t1 u : Tok} {vs : List Value} {e0 : E} {es : List E} {st' : PSt} (C : St w S₀ (.di d [("TIMEOUT", t1, .int k u)] :: cs) fs s) (r : Room A 560) (hp : Fact.ob p (instObj 1311 d) ∈ fs) (h0 : Fact.v (.ref g) (.e e0) ∈ fs) (hl : Fact.li l vs ∈ fs) (hv : Fact.l vs (es.map .e) ∈ fs)
    (hg : ∀ e ∈ .neg e0 :: es, gE e) (hz : es.length ≤ 100) (ha : proveP k e0 es = some (b, st')) (h : ∀ fs' s', (∀ f ∈ fs, f ∈ fs') → St w S₀ cs fs' s' → R (.ok (.ret (.bool b))) s') :
    codeAny (model pw w) A (.call (.ref 1146) ⟨[.ref p, .ref g, .ref l], []⟩) R s := by
  have hvl := C.len hv
  rw [List.length_map] at hvl
  have hvz : vs.length ≤ 100000 := by kd_p
  replace ha := Wr.mk ha
  refine callF (n := 559) (binds := [("self", .ref p), ("goal", .ref g), ("assumptions", .ref l)]) ok1146 C r (kp_binds C.kin fun S => by kernel_rfl) (by kernel_rfl) (by kernel_rfl) fun L A' s' r' C => ?_
  have ng_Agenda := g_Agenda; have ng_Debug := g_Debug; have ng_Counter := g_Counter; have ng_Deadline := g_Deadline
  conv in (bodyOf _) => whnf
  let __Q : Flow → Shared → Prop := fun f s1 => f = .next ∧ PV9 w S₀ L g p d t1 u k vs fs cs s1
  refine wpAny_execs_cons (wpAny_mono (Q := __Q) ?_ (fun f s1 hx => ?_) (fun _ _ e => e))
  · kd_p1
    rename_i C
    cases hem : vs.isEmpty with
    | true =>
      obtain rfl : vs = [] := by simpa using hem
      kd_p1
      rename_i l' s1 C0 s2 C
      replace C := C.freezeL
      exact ⟨l', _, _, (by walk_at "w"), .head _, rfl, rfl, rfl, C⟩
    | false =>
      kd_p1
      exact ⟨l, _, fs, fun f hf => hf, hl, rfl, rfl, rfl, by assumption⟩
  · obtain ⟨rfl, hx⟩ := hx
    dsimp only
    obtain ⟨l', m, fs1, f1, hl', m1, m2, m3, C⟩ := hx
    replace hp := f1 _ hp
    replace h0 := f1 _ h0
    replace hv := f1 _ hv
    kd_p1
    rename_i C
    refine mk_Agenda C (r'.le (by kd_p)) fun G fs2 s2 hG f2 hc C => ?_
    replace hp := f2 _ hp
    replace h0 := f2 _ h0
    replace hv := f2 _ hv
    replace hl' := f2 _ hl'
    have g1 := Ag.f_ag hG
    kd_p1
    rename_i C
    refine truthyE C h0 ?_
    kd_p1
    rename_i C
    refine negE C (r'.le (by kd_p)) (L := L) (by kd_in) (by kd_in) fun q1 s3 C => ?_
    kd_p1
    rename_i C
    refine wpAny_call (code_put C (hG.mono (by walk_at "w")) (by kd_p) (r'.le (by kd_p)) (hg _ (.head _)).wf (.head _) (.inl rfl) fun G1 fs3 s4 a1 c1 o1 f3 C => ?_)
    have f4 : ∀ f ∈ fs2, f ∈ fs3 := fun f hf => f3 f (by kd_in)
    replace hp := f4 _ hp
    replace hv := f4 _ hv
    replace hl' := f4 _ hl'
    have g1 := Ag.f_ag o1
    rw [a1] at g1
    kd_p1
    rename_i C
    rw [← a1]
    refine wpAny_call (code_putAll C o1 (by kd_p) (r'.le (by kd_p)) (fun e he => (hg e (.tail _ he)).wf) (.inr hl') hv fun G2 fs5 s5 a2 c2 o2 f5 C => ?_)
    replace hp := f5 _ hp
    have g1 := Ag.f_ag o2
    rw [a2, a1] at g1
    kd_p1
    rename_i C
    refine mk_Debug0 C (r'.le (by kd_p)) fun db td td' s6 C => ?_
    kd_p1
    rename_i C
    refine mk_Cnt C (r'.le (by kd_p)) fun ct cd s7 C => ?_
    kd_p1
    rename_i s8 C
    have fin : ∀ (dl : Option (Addr × Addr)) (t2 t3 : Tok) (la lt : Addr) (fs6 : List Fact) (s9 : Shared) (m' : List (Str × Value)), dl.isSome = (lookO k).isSome → (∀ f ∈ fs5, f ∈ fs6) → Fact.li la [] ∈ fs6 → Fact.li lt [] ∈ fs6 → Fact.ins db 1435 [("indent", td', .int 0 td)] ∈ fs6 → (∀ f ∈ PV.f ⟨p, ct, cd, dl, t1, t2, t3, .int k u⟩, f ∈ fs6) →
        St w S₀ (PV.c w ⟨p, ct, cd, dl, t1, t2, t3, .int k u⟩ (0, lookO k) ++ (G2.c w ++ (.ns L m' :: cs))) fs6 s9 →
        wpAny (model pw w) A' (call (.ref 1153) [.ref p, .ref G.ag, .ref la, .ref lt, .ref db]) (fun v s' => R (.ok (.ret v)) s') (fun _ _ => False) s9 := by
      intro dl t2 t3 la lt fs6 s9 m' hdl f6 hla hlt hdb hpv C
      replace C := C.nilL
      have hcont : G2.cont = es.foldl putP (putP empP (.neg e0)) := by rw [c2, c1, hc]; rfl
      have S : Sit ⟨p, ct, cd, dl, t1, t2, t3, .int k u⟩ 201 G2 la lt [] [] (.l [] [] :: fs6) := by
        refine ⟨Nat.le_refl _, (o2.mono (fun f hf => .tail _ (f6 f hf))).le (by unfold nN; kd_p), ?_, ⟨(fun y hy => by cases hy), by simp⟩, ⟨(fun y hy => by cases hy), by simp⟩, ⟨[], .tail _ hla, .head _⟩, ⟨[], .tail _ hlt, .head _⟩, fun f hf => .tail _ (hpv f hf)⟩
        rw [hcont]
        exact GAg.puts (GAg.emp.put (hg _ (.head _)) (by decide)) fun e he => hg e (.tail _ he)
      rw [← a1, ← a2]
      refine wpAny_call (att_ok 201 (st := (0, lookO k)) (G := G2) hdl (Int.le_refl _) (by decide) (C.permC (List.perm_append_comm_assoc _ _ _)) S (.tail _ hdb) (r'.le (by kd_p)) (by rw [hcont]; exact ha.h) fun fs7 s10 f7 C => ?_)
      exact h fs7 s10 (fun f hf => f7 f (.tail _ (f6 f (f5 f (f4 f (f2 f (f1 f hf))))))) (C.weakC ((List.sublist_cons_self _ _).trans (List.sublist_append_right _ _)))
    refine PyProof.Rows.truthy_int ?_
    have gdb := ofC C (p := fun F => Fact.ins db 1435 [("indent", td', .int 0 td)] ∈ F) (by kd_in)
    cases hk : k != 0 with
    | false =>
      have hk0 : k = 0 := by simpa using hk
      have hlo : lookO k = none := by unfold lookO; rw [if_pos hk0]
      kd_p1
      rename_i x1 s11 _ x2 s12 C
      replace C := (C.freezeL.freezeL.permC permD).asIns (x := p) (by kd_in)
      refine fin none (s7.toks + 1) (s8.toks + 1) x1 x2 _ s12 _ (by rw [hlo]; rfl) ?_ ?_ ?_ ?_ ?_ (by rw [hlo]; exact C)
      · walk_at "w"
      · kd_in
      · kd_in
      · kd_in
      · refine List.forall_mem_cons.mpr ⟨.head _, List.forall_mem_cons.mpr ⟨?_, List.forall_mem_nil _⟩⟩
        kd_in
    | true =>
      have hk0 : k ≠ 0 := by simpa using hk
      have hlo : lookO k = some k := by unfold lookO; rw [if_neg hk0]
      kd_p1
      rename_i C
      refine mk_Dl C (r'.le (by kd_p)) fun da dd s10 C => ?_
      kd_p1
      rename_i x1 s11 _ x2 s12 C
      replace C := (C.freezeL.freezeL.permC permE).asIns (x := p) (by kd_in)
      refine fin (some (da, dd)) (s7.toks + 1) (s10.toks + 1) x1 x2 _ s12 _ (by rw [hlo]; rfl) ?_ ?_ ?_ ?_ ?_ (by rw [hlo]; exact C)
      · walk_at "w"
      · kd_in
      · kd_in
      · kd_in
      · refine List.forall_mem_cons.mpr ⟨.head _, List.forall_mem_cons.mpr ⟨?_, List.forall_mem_cons.mpr ⟨?_, List.forall_mem_nil _⟩⟩⟩
        · kd_in
        · kd_in
end
section
variable {w : World} {S₀ s : Shared} {cs cs' : List Cell} {fs : List Fact} {A : Around} {E' : Value → Shared → Prop} {Q : Value → Shared → Prop} {env : Env} {R : Result → Shared → Prop}
noncomputable def boxC (b : Addr) (c : Int) : Cell := .pr b fun o => ∃ t n, o = W.listOf #[.int c t] n
noncomputable def boxM : Int := 1000000007 * 998244353
noncomputable def boxP (ns : List Int) (k : Nat) : Int :=
  let c : Int := match ns[k]? with | some x => (if x < 0 then -x else x) | none => 0
  if c < 10 ^ 12 then c * boxM + c else c
theorem absN_nn {o : Option Int} : 0 ≤ (match o with | some x => (if x < 0 then -x else x) | none => (0 : Int)) := by
  split
  · split <;> rename_i h <;> kd_p
  · exact Int.le_refl _
theorem boxP_nn (ns : List Int) (k : Nat) : 0 ≤ boxP ns k := by
  unfold boxP
  have := absN_nn (o := ns[k]?)
  dsimp only
  generalize (match ns[k]? with | some x => (if x < 0 then -x else x) | none => (0 : Int)) = c at this ⊢
  split
  · unfold boxM; kd_p
  · exact this
noncomputable def SmallP (m : Int) : Prop := 0 < m ∧ m < 1000000
theorem absI {a : Int} {t : Tok} (C : St w S₀ cs fs s) (h : ∀ t s', St w S₀ cs fs s' → Q (.int (if a < 0 then -a else a) t) s') : wpAny (model pw w) A (call (.builtin "abs") [.int a t]) Q E' s := call_abs_int fun u tk => h u _ C.tick
theorem powI {a n : Int} {t u : Tok} (C : St w S₀ cs fs s) (hn : 0 ≤ n) (hn2 : n ≤ 1000000) (ha : a.natAbs < 2 ^ 64) (h : ∀ t s', St w S₀ cs fs s' → Q (.int (a ^ n.toNat) t) s') : wpAny (model pw w) A (binaryOp .Pow (.int a t) (.int n u)) Q E' s := pow_int_small hn hn2 ha (h _ _ C.tick)
theorem mulI {a b : Int} {t u : Tok} (C : St w S₀ cs fs s) (hm : IntMulOk a b) (h : ∀ t s', St w S₀ cs fs s' → Q (.int (a * b) t) s') : wpAny (model pw w) A (binaryOp .Mult (.int a t) (.int b u)) Q E' s := PyProof.Rows.mul_int (h _ _ C.tick) hm
theorem modI {a b : Int} {t u : Tok} (C : St w S₀ cs fs s) (hm : SmallP b) (h : ∀ t s', St w S₀ cs fs s' → Q (.int (a.fmod b) t) s') : wpAny (model pw w) A (binaryOp .Mod (.int a t) (.int b u)) Q E' s := mod_int' (by have := hm.1; kd_p) (h _ _ C.tick)
theorem fdivI {a b : Int} {t u : Tok} (C : St w S₀ cs fs s) (hm : SmallP b) (h : ∀ t s', St w S₀ cs fs s' → Q (.int (a.fdiv b) t) s') : wpAny (model pw w) A (binaryOp .FloorDiv (.int a t) (.int b u)) Q E' s :=
  PyProof.Rows.floordiv_int (by have := hm.1; kd_p) (h _ _ C.tick) (.inl (PyProof.noPylong_small (by have := hm.1; have := hm.2; kd_p)))
theorem lenL {l : Addr} {vs : List Value} (C : St w S₀ cs fs s) (hl : Cell.li l vs ∈ cs ∨ Fact.li l vs ∈ fs) (hz : vs.length ≤ 100000) (h : ∀ t s', St w S₀ cs fs s' → Q (.int vs.length t) s') : wpAny (model pw w) A (call (.builtin "len") [.ref l]) Q E' s := by
  refine len_list (C.plain hl).isList (by rw [List.size_toArray]; kd_p) ?_
  rw [List.size_toArray]
  exact h _ _ C.tick
end
section
variable {w : World} {S₀ s : Shared} {cs cs' : List Cell} {fs : List Fact} {A : Around} {E' : Value → Shared → Prop} {Q : Value → Shared → Prop} {env : Env} {R : Result → Shared → Prop}
theorem St.intV (C : St w S₀ cs fs s) {v : Value} {x : Int} (h : Fact.v v (.int x) ∈ fs) : ∃ t, v = .int x t := by obtain ⟨g, _, Y⟩ := C; have := Y _ h; exact this
theorem call_box {sc : Addr} {vs : List Value} {ns : List Int} {k : Nat} {t : Tok} (C : St w S₀ cs fs s) (r : Room A 4) (hl : Fact.li sc vs ∈ fs) (hv : Fact.l vs (ns.map .int) ∈ fs) (hn : ns.length ≤ 63) (hk : k < 100)
    (h : ∀ b s', St w S₀ (boxC b (boxP ns k) :: cs) fs s' → Q (.ref b) s') : wpAny (model pw w) A (call (.ref 1460) [.ref sc, .int k t]) Q E' s := by
  have hvl := C.len hv
  rw [List.length_map] at hvl
  have hvz : vs.length ≤ 100000 := by kd_p
  refine wpAny_call (callF (n := 3) (binds := [("script", .ref sc), ("k", .int k t)]) ok1460 C r (binds0 (by kernel_rfl)) (by kernel_rfl) (by kernel_rfl) fun L A' s' r' C => ?_)
  have nb_abs := b_abs; have nb_len := b_len
  conv in (bodyOf _) => whnf
  obtain ⟨c, hc, hc0⟩ : ∃ c : Int, c = (match ns[k]? with | some x => (if x < 0 then -x else x) | none => (0 : Int)) ∧ 0 ≤ c := ⟨_, rfl, absN_nn⟩
  have hb : boxP ns k = if c < 10 ^ 12 then c * boxM + c else c := by rw [hc]; rfl
  let __Q : Flow → Shared → Prop := fun f s1 => f = .next ∧ ∃ u m, m.lookup ("cell" : Str) = some (.int c u) ∧ St w S₀ (.ns L m :: cs) fs s1
  refine wpAny_execs_cons (wpAny_mono (Q := __Q) ?_ (fun f s1 hx => ?_) (fun _ _ e => e))
  · kd_p1
    rename_i C
    cases hlt : decide ((k : Int) < vs.length) with
    | true =>
      have hk2 : k < vs.length := by have := of_decide_eq_true hlt; kd_p
      obtain ⟨x, hx⟩ : ∃ x, ns[k]? = some x := ⟨_, List.getElem?_eq_getElem (by kd_p)⟩
      obtain ⟨v, hvk⟩ : ∃ v, vs[k]? = some v := ⟨_, List.getElem?_eq_getElem hk2⟩
      rw [hx] at hc
      replace C := C.item hv hvk (a := .int x) (by rw [List.getElem?_map, hx]; rfl)
      obtain ⟨tv, rfl⟩ := C.intV (.head _)
      kd_p1
      rename_i C
      refine tailL C (.inr (.tail _ hl)) (by kd_p) (by kd_p) (by rw [Int.toNat_natCast]; exact hvk) ?_
      kd_p1
      dsimp only at hc
      rw [hc]
      exact ⟨_, _, rfl, St.weakF (by assumption) (by walk_at "w")⟩
    | false =>
      have hk2 : vs.length ≤ k := by have := of_decide_eq_false hlt; kd_p
      rw [List.getElem?_eq_none (by kd_p)] at hc
      subst hc
      kd_p1
      exact ⟨_, _, rfl, by assumption⟩
  · obtain ⟨rfl, u, m, hm, C⟩ := hx
    dsimp only
    let __Q : Flow → Shared → Prop := fun f s1 => f = .next ∧ ∃ u m, m.lookup ("cell" : Str) = some (.int (boxP ns k) u) ∧ St w S₀ (.ns L m :: cs) fs s1
    refine wpAny_execs_cons (wpAny_mono (Q := __Q) ?_ (fun f s1 hx => ?_) (fun _ _ e => e))
    · kd_p1
      rename_i C
      refine powI C (by decide) (by decide) (by decide) fun t3 s3 C => ?_
      refine ltI ?_
      kd_p1
      cases hlt : decide (c < 10 ^ Int.toNat 12) with
      | true =>
        have hc12 : c < 10 ^ 12 := of_decide_eq_true hlt
        rw [if_pos hc12] at hb
        kd_p1
        rename_i C
        refine mulI C (.of_right (intBits_le_64 (by decide) (by decide))) fun t4 s4 C => ?_
        kd_p1
        rename_i C
        refine mulI C (.of_right (intBits_le_64 (by decide) (by decide))) fun t5 s5 C => ?_
        kd_p1
        rename_i t6 _ _ s7 C
        refine ⟨t6, _, ?_, C⟩
        rw [hb, boxM, ← Int.mul_assoc]
        rfl
      | false =>
        have hc12 : ¬ c < 10 ^ 12 := of_decide_eq_false hlt
        rw [if_neg hc12] at hb
        walk_at "zG"
        rw [hb]
        kd_p1
        exact ⟨_, _, hm, by assumption⟩
    · obtain ⟨rfl, u2, m2, hm2, C⟩ := hx
      dsimp only
      kd_p1
      rename_i b s6 C
      replace C := (C.permC (List.Perm.swap _ _ _)).drop
      exact h b s6 (C.recell (c' := boxC b (boxP ns k)) rfl fun ⟨n, e⟩ => ⟨_, e, _, n, rfl⟩)
theorem St.openBox {b : Addr} {c : Int} (C : St w S₀ (boxC b c :: cs) fs s) : ∃ t, St w S₀ (.li b [.int c t] :: cs) fs s := by
  obtain ⟨o, e, t, n, rfl⟩ := C.cell (.head _)
  exact ⟨t, C.recell rfl fun _ => ⟨n, e⟩⟩
theorem St.closeBox {b : Addr} {c : Int} {t : Tok} (C : St w S₀ (.li b [.int c t] :: cs) fs s) : St w S₀ (boxC b c :: cs) fs s := C.recell (c' := boxC b c) rfl fun ⟨n, e⟩ => ⟨_, e, t, n, rfl⟩
theorem call_take {b : Addr} {c m : Int} {t : Tok} (C : St w S₀ cs fs s) (r : Room A 4) (U : Upd (boxC b c) (boxC b (c.fdiv m)) cs cs') (hm : SmallP m) (h : ∀ u s', St w S₀ cs' fs s' → Q (.int (c.fmod m) u) s') : wpAny (model pw w) A (call (.ref 1467) [.ref b, .int m t]) Q E' s := by
  obtain ⟨rest, p, p'⟩ := U.perm
  obtain ⟨t0, C⟩ := (C.permC p).openBox
  refine wpAny_call (callF (n := 3) (binds := [("box", .ref b), ("many", .int m t)]) ok1467 C r (binds0 (by kernel_rfl)) (by kernel_rfl) (by kernel_rfl) fun L A' s' r' C => ?_)
  walk_at "B"
  kd_p1
  refine wpAny_Assign_Subscript ?_
  kd_p1
  rename_i C
  refine setAt C (.tail .head) (by decide) (by show (0 : Int) < 1; decide) (by decide) fun s3 C => ?_
  kd_p1
  rename_i C
  exact h _ _ ((C.drop.closeBox).permC p')
end
structure Drawn where
  heads : List Bool
  sign : Nat
  parts : List (Int × Int × Int × Int)
noncomputable def hS (b : Bool) : Str := if b then "all" else "some"
noncomputable def sgS (k : Nat) : Str := match k with | 0 => "one" | 1 => "and" | 2 => "or" | _ => "if"
noncomputable def headsTab : List (List Bool) := [[], [true], [false], [true, false], [false, true], [true, true], [false, false]]
noncomputable def takesP (many c : Int) : (Int × Int × Int × Int) × Int :=
  ((c.fmod 2, (c.fdiv 2).fmod 3, ((c.fdiv 2).fdiv 3).fmod many, (((c.fdiv 2).fdiv 3).fdiv many).fmod many), (((c.fdiv 2).fdiv 3).fdiv many).fdiv many)
noncomputable def partsS (many : Int) : Nat → Int → List (Int × Int × Int × Int) × Int
  | 0, c => ([], c)
  | n + 1, c => ((partsS many n c).1 ++ [(takesP many (partsS many n c).2).1], (takesP many (partsS many n c).2).2)
noncomputable def drawnP (c most : Int) : Drawn :=
  let heads := headsTab.getD (c.fmod most).toNat []
  let sg := ((c.fdiv most).fmod 4).toNat
  ⟨heads, sg, (partsS (1 + heads.length) (if sg = 0 then 1 else 2) ((c.fdiv most).fdiv 4)).1⟩
noncomputable def partAV (p : Int × Int × Int × Int) : AV := .tup [.int p.1, .int p.2.1, .int p.2.2.1, .int p.2.2.2]
noncomputable def headsAV (h : List Bool) : AV := .lst (h.map fun b => .str (hS b))
noncomputable def drawnAV (D : Drawn) : AV := .tup [headsAV D.heads, .str (sgS D.sign), .lst (D.parts.map partAV)]
section
variable {w : World} {S₀ s : Shared} {cs cs' : List Cell} {fs : List Fact} {A : Around} {E' : Value → Shared → Prop} {Q : Value → Shared → Prop} {env : Env} {R : Result → Shared → Prop}
theorem St.strV {x : Str} {t : Tok} (C : St w S₀ cs fs s) : St w S₀ cs (.v (.str x t) (.str x) :: fs) s := C.fact fun g Y => by exact Exists.intro t rfl
theorem St.intF {x : Int} {t : Tok} (C : St w S₀ cs fs s) : St w S₀ cs (.v (.int x t) (.int x) :: fs) s := C.fact fun g Y => by exact Exists.intro t rfl
theorem St.lstV {a : Addr} {vs : List Value} {xs : List AV} (C : St w S₀ cs fs s) (hl : Fact.li a vs ∈ fs) (hv : Fact.l vs xs ∈ fs) : St w S₀ cs (.v (.ref a) (.lst xs) :: fs) s := C.fact fun g Y => by
  obtain ⟨n, e⟩ := Y _ hl
  exact Exists.intro a ⟨vs, n, rfl, e, Y _ hv⟩
theorem St.tupV {a : Addr} {vs : List Value} {xs : List AV} (C : St w S₀ cs fs s) (hl : Fact.ob a (tupObj vs) ∈ fs) (hv : Fact.l vs xs ∈ fs) : St w S₀ cs (.v (.ref a) (.tup xs) :: fs) s := C.fact fun g Y => by
  exact relT (Y _ hl) (Y _ hv)
inductive OLst (w : World) (S₀ : Shared) (cs : List Cell) (fs : List Fact) (s : Shared) (v : Value) (xs : List AV) : Prop | mk (a : Addr) (vs : List Value) (e : v = .ref a) (C : St w S₀ cs (.li a vs :: .l vs xs :: fs) s)
inductive OTup (w : World) (S₀ : Shared) (cs : List Cell) (fs : List Fact) (s : Shared) (v : Value) (xs : List AV) : Prop | mk (a : Addr) (vs : List Value) (e : v = .ref a) (C : St w S₀ cs (.ob a (tupObj vs) :: .l vs xs :: fs) s)
inductive OCons (w : World) (S₀ : Shared) (cs : List Cell) (fs : List Fact) (s : Shared) (vs : List Value) (a : AV) (as : List AV) : Prop | mk (v : Value) (vr : List Value) (e : vs = v :: vr) (C : St w S₀ cs (.v v a :: .l vr as :: fs) s)
theorem relLst {P : Params} {g : PM} {xs : List AV} {v : Value} (h : Fact.ok P g (.v v (.lst xs))) : ∃ a vs, v = .ref a ∧ Fact.ok P g (.li a vs) ∧ Fact.ok P g (.l vs xs) := by obtain ⟨a, vs, n, e, h1, h2⟩ := h; exact ⟨a, vs, e, ⟨n, h1⟩, h2⟩
theorem relTup {P : Params} {g : PM} {xs : List AV} {v : Value} (h : Fact.ok P g (.v v (.tup xs))) : ∃ a vs, v = .ref a ∧ Fact.ok P g (.ob a (tupObj vs)) ∧ Fact.ok P g (.l vs xs) := by exact h
theorem relCons {P : Params} {g : PM} {a : AV} {as : List AV} {vs : List Value} (h : Fact.ok P g (.l vs (a :: as))) : ∃ v vr, vs = v :: vr ∧ Fact.ok P g (.v v a) ∧ Fact.ok P g (.l vr as) := by exact h
theorem relNil {P : Params} {g : PM} {vs : List Value} (h : Fact.ok P g (.l vs [])) : vs = [] := by exact h
theorem relInt {P : Params} {g : PM} {x : Int} {v : Value} (h : Fact.ok P g (.v v (.int x))) : ∃ t, v = .int x t := by exact h
theorem relStr {P : Params} {g : PM} {x : Str} {v : Value} (h : Fact.ok P g (.v v (.str x))) : ∃ t, v = .str x t := by exact h
theorem St.fact2 {a b : Fact} (C : ∃ g, Stg w S₀ g cs s ∧ (∀ f ∈ fs, f.ok w.params g) ∧ a.ok w.params g ∧ b.ok w.params g) : St w S₀ cs (a :: b :: fs) s := by
  obtain ⟨g, X, Y, y1, y2⟩ := C
  exact ⟨g, X, fun f hf => (List.mem_cons.mp hf).elim (fun q => q ▸ y1) fun hf => (List.mem_cons.mp hf).elim (fun q => q ▸ y2) (Y f)⟩
theorem St.openLst {v : Value} {xs : List AV} (C : St w S₀ cs fs s) (h : Fact.v v (.lst xs) ∈ fs) : OLst w S₀ cs fs s v xs := by
  obtain ⟨g, X, Y⟩ := C
  obtain ⟨a, vs, e, h1, h2⟩ := relLst (Y _ h)
  exact ⟨a, vs, e, .fact2 ⟨g, X, Y, h1, h2⟩⟩
theorem St.openTup {v : Value} {xs : List AV} (C : St w S₀ cs fs s) (h : Fact.v v (.tup xs) ∈ fs) : OTup w S₀ cs fs s v xs := by
  obtain ⟨g, X, Y⟩ := C
  obtain ⟨a, vs, e, h1, h2⟩ := relTup (Y _ h)
  exact ⟨a, vs, e, .fact2 ⟨g, X, Y, h1, h2⟩⟩
theorem St.strOf {v : Value} {x : Str} (C : St w S₀ cs fs s) (h : Fact.v v (.str x) ∈ fs) : ∃ t, v = .str x t := by obtain ⟨g, _, Y⟩ := C; exact relStr (Y _ h)
theorem St.unconsL {vs : List Value} {a : AV} {as : List AV} (C : St w S₀ cs fs s) (h : Fact.l vs (a :: as) ∈ fs) : OCons w S₀ cs fs s vs a as := by
  obtain ⟨g, X, Y⟩ := C
  obtain ⟨v, r, e, h1, h2⟩ := relCons (Y _ h)
  exact ⟨v, r, e, .fact2 ⟨g, X, Y, h1, h2⟩⟩
theorem St.twoE {ys : List Value} {x y : E} (C : St w S₀ cs fs s) (h : Fact.l ys [.e x, .e y] ∈ fs) : ∃ a b, ys = [.ref a, .ref b] ∧ St w S₀ cs (.v (.ref a) (.e x) :: .v (.ref b) (.e y) :: fs) s := by
  obtain ⟨g, X, Y⟩ := C
  obtain ⟨v, r, e, h1, h2⟩ := relCons (Y _ h)
  obtain ⟨u, r', e', h3, h4⟩ := relCons h2
  obtain ⟨a, ea, i1⟩ := h1
  obtain ⟨b, eb, i2⟩ := h3
  exact ⟨a, b, by rw [e, e', relNil h4, ea, eb], .fact2 ⟨g, X, Y, Exists.intro a ⟨rfl, i1⟩, Exists.intro b ⟨rfl, i2⟩⟩⟩
theorem St.nilOf {vs : List Value} (C : St w S₀ cs fs s) (h : Fact.l vs [] ∈ fs) : vs = [] := by obtain ⟨g, _, Y⟩ := C; exact relNil (Y _ h)
theorem St.at_ {vs : List Value} {as : List AV} {k : Nat} {a : AV} (C : St w S₀ cs fs s) (h : Fact.l vs as ∈ fs) (e : as[k]? = some a) : ∃ v, vs[k]? = some v ∧ St w S₀ cs (.v v a :: fs) s := by
  have hl := C.len h
  have hk := (List.getElem?_eq_some_iff.mp e).1
  obtain ⟨v, hv⟩ : ∃ v, vs[k]? = some v := ⟨_, List.getElem?_eq_getElem (by kd_p)⟩
  exact ⟨v, hv, C.item h hv e⟩
theorem relY {P : Params} {g : PM} {v : Value} {a : AV} (Y : ∀ f ∈ fs, f.ok P g) (h : Fact.v v a ∈ fs) : RelV P g a v := Y _ h
theorem St.frz {a : Addr} {vs : List Value} (xs : List AV) (C : St w S₀ (.li a vs :: cs) fs s) (h : ∀ g, (∀ f ∈ fs, f.ok w.params g) → RelL w.params g xs vs) : St w S₀ cs (.v (.ref a) (.lst xs) :: fs) s := by
  have C2 := C.fact (f := .l vs xs) h
  have C3 := (C2.freezeL).lstV (a := a) (vs := vs) (xs := xs) (.head _) (.tail _ (.head _))
  exact C3.weakF (by walk_at "w")
theorem tail_lst {value slice : Expr} {l : Addr} {vs : List Value} {k : Int} {u : Tok} (C : St w S₀ (.li l vs :: cs) fs s) (xs : List AV) (h0 : 0 ≤ k) (hk : k < xs.length) (hz : xs.length ≤ 1000) (hv : ∀ g, (∀ f ∈ fs, f.ok w.params g) → RelL w.params g xs vs)
    (h : ∀ v s', St w S₀ cs (.v v (xs.getD k.toNat .none) :: fs) s' → Q v s')
    (hs : autoParam (subscripted slice false (.ref l) (.int k u) = operate [.ref l, .int k u] (getItem (.ref l) (.int k u))) tWr) : wpAny (model pw w) A (subscriptTail value slice (.ref l) (.int k u)) Q E' s := by
  have C2 := C.fact (f := .l vs xs) hv
  have e : xs[k.toNat]? = some (xs.getD k.toNat .none) := by
    rw [List.getD_eq_getElem?_getD, List.getElem?_eq_getElem (toN h0 hk)]; rfl
  obtain ⟨v, hv, C3⟩ := C2.at_ (.head _) e
  have hk63 : k < 2 ^ 63 := by kd_p
  refine tailL C3 (.inl (.head _)) h0 hk63 hv (h v s ?_) hs
  exact (C3.drop).weakF (by walk_at "w")
theorem St.part4 {p : Addr} {a b c d : Int} {ta tb tc td : Tok} (C : St w S₀ cs fs s) (ho : Fact.ob p (tupObj [.int a ta, .int b tb, .int c tc, .int d td]) ∈ fs) : St w S₀ cs (.v (.ref p) (partAV (a, b, c, d)) :: fs) s := C.fact fun g Y => by
  exact relT (xs := [.int a, .int b, .int c, .int d]) (Y _ ho) (relL1 relVi (relL1 relVi (relL1 relVi (relL1 relVi relL0))))
theorem tail_ints {value slice : Expr} {l : Addr} {vs : List Value} {k : Int} {u : Tok} (C : St w S₀ (.li l vs :: cs) fs s) (xs : List Int) (h0 : 0 ≤ k) (hk : k < xs.length) (hz : xs.length ≤ 1000) (hv : ∀ g, (∀ f ∈ fs, f.ok w.params g) → RelL w.params g (xs.map .int) vs)
    (h : ∀ t s', St w S₀ cs fs s' → Q (.int (xs.getD k.toNat 0) t) s')
    (hs : autoParam (subscripted slice false (.ref l) (.int k u) = operate [.ref l, .int k u] (getItem (.ref l) (.int k u))) tWr) : wpAny (model pw w) A (subscriptTail value slice (.ref l) (.int k u)) Q E' s := by
  refine tail_lst C (xs.map .int) h0 (by rw [List.length_map]; exact hk) (by rw [List.length_map]; exact hz) hv (fun v s' C => ?_) hs
  obtain ⟨x, e⟩ : ∃ x, xs[k.toNat]? = some x := ⟨_, List.getElem?_eq_getElem (toN h0 hk)⟩
  rw [List.getD_eq_getElem?_getD, List.getElem?_map, e] at C
  obtain ⟨t, rfl⟩ := C.intV (.head _)
  have := h t s' (C.weakF fun f hf => .tail _ hf)
  rwa [List.getD_eq_getElem?_getD, e] at this
theorem tail_strs {value slice : Expr} {l : Addr} {vs : List Value} {k : Int} {u : Tok} (C : St w S₀ (.li l vs :: cs) fs s) (xs : List Str) (h0 : 0 ≤ k) (hk : k < xs.length) (hz : xs.length ≤ 1000) (hv : ∀ g, (∀ f ∈ fs, f.ok w.params g) → RelL w.params g (xs.map .str) vs)
    (h : ∀ t s', St w S₀ cs fs s' → Q (.str (xs.getD k.toNat "") t) s')
    (hs : autoParam (subscripted slice false (.ref l) (.int k u) = operate [.ref l, .int k u] (getItem (.ref l) (.int k u))) tWr) : wpAny (model pw w) A (subscriptTail value slice (.ref l) (.int k u)) Q E' s := by
  refine tail_lst C (xs.map .str) h0 (by rw [List.length_map]; exact hk) (by rw [List.length_map]; exact hz) hv (fun v s' C => ?_) hs
  obtain ⟨x, e⟩ : ∃ x, xs[k.toNat]? = some x := ⟨_, List.getElem?_eq_getElem (toN h0 hk)⟩
  rw [List.getD_eq_getElem?_getD, List.getElem?_map, e] at C
  obtain ⟨t, rfl⟩ := C.strOf (.head _)
  have := h t s' (C.weakF fun f hf => .tail _ hf)
  rwa [List.getD_eq_getElem?_getD, e] at this
theorem sgS_get {i : Nat} (h : i < 4) : [sgS 0, sgS 1, sgS 2, sgS 3].getD i "" = sgS i := by
  match i, h with
  | 0, _ => rfl
  | 1, _ => rfl
  | 2, _ => rfl
  | 3, _ => rfl
theorem sgS_one {i : Nat} (h : i < 4) : (sgS i == ("one" : Str)) = decide (i = 0) := by
  match i, h with
  | 0, _ => rfl
  | 1, _ => rfl
  | 2, _ => rfl
  | 3, _ => rfl
inductive LI2 (w : World) (S₀ : Shared) (cs : List Cell) (fs : List Fact) (n : Int) (v : Value) (s : Shared) : Prop | mk (t : Tok) (e : v = .int n t) (C : St w S₀ cs fs s)
theorem call_drawn {b : Addr} {c most : Int} {t : Tok} (C : St w S₀ (boxC b c :: cs) fs s) (r : Room A 8) (hm : SmallP most) (hm7 : most ≤ 7)
    (h : ∀ d fs' s', (∀ f ∈ fs, f ∈ fs') → St w S₀ cs (.v (.ref d) (drawnAV (drawnP c most)) :: fs') s' → Q (.ref d) s') : wpAny (model pw w) A (call (.ref 1472) [.ref b, .int most t]) Q E' s := by
  refine wpAny_call (callFC (n := 7) (binds := [("box", .ref b), ("most", .int most t)]) (lm := [("most", .int most t)]) (cc := fun L => [ceC (L+1+1), cvC (L+1) (.ref b)]) ok1472 C r (binds0 (by kernel_rfl)) (by kernel_rfl) (by kernel_rfl) (fun L => by kernel_rfl) (by kernel_rfl) (fun L => by kernel_rfl) fun L A' s' r' C => ?_)
  have ng__law_take := g__law_take; have nb_len := b_len; have nb_range := b_range
  walk_at "B"
  dsimp only [List.cons_append, List.nil_append] at C
  kd_p1
  rename_i C
  replace C := C.permC (List.perm_middle (l₁ := [_, _, _, _, _, _, _]))
  dsimp only [List.cons_append, List.nil_append] at C
  replace C := C.frz (([false, false] : List Bool).map fun b => .str (hS b)) fun g Y => (relL1 relVs (relL1 relVs relL0))
  replace C := C.frz (([true, true] : List Bool).map fun b => .str (hS b)) fun g Y => (relL1 relVs (relL1 relVs relL0))
  replace C := C.frz (([false, true] : List Bool).map fun b => .str (hS b)) fun g Y => (relL1 relVs (relL1 relVs relL0))
  replace C := C.frz (([true, false] : List Bool).map fun b => .str (hS b)) fun g Y => (relL1 relVs (relL1 relVs relL0))
  replace C := C.frz (([false] : List Bool).map fun b => .str (hS b)) fun g Y => (relL1 relVs relL0)
  replace C := C.frz (([true] : List Bool).map fun b => .str (hS b)) fun g Y => (relL1 relVs relL0)
  replace C := C.frz (([] : List Bool).map fun b => .str (hS b)) fun g Y => relL0
  have hk0 := Int.fmod_nonneg_of_pos c hm.1
  have hk1 := Int.fmod_lt_of_pos c hm.1
  refine tail_lst C (headsTab.map headsAV) hk0 (Int.lt_of_lt_of_le hk1 hm7) (by decide) (fun g Y => (relL1 (relY Y (.head _)) (relL1 (relY Y (.tail _ (.head _))) (relL1 (relY Y (.tail _ (.tail _ (.head _)))) (relL1 (relY Y (.tail _ (.tail _ (.tail _ (.head _))))) (relL1 (relY Y (.tail _ (.tail _ (.tail _ (.tail _ (.head _)))))) (relL1 (relY Y (.tail _ (.tail _ (.tail _ (.tail _ (.tail _ (.head _))))))) (relL1 (relY Y (.tail _ (.tail _ (.tail _ (.tail _ (.tail _ (.tail _ (.head _)))))))) relL0)))))))) fun v s1 C => ?_
  replace C := C.weakF (fs' := .v v (headsAV (headsTab.getD (c.fmod most).toNat [])) :: fs) (by
    have e : (headsTab.map headsAV).getD (c.fmod most).toNat .none = headsAV (headsTab.getD (c.fmod most).toNat []) := by
      rw [List.getD_eq_getElem?_getD, List.getD_eq_getElem?_getD, List.getElem?_map]
      have : (c.fmod most).toNat < headsTab.length := toN (k := 7) hk0 (Int.lt_of_lt_of_le hk1 hm7)
      rw [List.getElem?_eq_getElem this]; rfl
    rw [e]
    walk_at "w")
  walk_at "zC"
  generalize hhd : headsTab.getD (c.fmod most).toNat [] = hd at C
  have hdl : hd.length ≤ 2 := by
    rw [← hhd]
    have := List.all_eq_true.mp (show (List.range 8).all (fun i => (headsTab.getD i []).length ≤ 2) = true by decide) (c.fmod most).toNat (List.mem_range.mpr (toN (k := 8) hk0 (Int.lt_of_lt_of_le hk1 (Int.le_trans hm7 (by decide)))))
    exact of_decide_eq_true this
  kd_p1
  rename_i C
  have hk2 := Int.fmod_nonneg_of_pos (c.fdiv most) (show (0 : Int) < 4 by decide)
  have hk3 := Int.fmod_lt_of_pos (c.fdiv most) (show (0 : Int) < 4 by decide)
  have hsg4 : ((c.fdiv most).fmod 4).toNat < 4 := toN (k := 4) hk2 hk3
  refine tail_strs C [sgS 0, sgS 1, sgS 2, sgS 3] hk2 hk3 (by decide) (fun g Y => relL1 relVs (relL1 relVs (relL1 relVs (relL1 relVs relL0)))) fun ts s2 C => ?_
  rw [sgS_get hsg4]
  generalize hsg : ((c.fdiv most).fmod 4).toNat = sg at hsg4 ⊢
  obtain ⟨ha, hvs, rfl, C⟩ := C.openLst (.head _)
  have hvl := C.len (.tail _ (.head _))
  rw [List.length_map] at hvl
  have hvz : hvs.length ≤ 100000 := by kd_p
  have e1 := sgS_one hsg4
  have hmany : SmallP (1 + (hvs.length : Int)) := ⟨by kd_p, by kd_p⟩
  have hD : drawnP c most = ⟨hd, sg, (partsS (1 + (hd.length : Int)) (if sg = 0 then 1 else 2) ((c.fdiv most).fdiv 4)).1⟩ := by
    unfold drawnP
    rw [hhd, hsg]
  kd_p1
  rename_i tm s6 C6 s7 C7
  refine Assign_Comp (cl := [("many", L+1+1), ("box", L+1)]) rfl (by exact rfl) ?_
  obtain ⟨np, hnp, hnp2⟩ : ∃ np : Nat, np = (if sg = 0 then 1 else 2) ∧ np ≤ 2 := ⟨_, rfl, by split <;> decide⟩
  rw [← hnp, ← hvl] at hD
  walk_at "k"; walk_at "cI"; iterate 4 walk_at "y"
  let __c : List Cell := .ns L [("sign", .str (sgS sg) ts), ("heads", .ref ha), ("most", .int most t)] :: cvC (L + 1 + 1) (.int (1 + (hvs.length : Int)) tm) :: cvC (L + 1) (.ref b) :: boxC b ((c.fdiv most).fdiv 4) :: cs
  let __g : List Fact := .li ha hvs :: .l hvs (hd.map fun b => .str (hS b)) :: .v (.ref ha) (headsAV hd) :: fs
  refine wpAny_mono (Q := LI2 w S₀ __c __g np) ?_ (fun v s1 hx => ?_) (fun _ _ e => e)
  · kd_p1
    rw [e1]
    cases h0 : decide (sg = 0)
    · kd_p1
      rename_i C
      exact ⟨_, by rw [hnp, if_neg (of_decide_eq_false h0)]; rfl, C⟩
    · kd_p1
      rename_i C
      exact ⟨_, by rw [hnp, if_pos (of_decide_eq_true h0)]; rfl, C⟩
  obtain ⟨_, rfl, C⟩ := hx
  kd_p1
  refine callRange C fun rg u1 u2 s3 C => ?_
  refine iterR (n := np) C (.head _) (by rcases (by kd_p : np = 0 ∨ np = 1 ∨ np = 2) with e | e | e <;> rw [e] <;> decide) (by rcases (by kd_p : np = 0 ∨ np = 1 ∨ np = 2) with e | e | e <;> rw [e] <;> decide) fun it s4 C => ?_
  let __I : Nat → List Value → List Cell → List Fact → Prop := fun i ys cs' fs' => LC (.ns L [("sign", .str (sgS sg) ts), ("heads", .ref ha), ("most", .int most t)] :: cvC (L + 1 + 1) (.int (1 + (hvs.length : Int)) tm) :: cvC (L + 1) (.ref b) :: boxC b (partsS (1 + (hvs.length : Int)) i ((c.fdiv most).fdiv 4)).2 :: cs)
    __g (fun i => ((partsS (1 + (hvs.length : Int)) i ((c.fdiv most).fdiv 4)).1).map partAV) i ys cs' fs'
  refine compW (n := np) (I := __I) (drwR r'.hand) ?_ (by kd_p) ⟨rfl, (by walk_at "w"), .head _⟩ C.nilL ?_ ?_
  · intro i ys cs' fs' hI
    obtain ⟨hc, _⟩ := hI
    rw [hc]
    exact ⟨trivial, _, .head _⟩
  · intro i v ys L2 m acc cs' fs' s5 E5 hi
    revert v
    refine turnR rfl fun tk hI C => ?_
    walk_at "k"
    obtain ⟨hc, hf, hys⟩ := hI
    replace C := C.eq3 hc
    refine lotR ?_
    kd_p1
    refine wpAny_tests_nil ?_
    kd_p1
    rename_i p s6 C
    replace C := (C.part4 (.head _)).snoc (.tail _ (.tail _ hys)) (.head _)
    refine ⟨_, _, _, ⟨rfl, (by intro f k; have := hf f k; kd_in), ?_⟩, C⟩
    rw [show partsS (1 + (hvs.length : Int)) (i + 1) ((c.fdiv most).fdiv 4) = ((partsS (1 + (hvs.length : Int)) i ((c.fdiv most).fdiv 4)).1 ++ [(takesP (1 + (hvs.length : Int)) (partsS (1 + (hvs.length : Int)) i ((c.fdiv most).fdiv 4)).2).1], (takesP (1 + (hvs.length : Int)) (partsS (1 + (hvs.length : Int)) i ((c.fdiv most).fdiv 4)).2).2) from rfl]
    rw [List.map_append]
    exact .head _
  · intro ys acc L2 m cs' fs' s5 hy hI C
    walk_at "k"
    obtain ⟨hc, hf, hys⟩ := hI
    rw [hc] at C
    kd_p1
    refine stL (L := L) C (.tail (.tail .head)) fun s6 C => ⟨m, _, fs', _, .head _, C, fun s7 C => ?_⟩
    replace C := C.frz (((partsS (1 + (hvs.length : Int)) np ((c.fdiv most).fdiv 4)).1).map partAV) fun g Y => Y _ hys
    kd_p1
    rename_i d s8 C
    refine h d fs' s8 (fun f k => hf f (by kd_in)) ?_
    have hh : Fact.v (.ref ha) (headsAV hd) ∈ fs' := hf _ (by kd_in)
    replace C := C.fact (f := .v (.ref d) (drawnAV (drawnP c most))) fun g Y => by
      rw [hD]
      show RelV w.params g (.tup _) (.ref d)
      exact relT (Y _ (.head _)) (relL1 (relY Y (.tail _ (.tail _ hh))) (relL1 relVs (relL1 (relY Y (.tail _ (.head _))) relL0)))
    exact ((C.weakC (cs' := cs) (by walk_at "s")).weakF (by walk_at "w"))
end
noncomputable def nmT : List Str := ["rex", "x", "y"]
noncomputable def nmE (k : Nat) : E := match k with | 0 => .con "rex" | 1 => .iv "x" | _ => .iv "y"
noncomputable def atomP (word : Int) (a b : E) : E := if word = 0 then .app (.con "dog") a else .app (.app (.con "sees") a) b
noncomputable def partE (q : Int × Int × Int × Int) : E :=
  let m := atomP q.2.1 (nmE q.2.2.1.toNat) (nmE q.2.2.2.toNat)
  if q.1 = 1 then .neg m else m
theorem nm_ok {k : Nat} (h : k < 3) : ∃ n, nmT[k]? = some n ∧ okN n = true ∧ varK n = some (nmE k) := by
  match k, h with
  | 0, _ => exact ⟨"rex", rfl, by kernel_rfl, by kernel_rfl⟩
  | 1, _ => exact ⟨"x", rfl, by kernel_rfl, by kernel_rfl⟩
  | 2, _ => exact ⟨"y", rfl, by kernel_rfl, by kernel_rfl⟩
theorem dog_ok : okN "dog" = true ∧ varK "dog" = some (.con "dog") := ⟨by kernel_rfl, by kernel_rfl⟩
theorem sees_ok : okN "sees" = true ∧ varK "sees" = some (.con "sees") := ⟨by kernel_rfl, by kernel_rfl⟩
noncomputable def PartOk (q : Int × Int × Int × Int) : Prop := (0 ≤ q.1 ∧ q.1 < 2) ∧ (0 ≤ q.2.1 ∧ q.2.1 < 3) ∧ (0 ≤ q.2.2.1 ∧ q.2.2.1 < 3) ∧ (0 ≤ q.2.2.2 ∧ q.2.2.2 < 3)
section
variable {w : World} {S₀ s : Shared} {cs cs' : List Cell} {fs : List Fact} {A : Around} {E' : Value → Shared → Prop} {Q : Value → Shared → Prop} {env : Env} {R : Result → Shared → Prop}
noncomputable def titC (it t : Addr) (i : Nat) : Cell := .pr it fun o => o.cls = .type "tuple_iterator" ∧ o.data = .fields #[.ref t, .int i 0]
theorem St.tup (C : St w S₀ cs fs s) {t : Addr} {vs : List Value} (h : Fact.ob t (tupObj vs) ∈ fs) : s.heap.IsTuple t vs.toArray := ⟨_, C.obj h, rfl, 0, rfl⟩
theorem iterT {t : Addr} {vs : List Value} (C : St w S₀ cs fs s) (ht : Fact.ob t (tupObj vs) ∈ fs) (h : ∀ it s', St w S₀ (titC it t 0 :: cs) fs s' → Q (.ref it) s') : wpAny (model pw w) A (pyIter (.ref t)) Q E' s :=
  wpAny_pyIter_tuple (C.tup ht) (h _ _ (C.pushC (titC s.heap.objs.size t 0) _ rfl ⟨_, Heap.get?_push_size _ rfl, rfl, rfl⟩ (tk := s.toks)))
theorem drwT {it t : Addr} {vs : List Value} (r : A.handled = none) : Drw w S₀ A it vs.length (fun i v => vs[i]? = some v) (titC it t) (fun cs fs => Fact.ob t (tupObj vs) ∈ fs) where
  item := by
    intro i cs fs s Q E hi hn C h
    have C' := C
    obtain ⟨o, e, c1, c2⟩ := C.cell (.head _)
    refine wpAny_pyNext_tuple_item (i := i) (x := vs[i]) ⟨o, e, c1, c2⟩ (C.tup hn) (by simp [hi]) fun h' hi' hs => ?_
    obtain ⟨o', e', c1', c2'⟩ := hi'
    exact h _ _ (by simp [hi]) (C'.upd (tk := s.toks) (.head (c' := titC it t (i + 1))) hs rfl ⟨o', e', c1', c2'⟩)
  done := by
    intro cs fs d s Q E hn hd C h
    have C' := C
    obtain ⟨o, e, c1, c2⟩ := C.cell (.head _)
    exact wpAny_pyNext_tuple_end (i := vs.length) r ⟨o, e, c1, c2⟩ (C.tup hn) (by simp) fun h' hs => h _ (C'.gone (tk := s.toks) hd hs)
  self := by
    intro i cs fs s Q E C h
    obtain ⟨o, e, c1, c2⟩ := C.cell (.head _)
    exact wpAny_pyIter_tupleiter ⟨o, e, c1, c2⟩ h
  up := fun _ h => h
theorem tailTs {value slice : Expr} {t sl : Addr} {vs : List Value} {a : Nat} {u : Tok} (C : St w S₀ cs fs s) (ho : Fact.ob sl (slObj (.int a u) .none) ∈ fs) (ht : Fact.ob t (tupObj vs) ∈ fs) (h1 : 1 ≤ a) (ha : a ≤ vs.length) (hz : vs.length ≤ 1000)
    (h : ∀ q s', St w S₀ cs (.ob q (tupObj (vs.drop a)) :: fs) s' → Q (.ref q) s')
    (hs : autoParam (subscripted slice false (.ref t) (.ref sl) = operate [.ref sl, .ref t] (getItem (.ref t) (.ref sl))) tWr) :
    wpAny (model pw w) A (subscriptTail value slice (.ref t) (.ref sl)) Q E' s :=
  tail_any (C.tup ht).typeIs PyProof.Rows.slot_tuple_getitem.lookup (getItem_tuple_from (C.tup ht) ⟨_, C.obj ho, rfl, rfl⟩ h1 (by rw [List.size_toArray]; exact ha) (by
    exact h _ _ (C.pushF (tupObj (vs.drop a)) rfl (tk := s.toks))) (Nat.le_trans (by rw [List.size_toArray]; exact hz) (by decide))) hs
inductive OPart (w : World) (S₀ : Shared) (cs : List Cell) (fs : List Fact) (s : Shared) (p : Addr) (q : Int × Int × Int × Int) : Prop | mk (t0 t1 t2 t3 : Tok) (C : St w S₀ cs (.ob p (tupObj [.int q.1 t0, .int q.2.1 t1, .int q.2.2.1 t2, .int q.2.2.2 t3]) :: fs) s)
theorem St.openPart {p : Addr} {q : Int × Int × Int × Int} (C : St w S₀ cs fs s) (h : Fact.v (.ref p) (partAV q) ∈ fs) : OPart w S₀ cs fs s p q := by
  obtain ⟨g, X, Y⟩ := C
  obtain ⟨a, vs, e, h1, kk0⟩ := relTup (Y _ h)
  cases e
  obtain ⟨v0, r, rfl, k0, kk1⟩ := relCons kk0
  obtain ⟨t0, rfl⟩ := relInt k0
  obtain ⟨v1, r, rfl, k0, kk2⟩ := relCons kk1
  obtain ⟨t1, rfl⟩ := relInt k0
  obtain ⟨v2, r, rfl, k0, kk3⟩ := relCons kk2
  obtain ⟨t2, rfl⟩ := relInt k0
  obtain ⟨v3, r, rfl, k0, kk4⟩ := relCons kk3
  obtain ⟨t3, rfl⟩ := relInt k0
  cases relNil kk4
  exact ⟨t0, t1, t2, t3, g, X, fun f hf => (List.mem_cons.mp hf).elim (fun q => q ▸ h1) (Y f)⟩
theorem call_part {p nl : Addr} {q : Int × Int × Int × Int} (C : St w S₀ cs fs s) (r : Room A 16) (hp : Fact.v (.ref p) (partAV q) ∈ fs) (hnl : Fact.v (.ref nl) (.lst (nmT.map .str)) ∈ fs) (hq : PartOk q)
    (h : ∀ a fs' s', (∀ f ∈ fs, f ∈ fs') → St w S₀ cs (.v (.ref a) (.e (partE q)) :: fs') s' → Q (.ref a) s') : wpAny (model pw w) A (call (.ref 1477) [.ref p, .ref nl]) Q E' s := by
  obtain ⟨t0, t1, t2, t3, C⟩ := C.openPart hp
  obtain ⟨_, nvs, e, C⟩ := C.openLst (.tail _ hnl)
  cases e
  refine wpAny_call (callFC (n := 15) (binds := [("part", .ref p), ("names", .ref nl)]) (lm := [("part", .ref p)]) (cc := fun L => [cvC (L+1) (.ref nl)]) ok1477 C r (binds0 (by kernel_rfl)) (by kernel_rfl) (by kernel_rfl) (fun L => by kernel_rfl) (by kernel_rfl) (fun L => by kernel_rfl) fun L A' s' r' C => ?_)
  have ng_ApplicationExpression := g_ApplicationExpression; have ng_VariableExpression := g_VariableExpression; have ng_NegatedExpression := g_NegatedExpression; have ng_Variable := g_Variable
  walk_at "B"
  dsimp only [List.cons_append, List.nil_append] at C
  kd_p1
  refine Assign_Comp (cl := [("names", L+1)]) rfl (by exact rfl) ?_
  kd_p1
  rename_i C
  refine tailTs (a := 2) C (.head _) (by kd_in) (by decide) (by simp) (by simp) fun tp s1 C => ?_
  walk_at "zC"
  simp only [List.drop_succ_cons, List.drop_zero] at C
  refine iterT C (.head _) fun it s2 C => ?_
  let __F : List Fact := .ob tp (tupObj [.int q.2.2.1 t2, .int q.2.2.2 t3]) :: .li nl nvs :: .l nvs (nmT.map .str) :: .ob p (tupObj [.int q.1 t0, .int q.2.1 t1, .int q.2.2.1 t2, .int q.2.2.2 t3]) :: fs
  let __c : List Cell := .ns L [("part", .ref p)] :: cvC (L + 1) (.ref nl) :: cs
  let __I : Nat → List Value → List Cell → List Fact → Prop := LC __c __F fun i => (([nmE q.2.2.1.toNat, nmE q.2.2.2.toNat] : List E).take i).map .e
  refine compW (n := 2) (I := __I) (drwT (vs := [.int q.2.2.1 t2, .int q.2.2.2 t3]) r'.hand) ?_ (by decide) ⟨rfl, (by walk_at "w"), .head _⟩ C.nilL ?_ ?_
  · intro i ys cs' fs' hI
    obtain ⟨hc, hf, hy⟩ := hI
    rw [hc]
    exact ⟨hf _ (.head _), _, .head _⟩
  · intro i v ys L2 m acc cs' fs' s5 E5 hi hv hI C
    walk_at "k"
    obtain ⟨hc, hf, hy⟩ := hI
    replace C := C.eq3 hc
    obtain ⟨x, tx, rfl, hx0, hx3, hxe⟩ : ∃ x tx, v = .int x tx ∧ 0 ≤ x ∧ x < 3 ∧ ([nmE q.2.2.1.toNat, nmE q.2.2.2.toNat] : List E)[i]? = some (nmE x.toNat) := by
      match i, hi with
      | 0, _ => cases hv; exact ⟨_, _, rfl, hq.2.2.1.1, hq.2.2.1.2, rfl⟩
      | 1, _ => cases hv; exact ⟨_, _, rfl, hq.2.2.2.1, hq.2.2.2.2, rfl⟩
    obtain ⟨n, e1, e2, e3⟩ := nm_ok (k := x.toNat) (toN (k := 3) hx0 hx3)
    obtain ⟨nv, hnv, C⟩ := C.at_ (k := x.toNat) (a := .str n) (hf _ (by kd_in)) (by rw [List.getElem?_map, e1]; rfl)
    obtain ⟨tn, rfl⟩ := C.strOf (.head _)
    refine lotR ?_
    kd_p1
    refine wpAny_tests_nil ?_
    kd_p1
    rename_i C
    refine tailL C (.inr (.tail _ (hf _ (by kd_in)))) hx0 (by kd_p) hnv ?_
    kd_p1
    rename_i C
    refine mk_Var C (r'.le (by kd_p)) fun va s6 C => ?_
    kd_p1
    rename_i C
    refine call_VE C (r'.le (by kd_p)) (.head _) e2 e3 fun ea s7 C => ?_
    replace C := C.snoc (vs := ys) (.tail _ (.tail _ (.tail _ hy))) (.head _)
    refine ⟨_, _, _, ⟨rfl, (by intro f k; have := hf f k; kd_in), ?_⟩, C⟩
    rw [List.take_add_one, hxe, List.map_append]
    exact .head _
  · intro ys acc L2 m cs' fs' s5 hy2 hI C
    walk_at "k"
    obtain ⟨hc, hf, hy⟩ := hI
    rw [hc] at C
    kd_p1
    refine stL (L := L) C (.tail (.tail .head)) fun s6 C => ⟨m, _, fs', _, .head _, C, fun s7 C => ?_⟩
    have hp2 := hf _ (.tail _ (.tail _ (.tail _ (.head _))))
    have hfs : ∀ f ∈ fs, f ∈ fs' := fun f k => hf f (.tail _ (.tail _ (.tail _ (.tail _ k))))
    obtain ⟨a0, a1, hys, C⟩ := C.twoE (x := nmE q.2.2.1.toNat) (y := nmE q.2.2.2.toNat) hy
    subst hys
    kd_p1
    cases h0 : (q.2.1 == (0 : Int)) with
    | true =>
      have hq0 : q.2.1 = 0 := by simpa using h0
      have hgt : decide ((0 : Int) < q.2.1) = false := decide_eq_false (by kd_p)
      kd_p1
      rename_i C
      refine mk_Var C (r'.le (by kd_p)) fun va s8 C => ?_
      kd_p1
      rename_i C
      refine call_VE C (r'.le (by kd_p)) (.head _) dog_ok.1 dog_ok.2 fun ea s9 C => ?_
      kd_p1
      rename_i C
      refine mk_App (x1 := .con "dog") (x2 := nmE q.2.2.1.toNat) C (r'.le (by kd_p)) (.head _) (by kd_in) fun m1 s10 C => ?_
      kd_p1
      rw [hgt]
      kd_p1
      cases h1 : (q.1 == (1 : Int)) with
      | true =>
        have e1 : partE q = .neg (.app (.con "dog") (nmE q.2.2.1.toNat)) := by
          unfold partE atomP
          rw [if_pos (by simpa using h1), if_pos hq0]
        kd_p1
        rename_i C
        refine mk_Neg (x1 := .app (.con "dog") (nmE q.2.2.1.toNat)) C (r'.le (by kd_p)) (by kd_in) fun m2 s11 C => ?_
        kd_p1
        exact h m2 _ s11 (fun f k => .tail _ (hfs f k)) ((C.weakC (cs' := cs) (by walk_at "s")).weakF (fs' := .v (.ref m2) (.e (partE q)) :: .v (.ref m2) (.e (partE q)) :: fs') (by rw [e1]; walk_at "w"))
      | false =>
        have e1 : partE q = .app (.con "dog") (nmE q.2.2.1.toNat) := by
          unfold partE atomP
          rw [if_neg (by simpa using h1), if_pos hq0]
        kd_p1
        rename_i C
        exact h _ _ _ (fun f k => .tail _ (hfs f k)) ((C.weakC (cs' := cs) (by walk_at "s")).weakF (fs' := .v (.ref m1) (.e (partE q)) :: .v (.ref m1) (.e (partE q)) :: fs') (by rw [e1]; walk_at "w"))
    | false =>
      have hq0 : q.2.1 ≠ 0 := by simpa using h0
      have hgt : decide ((0 : Int) < q.2.1) = true := decide_eq_true (by have := hq.2.1.1; kd_p)
      kd_p1
      rename_i C
      refine mk_Var C (r'.le (by kd_p)) fun va s8 C => ?_
      kd_p1
      rename_i C
      refine call_VE C (r'.le (by kd_p)) (.head _) sees_ok.1 sees_ok.2 fun ea s9 C => ?_
      kd_p1
      rename_i C
      refine mk_App (x1 := .con "sees") (x2 := nmE q.2.2.1.toNat) C (r'.le (by kd_p)) (.head _) (by kd_in) fun m1 s10 C => ?_
      kd_p1
      rw [hgt]
      kd_p1
      rename_i C
      refine mk_App (x1 := .app (.con "sees") (nmE q.2.2.1.toNat)) (x2 := nmE q.2.2.2.toNat) C (r'.le (by kd_p)) (by kd_in) (by kd_in) fun m3 s12 C => ?_
      kd_p1
      cases h1 : (q.1 == (1 : Int)) with
      | true =>
        have e1 : partE q = .neg (.app (.app (.con "sees") (nmE q.2.2.1.toNat)) (nmE q.2.2.2.toNat)) := by
          unfold partE atomP
          rw [if_pos (by simpa using h1), if_neg hq0]
        kd_p1
        rename_i C
        refine mk_Neg (x1 := .app (.app (.con "sees") (nmE q.2.2.1.toNat)) (nmE q.2.2.2.toNat)) C (r'.le (by kd_p)) (by kd_in) fun m2 s11 C => ?_
        kd_p1
        exact h m2 _ s11 (fun f k => .tail _ (hfs f k)) ((C.weakC (cs' := cs) (by walk_at "s")).weakF (fs' := .v (.ref m2) (.e (partE q)) :: .v (.ref m2) (.e (partE q)) :: fs') (by rw [e1]; walk_at "w"))
      | false =>
        have e1 : partE q = .app (.app (.con "sees") (nmE q.2.2.1.toNat)) (nmE q.2.2.2.toNat) := by
          unfold partE atomP
          rw [if_neg (by simpa using h1), if_neg hq0]
        kd_p1
        rename_i C
        exact h _ _ _ (fun f k => .tail _ (hfs f k)) ((C.weakC (cs' := cs) (by walk_at "s")).weakF (fs' := .v (.ref m3) (.e (partE q)) :: .v (.ref m3) (.e (partE q)) :: fs') (by rw [e1]; walk_at "w"))
end
noncomputable def vN (k : Nat) : Str := match k with | 0 => "x" | _ => "y"
noncomputable def qE (b : Bool) (x : Str) (t : E) : E := if b then .all x t else .ex x t
noncomputable def wrapE : Nat → List Bool → E → E
  | _, [], e => e
  | k, h :: hs, e => qE h (vN k) (wrapE (k + 1) hs e)
noncomputable def signE (k : Nat) (a b : E) : E := match k with | 0 => a | 1 => .and a b | 2 => .or a b | _ => .imp a b
noncomputable def bodyD (D : Drawn) : E := signE D.sign ((D.parts.map partE).getD 0 (.con "")) ((D.parts.map partE).getD 1 (.con ""))
noncomputable def formE (D : Drawn) : E := wrapE 0 D.heads (bodyD D)
structure DrawnOk (D : Drawn) : Prop where
  hd : D.heads.length ≤ 2
  sg : D.sign < 4
  pl : D.parts.length = if D.sign = 0 then 1 else 2
  pt : ∀ p ∈ D.parts, PartOk p
theorem fmod_in {c m : Int} (h : 0 < m) : 0 ≤ c.fmod m ∧ c.fmod m < m := ⟨Int.fmod_nonneg_of_pos c h, Int.fmod_lt_of_pos c h⟩
theorem partsS_ok {many : Int} (h0 : 0 < many) (h3 : many ≤ 3) : ∀ {n : Nat} {c : Int}, (partsS many n c).1.length = n ∧ ∀ p ∈ (partsS many n c).1, PartOk p
  | 0, _ => ⟨rfl, fun p hp => by cases hp⟩
  | n + 1, c => by
    obtain ⟨h1, h2⟩ := @partsS_ok many h0 h3 n c
    refine ⟨by simp [partsS, h1], fun p hp => ?_⟩
    rcases List.mem_append.mp hp with hp | hp
    · exact h2 p hp
    · rw [List.mem_singleton.mp hp]
      have z3 := @fmod_in (((partsS many n c).2.fdiv 2).fdiv 3) many h0
      have z4 := @fmod_in ((((partsS many n c).2.fdiv 2).fdiv 3).fdiv many) many h0
      exact ⟨fmod_in (by decide), fmod_in (by decide), ⟨z3.1, Int.lt_of_lt_of_le z3.2 h3⟩, ⟨z4.1, Int.lt_of_lt_of_le z4.2 h3⟩⟩
theorem headsTab_len (i : Nat) : (headsTab.getD i []).length ≤ 2 := by
  match i with
  | 0 => decide
  | 1 => decide
  | 2 => decide
  | 3 => decide
  | 4 => decide
  | 5 => decide
  | 6 => decide
  | i + 7 => exact Nat.zero_le _
theorem drawnP_ok {c most : Int} : DrawnOk (drawnP c most) := by
  have h4 := @fmod_in (c.fdiv most) 4 (by decide)
  have hl := headsTab_len (c.fmod most).toNat
  obtain ⟨p1, p2⟩ := @partsS_ok (1 + ((headsTab.getD (c.fmod most).toNat []).length : Int)) (by kd_p) (by kd_p) (if ((c.fdiv most).fmod 4).toNat = 0 then 1 else 2) ((c.fdiv most).fdiv 4)
  exact ⟨hl, toN (k := 4) h4.1 h4.2, p1, p2⟩
section
variable {w : World} {S₀ s : Shared} {cs cs' : List Cell} {fs : List Fact} {A : Around} {E' : Value → Shared → Prop} {Q : Value → Shared → Prop} {env : Env} {R : Result → Shared → Prop}
theorem asT3 {t1 t2 t3 : Expr} {k : Nat} {pos : Pos} {p : Addr} {u v z : Value} {Q : Unit → Shared → Prop} {d : Cell} (C : St w S₀ cs fs s) (hd : d ∈ cs) (hh : A.handled = none) (ho : Fact.ob p (tupObj [u, v, z]) ∈ fs)
    (he : assignEach [t1, t2, t3] env = [(false, assign t1 env), (false, assign t2 env), (false, assign t3 env)])
    (h : ∀ s', St w S₀ cs fs s' → wpAny (model pw w) A (assign t1 env u) (fun _ s₁ => wpAny (model pw w) A (assign t2 env v) (fun _ s₂ => wpAny (model pw w) A (assign t3 env z) (fun _ s₃ => Q () s₃) E' s₂) E' s₁) E' s') :
    wpAny (model pw w) A (assign (.Tuple [t1, t2, t3] k pos) env (.ref p)) Q E' s := by
  refine wpAny_assign_Tuple hh (items := #[u, v, z]) ⟨_, C.obj ho, rfl, 0, rfl⟩ (by rw [he]; rfl) (by rw [he]; rfl) fun h₃ hx₃ => ?_
  have C3 := C.extGrow (tk := s.toks) hd hx₃
  rw [he]
  show wpAny _ A (do holding [v, z] (assign t1 env u); do holding [z] (assign t2 env v); do holding [] (assign t3 env z); pure ()) _ _ _
  refine wpAny_bind (wpAny_holding (wpAny_mono (h _ C3) (fun _ s₁ h₁ => ?_) fun _ _ e => e))
  refine wpAny_bind (wpAny_holding (wpAny_mono h₁ (fun _ s₂ h₂ => ?_) fun _ _ e => e))
  exact wpAny_bind (wpAny_holding (wpAny_mono h₂ (fun _ s₂ h₂ => wpAny_pure h₂) fun _ _ e => e))
inductive ODrawn (w : World) (S₀ : Shared) (cs : List Cell) (fs : List Fact) (s : Shared) (d : Addr) (D : Drawn) : Prop | mk (ha : Addr) (hvs : List Value) (ts : Tok) (pa : Addr) (pvs : List Value) (C : St w S₀ cs (.ob d (tupObj [.ref ha, .str (sgS D.sign) ts, .ref pa]) :: .li ha hvs :: .l hvs (D.heads.map fun b => .str (hS b)) :: .li pa pvs :: .l pvs (D.parts.map partAV) :: fs) s)
theorem St.openDrawn {d : Addr} {D : Drawn} (C : St w S₀ cs fs s) (h : Fact.v (.ref d) (drawnAV D) ∈ fs) : ODrawn w S₀ cs fs s d D := by
  obtain ⟨g, X, Y⟩ := C
  obtain ⟨a, vs, e, h1, kk0⟩ := relTup (Y _ h)
  cases e
  obtain ⟨v0, r, rfl, k0, kk1⟩ := relCons kk0
  obtain ⟨ha, hvs, rfl, y1, y2⟩ := relLst k0
  obtain ⟨v1, r, rfl, k0, kk2⟩ := relCons kk1
  obtain ⟨ts, rfl⟩ := relStr k0
  obtain ⟨v2, r, rfl, k0, kk3⟩ := relCons kk2
  obtain ⟨pa, pvs, rfl, y3, y4⟩ := relLst k0
  cases relNil kk3
  exact ⟨ha, hvs, ts, pa, pvs, g, X, fun f hf => (List.mem_cons.mp hf).elim (fun q => q ▸ h1) fun hf => (List.mem_cons.mp hf).elim (fun q => q ▸ y1) fun hf => (List.mem_cons.mp hf).elim (fun q => q ▸ y2) fun hf => (List.mem_cons.mp hf).elim (fun q => q ▸ y3) fun hf => (List.mem_cons.mp hf).elim (fun q => q ▸ y4) (Y f)⟩
theorem callRange3 {a b c : Int} {t u v : Tok} (C : St w S₀ cs fs s) (hc : c ≠ 0) (hc2 : c.natAbs < 1000) (h : ∀ r s', St w S₀ cs (.ob r (rgObj a b c t u v) :: fs) s' → Q (.ref r) s') : wpAny (model pw w) A (call (.type "range") [.int a t, .int b u, .int c v]) Q E' s :=
  call_range_3 hc (h _ _ (C.pushF (rgObj a b c t u v) rfl (tk := s.toks))) (.inl (PyProof.noPylong_small (by kd_p)))
theorem negI {a : Int} {t : Tok} (C : St w S₀ cs fs s) (h : ∀ t s', St w S₀ cs fs s' → Q (.int (-a) t) s') : wpAny (model pw w) A (unaryOp .USub (.int a t)) Q E' s := PyProof.Rows.neg_int (h _ _ C.tick)
theorem vN_get {j : Nat} (h : j < 2) : (["x", "y"] : List Str).getD ((j : Int)).toNat "" = vN j := by
  rw [Int.toNat_natCast]
  match j, h with
  | 0, _ => rfl
  | 1, _ => rfl
theorem small3 {n : Nat} (h : n ≤ 2) : Builtin.Range.small ((n : Int) - 1) (-1) (-1) = true := by
  rcases (by kd_p : n = 0 ∨ n = 1 ∨ n = 2) with e | e | e <;> rw [e] <;> decide
theorem size3 {n : Nat} (h : n ≤ 2) : Builtin.Range.rangeSize ((n : Int) - 1) (-1) (-1) = n := by
  rcases (by kd_p : n = 0 ∨ n = 1 ∨ n = 2) with e | e | e <;> rw [e] <;> decide
theorem St.optM {L : Addr} {a : Cell} {m : List (Str × Value)} {T : List Cell} {p : List (Str × Value) → Prop} {G : Prop} (C : St w S₀ (a :: .ns L m :: T) fs s) (hp : p m) (k : ∀ m, p m → St w S₀ (a :: .ns L m :: T) fs s → G) : G := k m hp C
inductive LF1 (w : World) (S₀ : Shared) (L acc ha : Addr) (D : Drawn) (ts : Tok) (F : List Fact) (cs : List Cell) (s : Shared) : Prop
  | mk (x0 : Addr) (e0 : E) (xr : List Value) (m1 : List (Str × Value)) (fs2 : List Fact) (h0 : (D.parts.map partE).getD 0 (.con "") = e0) (hf : ∀ f ∈ F, f ∈ fs2) (h1 : Fact.v (.ref x0) (.e e0) ∈ fs2) (k1 : m1.lookup ("made" : Str) = some (.ref x0)) (k2 : m1.lookup ("rows" : Str) = some (.ref acc)) (k3 : m1.lookup ("sign" : Str) = some (.str (sgS D.sign) ts)) (k4 : m1.lookup ("heads" : Str) = some (.ref ha))
    (hx1 : ∀ x1 xr2, xr = .ref x1 :: xr2 → Fact.v (.ref x1) (.e ((D.parts.map partE).getD 1 (.con ""))) ∈ fs2) (hxr : D.sign ≠ 0 → ∃ x1 xr2, xr = .ref x1 :: xr2) (C : St w S₀ (.li acc (.ref x0 :: xr) :: .ns L m1 :: cs) fs2 s)
inductive LF2 (w : World) (S₀ : Shared) (L ha : Addr) (e : E) (F : List Fact) (a0 : Cell) (cs : List Cell) (s : Shared) : Prop
  | mk (bd : Addr) (m2 : List (Str × Value)) (fs3 : List Fact) (hf : ∀ f ∈ F, f ∈ fs3) (hbd : Fact.v (.ref bd) (.e e) ∈ fs3) (k1 : m2.lookup ("made" : Str) = some (.ref bd)) (k2 : m2.lookup ("heads" : Str) = some (.ref ha)) (C : St w S₀ (a0 :: .ns L m2 :: cs) fs3 s)
inductive LF3 (L ha : Addr) (a0 : Cell) (cs : List Cell) (F : List Fact) (g : Nat → E) (i : Nat) (cs' : List Cell) (fs' : List Fact) : Prop
  | mk (m : List (Str × Value)) (mk : Addr) (hc : cs' = a0 :: .ns L m :: cs) (hf : ∀ f ∈ F, f ∈ fs') (k1 : m.lookup ("made" : Str) = some (.ref mk)) (k2 : m.lookup ("heads" : Str) = some (.ref ha)) (he : Fact.v (.ref mk) (.e (g i)) ∈ fs')
theorem call_form {d : Addr} {D : Drawn} (C : St w S₀ cs fs s) (r : Room A 24) (hd : Fact.v (.ref d) (drawnAV D) ∈ fs) (hD : DrawnOk D)
    (h : ∀ a fs' s', (∀ f ∈ fs, f ∈ fs') → St w S₀ cs (.v (.ref a) (.e (formE D)) :: fs') s' → Q (.ref a) s') : wpAny (model pw w) A (call (.ref 1482) [.ref d]) Q E' s := by
  obtain ⟨ha, hvs, ts, pa, pvs, C⟩ := C.openDrawn hd
  refine wpAny_call (callF (n := 23) (binds := [("drawn", .ref d)]) ok1482 C r (binds0 (by kernel_rfl)) (by kernel_rfl) (by kernel_rfl) fun L A' s' r' C => ?_)
  have nb_range := b_range; have ng__law_part := g__law_part; have ng_AndExpression := g_AndExpression; have ng_Variable := g_Variable; have ng_OrExpression := g_OrExpression; have nb_len := b_len; have ng_AllExpression := g_AllExpression; have ng_ExistsExpression := g_ExistsExpression; have ng_ImpExpression := g_ImpExpression
  walk_at "B"
  kd_p1
  rename_i C
  refine asT3 C (.head _) r'.hand (.head _) rfl fun s1 C => ?_
  kd_p1
  refine Assign_Comp (cl := []) rfl (by exact rfl) ?_
  kd_p1
  rename_i it s2 C
  have hvl := C.len (.tail _ (.tail _ (.head _)))
  have hpl := C.len (.tail _ (.tail _ (.tail _ (.tail _ (.head _)))))
  rw [List.length_map] at hvl hpl
  have hp12 : D.parts.length = if D.sign = 0 then 1 else 2 := hD.pl
  refine St.optM C (p := fun m => m.lookup ("sign" : Str) = some (.str (sgS D.sign) ts) ∧ m.lookup ("heads" : Str) = some (.ref ha)) ⟨by exact rfl, by exact rfl⟩ fun m0 hm C => ?_
  obtain ⟨hms, hmh⟩ := hm
  let __F : List Fact := .ob d (tupObj [.ref ha, .str (sgS D.sign) ts, .ref pa]) :: .li ha hvs :: .l hvs (D.heads.map fun b => .str (hS b)) :: .li pa pvs :: .l pvs (D.parts.map partAV) :: fs
  let __c : List Cell := .ns L m0 :: cs
  let __I : Nat → List Value → List Cell → List Fact → Prop := LC __c __F fun i => ((D.parts.map partE).take i).map .e
  refine compW (n := pvs.length) (I := __I)
    (drwL (l := pa) (vs := pvs) r'.hand) ?_ (by rw [hpl, hp12]; split <;> decide) ⟨rfl, (by walk_at "w"), .head _⟩ C.nilL ?_ ?_
  · intro i ys cs' fs' hI
    obtain ⟨hc, hf, hy⟩ := hI
    rw [hc]
    exact ⟨.inr (hf _ (by kd_in)), _, .head _⟩
  · intro i v ys L2 m acc cs' fs' s5 E5 hi hv hI C
    walk_at "k"
    obtain ⟨hc, hf, hy⟩ := hI
    replace C := C.eq3 hc
    have hpq : ∃ q, D.parts[i]? = some q := ⟨_, List.getElem?_eq_getElem (by kd_p)⟩
    obtain ⟨q, hq⟩ := hpq
    have hqm := hD.pt q (List.mem_of_getElem? hq)
    replace C := C.item (hf (.l pvs (D.parts.map partAV)) (by kd_in)) hv (a := partAV q) (by rw [List.getElem?_map, hq]; rfl)
    obtain ⟨pq, _, rfl, _⟩ := C.openTup (.head _)
    refine lotL C (.tail _ (.tail _ (.head _))) ?_
    kd_p1
    refine wpAny_tests_nil ?_
    kd_p1
    rename_i C
    replace C := C.frz (nmT.map .str) fun g Y => relL1 relVs (relL1 relVs (relL1 relVs relL0))
    refine call_part C (r'.le (by kd_p)) (by kd_in) (.head _) hqm fun a fs2 s6 f2 C => ?_
    replace C := C.snoc (vs := ys) (as := ((D.parts.map partE).take i).map .e) (.tail _ (f2 _ (by kd_in))) (.head _)
    refine ⟨_, _, _, ⟨rfl, (by intro f k; have := f2 f (by have := hf f k; kd_in); kd_in), ?_⟩, C⟩
    rw [List.take_add_one, List.getElem?_map, hq, List.map_append]
    exact .head _
  · intro ys acc L2 m cs' fs' s5 hy2 hI C
    walk_at "k"
    obtain ⟨hc, hf, hy⟩ := hI
    rw [hc] at C
    rw [List.take_of_length_le (by rw [List.length_map]; kd_p)] at hy
    kd_p1
    refine stL (L := L) C (.tail (.tail .head)) fun s6 C => ⟨m, _, fs', _, .head _, C, fun s7 C => ?_⟩
    have hz : ys.length = D.parts.length := by have := C.len hy; simpa using this
    let __Q : Flow → Shared → Prop := fun f s1 => f = .next ∧ LF1 w S₀ L acc ha D ts fs' cs s1
    refine wpAny_execs_cons (wpAny_mono (Q := __Q) ?_ (fun f s1 hx => ?_) (fun _ _ e => e))
    · cases hps : D.parts with
      | nil => exfalso; rw [hps] at hp12; split at hp12 <;> cases hp12
      | cons q0 qr =>
        rw [hps] at hy hz
        obtain ⟨v0, yr, rfl, C⟩ := C.unconsL hy
        obtain ⟨x0, rfl⟩ := C.ref (x := partE q0) (.head _)
        cases hqr : qr with
        | nil =>
          have h0 : D.sign = 0 := by
            rw [hps, hqr] at hp12
            split at hp12
            · assumption
            · cases hp12
          walk_at "zC"
          rw [hqr] at C hz
          obtain rfl : yr = [] := List.eq_nil_of_length_eq_zero (by simpa using hz)
          kd_p1
          rename_i C
          exact ⟨x0, partE q0, [], (("made", .ref x0) :: ("rows", .ref acc) :: m0), _, by rw [hps]; rfl, (by walk_at "w"), .head _, rfl, rfl, hms, hmh, (fun x1 xr2 e => by cases e), (fun hn => absurd h0 hn), C⟩
        | cons q1 qs =>
          walk_at "zC"
          rw [hqr] at C hz
          obtain ⟨v1, yr, rfl, C⟩ := C.unconsL (.tail _ (.head _))
          obtain ⟨x1, rfl⟩ := C.ref (x := partE q1) (.head _)
          kd_p1
          rename_i C
          exact ⟨x0, partE q0, _, (("made", .ref x0) :: ("rows", .ref acc) :: m0), .v (.ref x1) (.e (partE q1)) :: .v (.ref x0) (.e (partE q0)) :: fs', by rw [hps]; rfl, (by walk_at "w"), (by kd_in), rfl, rfl, hms, hmh, (fun x1 xr2 e => by cases e; rw [hps, hqr]; exact .head _), (fun hn => ⟨x1, yr, rfl⟩), C.weakF (by walk_at "w")⟩
    · obtain ⟨rfl, hx⟩ := hx
      dsimp only
      obtain ⟨x0, e0, xr, m1, fs2, he0, f2, hx0, k1, k2, k3, k4, hx1, hxr, C⟩ := hx
      have hbody : bodyD D = signE D.sign e0 ((D.parts.map partE).getD 1 (.con "")) := by unfold bodyD; rw [he0]
      let __Q : Flow → Shared → Prop := fun f s1 => f = .next ∧ LF2 w S₀ L ha (bodyD D) fs2 (.li acc (.ref x0 :: xr)) cs s1
      refine wpAny_execs_cons (wpAny_mono (Q := __Q) ?_ (fun f s1 hx => ?_) (fun _ _ e => e))
      · have hsg := hD.sg
        rcases (by kd_p : D.sign = 0 ∨ D.sign = 1 ∨ D.sign = 2 ∨ D.sign = 3) with hs | hs | hs | hs
        · rw [hs] at k3
          change m1.lookup ("sign" : Str) = some (.str "one" ts) at k3
          kd_p1
          exact ⟨x0, m1, fs2, (fun f hf => hf), (by rw [hbody, hs]; exact hx0), k1, k4, by assumption⟩
        · obtain ⟨x1, xr2, rfl⟩ := hxr (by kd_p)
          have hx1 := hx1 x1 xr2 rfl
          rw [hs] at k3
          change m1.lookup ("sign" : Str) = some (.str "and" ts) at k3
          kd_p1
          rename_i C
          refine mk_And (x1 := e0) (x2 := (D.parts.map partE).getD 1 (.con "")) C (r'.le (by kd_p)) (by kd_in) (by kd_in) fun bd s8 C => ?_
          kd_p1
          rename_i C
          exact ⟨bd, ("made", .ref bd) :: m1, .v (.ref bd) (.e (bodyD D)) :: fs2, (by walk_at "w"), .head _, rfl, k4, by rw [hbody, hs]; exact C⟩
        · obtain ⟨x1, xr2, rfl⟩ := hxr (by kd_p)
          have hx1 := hx1 x1 xr2 rfl
          rw [hs] at k3
          change m1.lookup ("sign" : Str) = some (.str "or" ts) at k3
          kd_p1
          rename_i C
          refine mk_Or (x1 := e0) (x2 := (D.parts.map partE).getD 1 (.con "")) C (r'.le (by kd_p)) (by kd_in) (by kd_in) fun bd s8 C => ?_
          kd_p1
          rename_i C
          exact ⟨bd, ("made", .ref bd) :: m1, .v (.ref bd) (.e (bodyD D)) :: fs2, (by walk_at "w"), .head _, rfl, k4, by rw [hbody, hs]; exact C⟩
        · obtain ⟨x1, xr2, rfl⟩ := hxr (by kd_p)
          have hx1 := hx1 x1 xr2 rfl
          rw [hs] at k3
          change m1.lookup ("sign" : Str) = some (.str "if" ts) at k3
          kd_p1
          rename_i C
          refine mk_Imp (x1 := e0) (x2 := (D.parts.map partE).getD 1 (.con "")) C (r'.le (by kd_p)) (by kd_in) (by kd_in) fun bd s8 C => ?_
          kd_p1
          rename_i C
          exact ⟨bd, ("made", .ref bd) :: m1, .v (.ref bd) (.e (bodyD D)) :: fs2, (by walk_at "w"), .head _, rfl, k4, by rw [hbody, hs]; exact C⟩
      · obtain ⟨rfl, hx⟩ := hx
        dsimp only
        obtain ⟨bd, m2, fs3, f3, hbd, k1, k2, C⟩ := hx
        have hfa : ∀ f ∈ .ob d (tupObj [.ref ha, .str (sgS D.sign) ts, .ref pa]) :: .li ha hvs :: .l hvs (D.heads.map fun b => .str (hS b)) :: .li pa pvs :: .l pvs (D.parts.map partAV) :: fs, f ∈ fs3 := fun f k => f3 f (f2 f (hf f k))
        have hh1 : Fact.li ha hvs ∈ fs3 := hfa _ (by kd_in)
        have hh2 : Fact.l hvs (D.heads.map fun b => .str (hS b)) ∈ fs3 := hfa _ (by kd_in)
        have hhz : hvs.length ≤ 100000 := by have := hD.hd; kd_p
        kd_p1
        rename_i C
        refine negI C fun t1 s8 C => ?_
        kd_p1
        rename_i C
        refine negI C fun t2 s9 C => ?_
        kd_p1
        rename_i C
        refine callRange3 C (by decide) (by decide) fun rg s10 C => ?_
        have hv2 : hvs.length ≤ 2 := by have := hD.hd; kd_p
        refine iterR (n := hvs.length) C (.head _) (small3 hv2) (size3 hv2) fun it s11 C => ?_
        let __I : Nat → List Cell → List Fact → Prop := LF3 L ha (.li acc (.ref x0 :: xr)) cs fs3 fun i => wrapE (hvs.length - i) (D.heads.drop (hvs.length - i)) (bodyD D)
        refine forW (I := __I)
          (drwR r'.hand) ?_ ?_ C ?_ ?_
        · intro i cs' fs' hI
          obtain ⟨m, mk, hc, _⟩ := hI
          rw [hc]
          exact ⟨trivial, _, .head _⟩
        · refine ⟨m2, bd, rfl, (by walk_at "w"), k1, k2, ?_⟩
          rw [Nat.sub_zero, hvl, List.drop_length]
          exact .tail _ hbd
        · intro i v cs' fs' s12 E12 hi
          revert v
          refine turnR (x := ((hvs.length - (i + 1) : Nat) : Int)) (by kd_p) fun tk hI C => ?_
          walk_at "k"
          obtain ⟨m, mk, hc, hf4, hmk, hmh2, hme⟩ := hI
          replace C := C.eq1 hc
          have hlt : hvs.length - (i + 1) < D.heads.length := ar3 (by assumption) (by assumption)
          obtain ⟨hb, hhb⟩ : ∃ hb, D.heads[hvs.length - (i + 1)]? = some hb := ⟨_, List.getElem?_eq_getElem hlt⟩
          obtain ⟨hv, hhv, C⟩ := C.at_ (k := hvs.length - (i + 1)) (a := .str (hS hb)) (hf4 _ hh2) (by rw [List.getElem?_map, hhb]; rfl)
          obtain ⟨th, rfl⟩ := C.strOf (.head _)
          have hwr : wrapE (hvs.length - (i + 1)) (D.heads.drop (hvs.length - (i + 1))) (bodyD D) = qE hb (vN (hvs.length - (i + 1))) (wrapE (hvs.length - i) (D.heads.drop (hvs.length - i)) (bodyD D)) := by
            obtain ⟨h1, h2⟩ := List.getElem?_eq_some_iff.mp hhb
            rw [List.drop_eq_getElem_cons h1, h2, show hvs.length - i = hvs.length - (i + 1) + 1 from ar4 (by assumption)]
            rfl
          have hh1' := hf4 _ hh1
          refine lotR ?_
          kd_p1
          rename_i C
          refine tail_strs C ["x", "y"] (by kd_p) (by have := hD.hd; show _ < ((2 : Nat) : Int); kd_p) (by decide) (fun g Y => relL1 relVs (relL1 relVs relL0)) fun tn s13 C => ?_
          rw [vN_get (by have := hD.hd; kd_p)]
          kd_p1
          rename_i C
          refine mk_Var C (r'.le (by kd_p)) fun nm s14 C => ?_
          kd_p1
          rename_i C
          refine tailL C (.inr (by kd_in)) (by kd_p) (by kd_p) (by rw [Int.toNat_natCast]; exact hhv) ?_
          kd_p1
          cases hb with
          | true =>
            rw [show (hS true == ("all" : Str)) = true from rfl]
            kd_p1
            rename_i C
            refine mk_All C (r'.le (by kd_p)) (by kd_in) (show Fact.v (.ref mk) (.e (wrapE (hvs.length - i) (D.heads.drop (hvs.length - i)) (bodyD D))) ∈ _ by kd_in) fun m5 s15 C => ?_
            kd_p1
            rename_i C
            refine ⟨_, _, ⟨("made", .ref m5) :: ("name", .ref nm) :: ("k", .int ((hvs.length - (i + 1) : Nat) : Int) tk) :: m, m5, rfl, (by intro f k; have := hf4 f k; kd_in), rfl, hmh2, ?_⟩, C⟩
            rw [hwr]
            exact .head _
          | false =>
            rw [show (hS false == ("all" : Str)) = false from rfl]
            kd_p1
            rename_i C
            refine mk_Ex C (r'.le (by kd_p)) (by kd_in) (show Fact.v (.ref mk) (.e (wrapE (hvs.length - i) (D.heads.drop (hvs.length - i)) (bodyD D))) ∈ _ by kd_in) fun m5 s15 C => ?_
            kd_p1
            rename_i C
            refine ⟨_, _, ⟨("made", .ref m5) :: ("name", .ref nm) :: ("k", .int ((hvs.length - (i + 1) : Nat) : Int) tk) :: m, m5, rfl, (by intro f k; have := hf4 f k; kd_in), rfl, hmh2, ?_⟩, C⟩
            rw [hwr]
            exact .head _
        · intro cs' fs' s12 hI C
          walk_at "k"
          obtain ⟨m, mk, hc, hf4, hmk, hmh2, hme⟩ := hI
          rw [hc] at C
          rw [Nat.sub_self, List.drop_zero] at hme
          kd_p1
          rename_i C
          exact h mk fs' _ (fun f k => hf4 f (hfa f (by kd_in))) (((C.weakC (cs' := cs) (by walk_at "s")).fact fun g Y => Y _ hme))
end
noncomputable def leafD (bits : Int) (th : List Int) (p : Int × Int × Int × Int) : Bool :=
  let digit := if p.2.1 = 0 then th.getD p.2.2.1.toNat 0 else 2 + 2 * th.getD p.2.2.1.toNat 0 + th.getD p.2.2.2.toNat 0
  (((bits.fdiv (2 ^ digit.toNat)).fmod 2 == 1) == (p.1 == 0))
noncomputable def signB (k : Nat) (a b : Bool) : Bool := match k with | 0 => a | 1 => a && b | 2 => a || b | _ => b || !a
noncomputable def leafP (D : Drawn) (bits : Int) (th : List Int) : Bool :=
  signB D.sign ((D.parts.map (leafD bits th)).getD 0 false) ((D.parts.map (leafD bits th)).getD 1 false)
noncomputable def truP (D : Drawn) (n : Nat) (bits : Int) : List Bool → List Int → Bool
  | [], th => leafP D bits th
  | h :: hs, th => if h then ((List.range n).map fun (x : Nat) => truP D n bits hs (th ++ [(x : Int)])).all id else ((List.range n).map fun (x : Nat) => truP D n bits hs (th ++ [(x : Int)])).any id
section
variable {w : World} {S₀ s : Shared} {cs cs' : List Cell} {fs : List Fact} {A : Around} {E' : Value → Shared → Prop} {Q : Value → Shared → Prop} {env : Env} {R : Result → Shared → Prop}
theorem allB {l : Addr} {bs : List Bool} {d : Cell} (C : St w S₀ cs fs s) (hh : A.handled = none) (hd : d ∈ cs) (hl : Cell.li l (bs.map .bool) ∈ cs ∨ Fact.li l (bs.map .bool) ∈ fs) (h : ∀ s', St w S₀ cs fs s' → Q (.bool (bs.all id)) s') : wpAny (model pw w) A (call (.builtin "all") [.ref l]) Q E' s := by
  have hL := (C.plain hl).isList
  have hlt : l < s.heap.objs.size := by obtain ⟨_, e, _⟩ := hL; exact Heap.lt_size e
  refine call_all_walk (wpAny_pyIter_list hL ?_)
  refine ⟨s.heap.objs.size, [s.heap.objs.size, l], [s.heap.objs.size], (bs.map Value.bool).toArray.size, _, _, fun i => (bs[i]?).getD true, rfl, Walks.list (A := A.in1) hh _ l (Nat.ne_of_lt hlt) _,
    ⟨⟨_, Heap.get?_push_size _ rfl, rfl, rfl⟩, hL.push _⟩, fun i v s' Q' E' hP hQ => ?_, fun h' tk hk => ?_⟩
  · have hP' : (bs.map Value.bool)[i]? = some v := by simpa using hP
    rw [List.getElem?_map, Option.map_eq_some_iff] at hP'
    obtain ⟨b, e, rfl⟩ := hP'
    dsimp only at hQ
    rw [e] at hQ
    exact wpAny_truthy_bool hQ
  · have e : ((List.range (bs.map Value.bool).toArray.size).all fun i => (bs[i]?).getD true) = bs.all id := by
      rw [List.size_toArray, List.length_map]; exact LSm.range_all bs
    rw [e]
    exact h _ (C.extGrow (tk := tk) hd fun a o hne e => hk a o (fun hm => hne (List.mem_singleton.mp hm)) (Heap.get?_push_of_some _ e))
theorem anyB {l : Addr} {bs : List Bool} {d : Cell} (C : St w S₀ cs fs s) (hh : A.handled = none) (hd : d ∈ cs) (hl : Cell.li l (bs.map .bool) ∈ cs ∨ Fact.li l (bs.map .bool) ∈ fs) (h : ∀ s', St w S₀ cs fs s' → Q (.bool (bs.any id)) s') : wpAny (model pw w) A (call (.builtin "any") [.ref l]) Q E' s := by
  have hL := (C.plain hl).isList
  have hlt : l < s.heap.objs.size := by obtain ⟨_, e, _⟩ := hL; exact Heap.lt_size e
  refine call_any_walk (wpAny_pyIter_list hL ?_)
  refine ⟨s.heap.objs.size, [s.heap.objs.size, l], [s.heap.objs.size], (bs.map Value.bool).toArray.size, _, _, fun i => (bs[i]?).getD false, rfl, Walks.list (A := A.in1) hh _ l (Nat.ne_of_lt hlt) _,
    ⟨⟨_, Heap.get?_push_size _ rfl, rfl, rfl⟩, hL.push _⟩, fun i v s' Q' E' hP hQ => ?_, fun h' tk hk => ?_⟩
  · have hP' : (bs.map Value.bool)[i]? = some v := by simpa using hP
    rw [List.getElem?_map, Option.map_eq_some_iff] at hP'
    obtain ⟨b, e, rfl⟩ := hP'
    dsimp only at hQ
    rw [e] at hQ
    exact wpAny_truthy_bool hQ
  · have e : ((List.range (bs.map Value.bool).toArray.size).any fun i => (bs[i]?).getD false) = bs.any id := by
      rw [List.size_toArray, List.length_map]; exact LSm.range_any bs
    rw [e]
    exact h _ (C.extGrow (tk := tk) hd fun a o hne e => hk a o (fun hm => hne (List.mem_singleton.mp hm)) (Heap.get?_push_of_some _ e))
theorem addL {l b : Addr} {vs ws : List Value} (C : St w S₀ cs fs s) (hl : Cell.li l vs ∈ cs ∨ Fact.li l vs ∈ fs) (hb : Cell.li b ws ∈ cs ∨ Fact.li b ws ∈ fs) (hz : vs.length + ws.length ≤ 1000) (h : ∀ q s', St w S₀ (.li q (vs ++ ws) :: cs) fs s' → Q (.ref q) s') :
    wpAny (model pw w) A (binaryOp .Add (.ref l) (.ref b)) Q E' s := by
  obtain ⟨n1, e1⟩ := C.plain hl
  obtain ⟨n2, e2⟩ := C.plain hb
  refine P.add_list e1 e2 ?_ (Nat.le_trans (by rw [List.size_toArray, List.size_toArray]; exact hz) (by decide))
  have e : vs.toArray ++ ws.toArray = (vs ++ ws).toArray := by simp
  rw [e]
  exact h _ _ (C.pushC (.li s.heap.objs.size (vs ++ ws)) _ rfl ⟨_, Heap.get?_push_size _ rfl⟩ (tk := s.toks))
theorem asT4 {t1 t2 t3 t4 : Expr} {k : Nat} {pos : Pos} {p : Addr} {u v z y : Value} {Q : Unit → Shared → Prop} {d : Cell} (C : St w S₀ cs fs s) (hd : d ∈ cs) (hh : A.handled = none) (ho : Fact.ob p (tupObj [u, v, z, y]) ∈ fs)
    (he : assignEach [t1, t2, t3, t4] env = [(false, assign t1 env), (false, assign t2 env), (false, assign t3 env), (false, assign t4 env)])
    (h : ∀ s', St w S₀ cs fs s' → wpAny (model pw w) A (assign t1 env u) (fun _ s₁ => wpAny (model pw w) A (assign t2 env v) (fun _ s₂ => wpAny (model pw w) A (assign t3 env z) (fun _ s₃ => wpAny (model pw w) A (assign t4 env y) (fun _ s₄ => Q () s₄) E' s₃) E' s₂) E' s₁) E' s') :
    wpAny (model pw w) A (assign (.Tuple [t1, t2, t3, t4] k pos) env (.ref p)) Q E' s := by
  refine wpAny_assign_Tuple hh (items := #[u, v, z, y]) ⟨_, C.obj ho, rfl, 0, rfl⟩ (by rw [he]; rfl) (by rw [he]; rfl) fun h₃ hx₃ => ?_
  have C3 := C.extGrow (tk := s.toks) hd hx₃
  rw [he]
  show wpAny _ A (do holding [v, z, y] (assign t1 env u); do holding [z, y] (assign t2 env v); do holding [y] (assign t3 env z); do holding [] (assign t4 env y); pure ()) _ _ _
  refine wpAny_bind (wpAny_holding (wpAny_mono (h _ C3) (fun _ s₁ h₁ => ?_) fun _ _ e => e))
  refine wpAny_bind (wpAny_holding (wpAny_mono h₁ (fun _ s₂ h₂ => ?_) fun _ _ e => e))
  refine wpAny_bind (wpAny_holding (wpAny_mono h₂ (fun _ s₂ h₂ => ?_) fun _ _ e => e))
  exact wpAny_bind (wpAny_holding (wpAny_mono h₂ (fun _ s₂ h₂ => wpAny_pure h₂) fun _ _ e => e))
theorem leI {a b : Int} {t u : Tok} (h : Q (.bool (decide (a ≤ b))) s) : wpAny (model pw w) A (compareOp .LtE (.int a t) (.int b u)) Q E' s := PyProof.Rows.le_int h
end
section
variable {w : World} {S₀ s : Shared} {cs cs' : List Cell} {fs : List Fact} {A : Around} {E' : Value → Shared → Prop} {Q : Value → Shared → Prop} {env : Env} {R : Result → Shared → Prop}
structure TruOk (D : Drawn) : Prop where
  ok : DrawnOk D
  bd : ∀ p ∈ D.parts, p.2.2.1 < 1 + (D.heads.length : Int) ∧ p.2.2.2 < 1 + (D.heads.length : Int)
theorem len1 {α : Type} {l : List α} (h : l.length = 1) : ∃ a, l = [a] := by
  match l, h with
  | [a], _ => exact ⟨a, rfl⟩
theorem pow_sm {j : Nat} (h : j ≤ 5) : SmallP ((2 : Int) ^ j) :=
  (by decide : ∀ j : Fin 6, (0 : Int) < 2 ^ j.val ∧ (2 : Int) ^ j.val < 1000000) ⟨j, Nat.lt_succ_of_le h⟩
inductive LV (L fnd : Addr) (sg : Value) (g : Nat → List Value) (R : List Cell) (F : List Fact) (i : Nat) (cs' : List Cell) (fs' : List Fact) : Prop
  | mk (m : List (Str × Value)) (hc : cs' = .li fnd (g i) :: .ns L m :: R) (hf : ∀ f ∈ F, f ∈ fs') (k1 : m.lookup ("found" : Str) = some (.ref fnd)) (k2 : m.lookup ("sign" : Str) = some sg)
inductive LVQ (w : World) (S₀ : Shared) (L fnd : Addr) (sg ng : Value) (dg : Int) (a b : Cell) (R : List Cell) (F : List Fact) (s : Shared) : Prop
  | mk (ud : Tok) (m : List (Str × Value)) (k1 : m.lookup ("digit" : Str) = some (.int dg ud)) (k2 : m.lookup ("found" : Str) = some (.ref fnd)) (k3 : m.lookup ("sign" : Str) = some sg) (k4 : m.lookup ("negated" : Str) = some ng) (C : St w S₀ (a :: b :: .ns L m :: R) F s)
theorem leaf_tru {d wd tl : Addr} {D : Drawn} {n : Nat} {bits : Int} {t1 t2 : Tok} {th : List Int} {tvs : List Value} (hD : TruOk D) (C : St w S₀ cs fs s) (r : Room A 6) (hd : Fact.v (.ref d) (drawnAV D) ∈ fs) (hw : Fact.ob wd (tupObj [.int n t1, .int bits t2]) ∈ fs) (hl : Fact.li tl tvs ∈ fs) (hv : Fact.l tvs (th.map .int) ∈ fs)
    (hth : th.length = 1 + D.heads.length) (hr : ∀ x ∈ th, 0 ≤ x ∧ x < 2) (h : ∀ fs' s', (∀ f ∈ fs, f ∈ fs') → St w S₀ cs fs' s' → Q (.bool (leafP D bits th)) s') : wpAny (model pw w) A (call (.ref 1487) [.ref d, .ref wd, .ref tl]) Q E' s := by
  obtain ⟨ha, hvs, ts, pa, pvs, C⟩ := C.openDrawn hd
  have hvl := C.len (.tail _ (.tail _ (.head _)))
  have hpl := C.len (.tail _ (.tail _ (.tail _ (.tail _ (.head _)))))
  have htl := C.len (.tail _ (.tail _ (.tail _ (.tail _ (.tail _ hv)))))
  rw [List.length_map] at hvl hpl htl
  have hd2 := hD.ok.hd
  have hvz : hvs.length ≤ 100000 := by kd_p
  have htz : tvs.length ≤ 100000 := by kd_p
  refine wpAny_call (callFC (n := 5) (binds := [("drawn", .ref d), ("world", .ref wd), ("things", .ref tl)]) (lm := []) (cc := fun L => [cvC (L+1+1+1) (.ref tl), cvC (L+1+1) (.ref wd), cvC (L+1) (.ref d)]) ok1487 C r (binds0 (by kernel_rfl)) (by kernel_rfl) (by kernel_rfl) (fun L => by kernel_rfl) (by kernel_rfl) (fun L => by kernel_rfl) fun L A' s' r' C => ?_)
  have nb_len := b_len; have ng__law_true := g__law_true; have nb_all := b_all; have nb_any := b_any; have nb_range := b_range
  walk_at "B"
  dsimp only [List.cons_append, List.nil_append] at C
  kd_p1
  rename_i C
  refine asT3 C (.head _) r'.hand (.head _) rfl fun s1 C => ?_
  kd_p1
  rw [show decide ((tvs.length : Int) ≤ (hvs.length : Int)) = false from decide_eq_false (by kd_p)]
  kd_p1
  rename_i found _ _ _ _ it s2 C
  let __F : List Fact := .ob d (tupObj [.ref ha, .str (sgS D.sign) ts, .ref pa]) :: .li ha hvs :: .l hvs (D.heads.map fun b => .str (hS b)) :: .li pa pvs :: .l pvs (D.parts.map partAV) :: fs
  let __R : List Cell := cvC (L + 1 + 1 + 1) (.ref tl) :: cvC (L + 1 + 1) (.ref wd) :: cvC (L + 1) (.ref d) :: cs
  let __I : Nat → List Cell → List Fact → Prop := LV L found (.str (sgS D.sign) ts) (fun i => ((D.parts.take i).map (leafD bits th)).map .bool) __R __F
  refine forW (I := __I)
    (drwL (l := pa) (vs := pvs) r'.hand) ?_ ⟨_, rfl, (by walk_at "w"), rfl, rfl⟩ C ?_ ?_
  · intro i cs' fs' hI
    obtain ⟨m, hc, hf, _⟩ := hI
    rw [hc]
    exact ⟨.inr (hf _ (by kd_in)), _, .head _⟩
  · intro i v cs' fs' s3 E3 hi hvi hI C
    walk_at "k"
    obtain ⟨m, hc, hf, hmf, hms⟩ := hI
    replace C := C.eq1 hc
    obtain ⟨q, hq⟩ : ∃ q, D.parts[i]? = some q := ⟨_, List.getElem?_eq_getElem (by kd_p)⟩
    have hqm := List.mem_of_getElem? hq
    obtain ⟨hq0, hq1, hq2, hq3⟩ := hD.ok.pt q hqm
    obtain ⟨hb2, hb3⟩ := hD.bd q hqm
    replace C := C.item (hf _ (by kd_in)) hvi (a := partAV q) (by rw [List.getElem?_map, hq]; rfl)
    obtain ⟨pq, vsq, rfl, _⟩ := C.openTup (.head _)
    obtain ⟨u0, u1, u2, u3, C⟩ := C.openPart (.head _)
    have hl' := hf _ (.tail _ (.tail _ (.tail _ (.tail _ (.tail _ hl)))))
    have hv' := hf _ (.tail _ (.tail _ (.tail _ (.tail _ (.tail _ hv)))))
    have hw' := hf _ (.tail _ (.tail _ (.tail _ (.tail _ (.tail _ hw)))))
    obtain ⟨x2, e2⟩ : ∃ x, th[q.2.2.1.toNat]? = some x := ⟨_, List.getElem?_eq_getElem (hth ▸ toN1 hb2)⟩
    obtain ⟨x3, e3⟩ : ∃ x, th[q.2.2.2.toNat]? = some x := ⟨_, List.getElem?_eq_getElem (hth ▸ toN1 hb3)⟩
    have hx2 := hr x2 (List.mem_of_getElem? e2)
    have hx3 := hr x3 (List.mem_of_getElem? e3)
    obtain ⟨v2, f2, C⟩ := C.at_ (k := q.2.2.1.toNat) (a := .int x2) (.tail _ (.tail _ hv')) (by rw [List.getElem?_map, e2]; rfl)
    obtain ⟨y2, rfl⟩ := C.intV (.head _)
    obtain ⟨v3, f3, C⟩ := C.at_ (k := q.2.2.2.toNat) (a := .int x3) (.tail _ (.tail _ (.tail _ hv'))) (by rw [List.getElem?_map, e3]; rfl)
    obtain ⟨y3, rfl⟩ := C.intV (.head _)
    obtain ⟨dg, hdg, hdg0, hdg5⟩ : ∃ dg : Int, dg = (if q.2.1 = 0 then x2 else 2 + 2 * x2 + x3) ∧ 0 ≤ dg ∧ dg ≤ 5 := ⟨_, rfl, by split <;> kd_p, by split <;> kd_p⟩
    have hleaf : leafD bits th q = (((bits.fdiv (2 ^ dg.toNat)).fmod 2 == 1) == (q.1 == 0)) := by
      unfold leafD
      rw [List.getD_eq_getElem?_getD, List.getD_eq_getElem?_getD, e2, e3, hdg]
      rfl
    refine lotL C (.head _) ?_
    refine asT4 C (.head _) r'.hand (by kd_in) rfl fun s4 C => ?_
    iterate 8 walk_at "y"
    let __Q : Flow → Shared → Prop := fun f s1 => f = .next ∧ LVQ w S₀ L found (.str (sgS D.sign) ts) (.int q.1 u0) dg (itC it pa (i + 1)) (.li found (((D.parts.take i).map (leafD bits th)).map .bool)) __R fs' s1
    refine wpAny_execs_cons (wpAny_mono (Q := __Q) ?_ (fun f s1 hx => ?_) (fun _ _ e => e))
    · cases hw0 : (q.2.1 == (0 : Int)) with
      | true =>
        rw [if_pos (by simpa using hw0)] at hdg
        kd_p1
        rw [hw0]
        kd_p1
        rename_i C
        refine tailL C (.inr (by kd_in)) hq2.1 (by kd_p) f2 ?_
        kd_p1
        rename_i C
        rw [hdg]
        exact ⟨_, _, by rfl, by exact hmf, by exact hms, by rfl, C.weakF (by intro f k; kd_in)⟩
      | false =>
        rw [if_neg (by simpa using hw0)] at hdg
        kd_p1
        rw [hw0]
        kd_p1
        rename_i C
        refine tailL C (.inr (by kd_in)) hq2.1 (by kd_p) f2 ?_
        kd_p1
        rename_i C
        refine mulI C (.of_left (intBits_le_64 (by decide) (by decide))) fun t5 s5 C => ?_
        kd_p1
        rename_i C
        refine tailL C (.inr (by kd_in)) hq3.1 (by kd_p) f3 ?_
        kd_p1
        rename_i C
        rw [hdg]
        exact ⟨_, _, by rfl, by exact hmf, by exact hms, by rfl, C.weakF (by intro f k; kd_in)⟩
    · obtain ⟨rfl, hx⟩ := hx
      dsimp only
      obtain ⟨ud, m', k1, k2, k3, k4, C⟩ := hx
      have hsm : SmallP ((2 : Int) ^ dg.toNat) := pow_sm (Int.toNat_le.mpr hdg5)
      have hfz : (((D.parts.take i).map (leafD bits th)).map Value.bool).length ≤ 100000 := by
        have := hD.ok.pl
        simp only [List.length_map, List.length_take]
        have : D.parts.length ≤ 2 := by rw [this]; split <;> decide
        exact Nat.le_trans (Nat.min_le_right _ _) (Nat.le_trans this (by decide))
      kd_p1
      rename_i C
      refine powI C hdg0 (by kd_p) (by decide) fun t6 s6 C => ?_
      kd_p1
      rename_i C
      refine ⟨_, fs', ⟨m', rfl, hf, k2, k3⟩, ?_⟩
      rw [List.take_add_one, hq, List.map_append, List.map_append]
      show St w S₀ (itC it pa (i + 1) :: .li found (_ ++ [.bool (leafD bits th q)]) :: _) _ _
      rw [hleaf]
      exact C
  · intro cs' fs' s3 hI C
    walk_at "k"
    obtain ⟨m, hc, hf, hmf, hms⟩ := hI
    rw [hpl, List.take_length] at hc
    have hFs : ∀ f ∈ fs, f ∈ fs' := fun f k => hf f (.tail _ (.tail _ (.tail _ (.tail _ (.tail _ k)))))
    have hsg := hD.ok.sg
    have hpl2 := hD.ok.pl
    cases hps : D.parts with
    | nil => exfalso; rw [hps] at hpl2; split at hpl2 <;> cases hpl2
    | cons p0 pr =>
      rw [hps] at hc
      rw [hc] at C
      have hlf : leafP D bits th = signB D.sign (leafD bits th p0) ((pr.map (leafD bits th)).getD 0 false) := by unfold leafP; rw [hps]; rfl
      rcases (by kd_p : D.sign = 0 ∨ D.sign = 1 ∨ D.sign = 2 ∨ D.sign = 3) with hs | hs | hs | hs
      · rw [hs] at hms hlf
        change m.lookup ("sign" : Str) = some (.str "one" ts) at hms
        kd_p1
        rename_i C
        rw [show leafD bits th p0 = leafP D bits th from hlf.symm]
        exact h fs' _ hFs (C.weakC (cs' := cs) (by walk_at "s"))
      all_goals
        obtain ⟨p1, rfl⟩ : ∃ p1, pr = [p1] := by
          rw [hps, if_neg (by kd_p)] at hpl2
          exact len1 (Nat.succ.inj hpl2)
        rw [hs] at hms hlf
      · change m.lookup ("sign" : Str) = some (.str "and" ts) at hms
        kd_p1
        cases hl0 : leafD bits th p0 with
        | true =>
          rw [show leafP D bits th = leafD bits th p1 by rw [hlf, hl0]; rfl] at h
          kd_p1
          rename_i C
          exact h fs' _ hFs (C.weakC (cs' := cs) (by walk_at "s"))
        | false =>
          rw [show leafP D bits th = false by rw [hlf, hl0]; rfl] at h
          kd_p1
          rename_i C
          exact h fs' _ hFs (C.weakC (cs' := cs) (by walk_at "s"))
      · change m.lookup ("sign" : Str) = some (.str "or" ts) at hms
        kd_p1
        cases hl0 : leafD bits th p0 with
        | true =>
          rw [show leafP D bits th = true by rw [hlf, hl0]; rfl] at h
          kd_p1
          rename_i C
          exact h fs' _ hFs (C.weakC (cs' := cs) (by walk_at "s"))
        | false =>
          rw [show leafP D bits th = leafD bits th p1 by rw [hlf, hl0]; rfl] at h
          kd_p1
          rename_i C
          exact h fs' _ hFs (C.weakC (cs' := cs) (by walk_at "s"))
      · change m.lookup ("sign" : Str) = some (.str "if" ts) at hms
        kd_p1
        cases hl0 : leafD bits th p1 with
        | true =>
          rw [show leafP D bits th = true by rw [hlf]; show (leafD bits th p1 || _) = true; rw [hl0]; rfl] at h
          kd_p1
          rename_i C
          exact h fs' _ hFs (C.weakC (cs' := cs) (by walk_at "s"))
        | false =>
          rw [show leafP D bits th = !leafD bits th p0 by rw [hlf]; show (leafD bits th p1 || _) = _; rw [hl0]; rfl] at h
          kd_p1
          refine PyProof.Rows.not_of ?_
          kd_p1
          rename_i C
          exact h fs' _ hFs (C.weakC (cs' := cs) (by walk_at "s"))
end
section
variable {w : World} {S₀ : Shared}
theorem small1 {n : Nat} (h : n ≤ 2) : Builtin.Range.small 0 n 1 = true := by
  rcases (by kd_p : n = 0 ∨ n = 1 ∨ n = 2) with e | e | e <;> rw [e] <;> decide
theorem size1 {n : Nat} (h : n ≤ 2) : Builtin.Range.rangeSize 0 n 1 = n := by
  rcases (by kd_p : n = 0 ∨ n = 1 ∨ n = 2) with e | e | e <;> rw [e] <;> decide
theorem call_tru {D : Drawn} {n : Nat} {bits : Int} (hD : TruOk D) (hn : n ≤ 2) : ∀ (hs pre : List Bool) {s : Shared} {cs : List Cell} {fs : List Fact} {A : Around} {E' Q : Value → Shared → Prop} {d wd tl : Addr} {t1 t2 : Tok} {th : List Int} {tvs : List Value}, D.heads = pre ++ hs → St w S₀ cs fs s → Room A (4 * hs.length + 6) →
    Fact.v (.ref d) (drawnAV D) ∈ fs → Fact.ob wd (tupObj [.int n t1, .int bits t2]) ∈ fs → Fact.li tl tvs ∈ fs → Fact.l tvs (th.map .int) ∈ fs → th.length = 1 + pre.length → (∀ x ∈ th, 0 ≤ x ∧ x < 2) →
    (∀ fs' s', (∀ f ∈ fs, f ∈ fs') → St w S₀ cs fs' s' → Q (.bool (truP D n bits hs th)) s') → wpAny (model pw w) A (call (.ref 1487) [.ref d, .ref wd, .ref tl]) Q E' s
  | [], pre, s, cs, fs, A, E', Q, d, wd, tl, t1, t2, th, tvs, hp, C, r, hd, hw, hl, hv, hth, hr, h => leaf_tru hD C r hd hw hl hv (by rw [hp, List.append_nil]; exact hth) hr h
  | hb :: hs, pre, s, cs, fs, A, E', Q, d, wd, tl, t1, t2, th, tvs, hp, C, r, hd, hw, hl, hv, hth, hr, h => by
    obtain ⟨ha, hvs, ts, pa, pvs, C⟩ := C.openDrawn hd
    have hvl := C.len (.tail _ (.tail _ (.head _)))
    have htl := C.len (.tail _ (.tail _ (.tail _ (.tail _ (.tail _ hv)))))
    rw [List.length_map] at hvl htl
    have hd2 := hD.ok.hd
    have hdl : D.heads.length = pre.length + (hs.length + 1) := by rw [hp, List.length_append]; rfl
    have hvz : hvs.length ≤ 100000 := by kd_p
    have htz : tvs.length ≤ 100000 := by kd_p
    obtain ⟨hv0, hhv, C⟩ := C.at_ (k := pre.length) (a := .str (hS hb)) (.tail _ (.tail _ (.head _))) (by rw [hp, List.getElem?_map, List.getElem?_append_right (Nat.le_refl _), Nat.sub_self]; rfl)
    obtain ⟨tb, rfl⟩ := C.strOf (.head _)
    refine wpAny_call (callFC (n := 4 * hs.length + 9) (binds := [("drawn", .ref d), ("world", .ref wd), ("things", .ref tl)]) (lm := []) (cc := fun L => [cvC (L+1+1+1) (.ref tl), cvC (L+1+1) (.ref wd), cvC (L+1) (.ref d)]) ok1487 C r (binds0 (by kernel_rfl)) (by kernel_rfl) (by kernel_rfl) (fun L => by kernel_rfl) (by kernel_rfl) (fun L => by kernel_rfl) fun L A' s' r' C => ?_)
    have nb_len := b_len; have ng__law_true := g__law_true; have nb_all := b_all; have nb_any := b_any; have nb_range := b_range
    walk_at "B"
    dsimp only [List.cons_append, List.nil_append] at C
    kd_p1
    rename_i C
    refine asT3 C (.head _) r'.hand (by kd_in) rfl fun s1 C => ?_
    kd_p1
    rw [show decide ((tvs.length : Int) ≤ (hvs.length : Int)) = true from decide_eq_true (by kd_p)]
    kd_p1
    refine Assign_Comp (cl := [("world", L+1+1), ("things", L+1+1+1), ("drawn", L+1)]) rfl (by exact rfl) ?_
    kd_p1
    rename_i C
    refine callRange C fun rg u1 u2 s3 C => ?_
    refine iterR (n := n) C (.head _) (small1 hn) (size1 hn) fun it s4 C => ?_
    let __F : List Fact := .v (.str (hS hb) tb) (.str (hS hb)) :: .li ha hvs :: fs
    replace C := C.weakF (fs' := __F) (by walk_at "w")
    let __c : List Cell := .ns L [("parts", .ref pa), ("sign", .str (sgS D.sign) ts), ("heads", .ref ha)] :: cvC (L + 1 + 1 + 1) (.ref tl) :: cvC (L + 1 + 1) (.ref wd) :: cvC (L + 1) (.ref d) :: cs
    let __I : Nat → List Value → List Cell → List Fact → Prop := LT __c __F fun i => ((List.range i).map fun (x : Nat) => truP D n bits hs (th ++ [(x : Int)])).map .bool
    refine compW (n := n) (I := __I) (drwR r'.hand) ?_ (by kd_p) ⟨rfl, fun f k => k, rfl⟩ C ?_ ?_
    · intro i ys cs' fs' hI
      obtain ⟨hc, _⟩ := hI
      rw [hc]
      exact ⟨trivial, _, .head _⟩
    · intro i v ys L2 m acc cs' fs' s5 E5 hi
      revert v
      refine turnR (x := (i : Int)) (by kd_p) fun tk hI C => ?_
      walk_at "k"
      obtain ⟨hc, hf, hz⟩ := hI
      replace C := C.eq3 hc
      have hd' := hf _ (.tail _ (.tail _ hd))
      have hw' := hf _ (.tail _ (.tail _ hw))
      have hl' := hf _ (.tail _ (.tail _ hl))
      have hv' := hf _ (.tail _ (.tail _ hv))
      refine lotR ?_
      kd_p1
      refine wpAny_tests_nil ?_
      kd_p1
      rename_i C
      refine addL C (.inr (by kd_in)) (.inl (.head _)) (by simp; kd_p) fun q s6 C => ?_
      replace C := C.freezeL.drop
      replace C := C.intF (x := (i : Int)) (t := tk)
      replace C := C.snoc (vs := tvs) (as := th.map .int) (by kd_in) (.head _)
      kd_p1
      rename_i C
      refine call_tru hD hn hs (pre ++ [hb]) (th := th ++ [(i : Int)]) (by rw [hp]; simp) C (r'.le (by kd_p)) (by kd_in) (by kd_in) (by kd_in) (by rw [List.map_append]; exact .head _) (by simp; kd_p) (fun x hx => ?_) fun fs2 s7 f2 C => ?_
      · rcases List.mem_append.mp hx with hx | hx
        · exact hr x hx
        · rw [List.mem_singleton.mp hx]; kd_p
      · refine ⟨_, _, _, ⟨rfl, fun f k => f2 f (by have := hf f k; kd_in), ?_⟩, C⟩
        rw [hz, List.range_succ, List.map_append, List.map_append]
        rfl
    · intro ys acc L2 m cs' fs' s5 hy2 hI C
      walk_at "k"
      obtain ⟨hc, hf, hz⟩ := hI
      rw [hc, hz] at C
      have hfh := hf _ (.tail _ (.head _))
      have hv0' := hf _ (.head _)
      have hft := hf _ (.tail _ (.tail _ hl))
      kd_p1
      refine stL (L := L) C (.tail (.tail .head)) fun s6 C => ⟨m, _, fs', _, .head _, C, fun s7 C => ?_⟩
      kd_p1
      rename_i C
      refine tailL C (.inr (by kd_in)) (by kd_p) (by kd_p) (by rw [show ((tvs.length : Int) - 1).toNat = pre.length by kd_p]; exact hhv) ?_
      kd_p1
      rw [show (hS hb == ("all" : Str)) = hb by cases hb <;> rfl]
      rcases Bool.eq_false_or_eq_true hb with hbb | hbb
      · rw [hbb]
        rw [show truP D n bits (hb :: hs) th = ((List.range n).map fun (x : Nat) => truP D n bits hs (th ++ [(x : Int)])).all id by rw [hbb]; rfl] at h
        kd_p1
        rename_i C
        refine allB C r'.hand (.head _) (.inl (.head _)) fun s8 C => ?_
        kd_p1
        exact h fs' _ (fun f k => hf f (.tail _ (.tail _ k))) (C.weakC (cs' := cs) (by walk_at "s"))
      · rw [hbb]
        rw [show truP D n bits (hb :: hs) th = ((List.range n).map fun (x : Nat) => truP D n bits hs (th ++ [(x : Int)])).any id by rw [hbb]; rfl] at h
        kd_p1
        rename_i C
        refine anyB C r'.hand (.head _) (.inl (.head _)) fun s8 C => ?_
        kd_p1
        exact h fs' _ (fun f k => hf f (.tail _ (.tail _ k))) (C.weakC (cs' := cs) (by walk_at "s"))
end
section
variable {w : World} {S₀ s : Shared} {cs cs' : List Cell} {fs : List Fact} {A : Around} {E' : Value → Shared → Prop} {Q : Value → Shared → Prop} {env : Env} {R : Result → Shared → Prop}
theorem drawnP_tru {c most : Int} : TruOk (drawnP c most) := by
  refine ⟨drawnP_ok, fun p hp => ?_⟩
  have hl := headsTab_len (c.fmod most).toNat
  have z : ∀ {many : Int}, 0 < many → ∀ {n : Nat} {c : Int}, ∀ p ∈ (partsS many n c).1, p.2.2.1 < many ∧ p.2.2.2 < many := by
    intro many h0 n
    induction n with
    | zero => intro c p hp; cases hp
    | succ n ih =>
      intro c p hp
      rcases List.mem_append.mp hp with hp | hp
      · exact ih p hp
      · rw [List.mem_singleton.mp hp]
        exact ⟨(fmod_in h0).2, (fmod_in h0).2⟩
  exact z (by kd_p) p hp
theorem mk_TP {k : Int} {t : Tok} (C : St w S₀ cs fs s) (r : Room A 5) (h : ∀ p d t1 s', St w S₀ (.di d [("TIMEOUT", t1, .int k t)] :: cs) (.ob p (instObj 1311 d) :: fs) s' → Q (.ref p) s') : wpAny (model pw w) A (call (.ref 1311) [.int k t]) Q E' s := by
  refine newI C (f := 1138) rfl fun x d s' C => ?_
  refine callF (n := 3) (binds := [("self", .ref x), ("TIMEOUT", .int k t)]) ok1138 C r.made (kp_binds C.kin fun S => by kernel_rfl) (by kernel_rfl) (by kernel_rfl) fun L A' s' r' C => ?_
  walk_at "B"
  kd_p1
  refine ⟨rfl, ?_⟩
  rename_i s' C
  exact h x d _ s' C.drop
theorem asSw2 {x y : Str} {p : Addr} {u v : Value} {Q : Shared → Prop} {d : Cell} (C : St w S₀ cs fs s) (hd : d ∈ cs) (hh : A.handled = none) (ho : Fact.ob p (tupObj [u, v]) ∈ fs)
    (h : ∀ s', St w S₀ cs fs s' → wpAny (model pw w) A (storeName env y v) (fun _ s₁ => wpAny (model pw w) A (storeName env x u) (fun _ s₂ => Q s₂) E' s₁) E' s') :
    wpAny (model pw w) A (unpackItems (.ref p) [x, y].length none) (fun items s₂ => wpAny (model pw w) A (assignInOrder ([x, y].reverse.map fun n => bindName env n) items.reverse) (fun _ => Q) E' s₂) E' s := by
  refine PyProof.Rows.unpackItems_tuple (items := #[u, v]) hh (C.tup ho) fun h' hx => ?_
  have C3 := C.extGrow (tk := s.toks) hd hx
  refine assignInOrder_cons (bindName_ (wpAny_mono (h _ C3) (fun _ s₁ h₁ => ?_) fun _ _ e => e))
  exact assignInOrder_cons (bindName_ (wpAny_mono h₁ (fun _ s₂ h₂ => assignInOrder_nil h₂) fun _ _ e => e))
theorem tailSl1 {value slice : Expr} {l a : Addr} {u : Tok} {vs : List Value} (C : St w S₀ cs fs s) (ho : Fact.ob a (slObj (.int 1 u) .none) ∈ fs) (hl : Cell.li l vs ∈ cs ∨ Fact.li l vs ∈ fs) (hz : vs.length ≤ 1000)
    (h : ∀ q s', St w S₀ (.li q (vs.drop 1) :: cs) fs s' → Q (.ref q) s')
    (hs : autoParam (subscripted slice false (.ref l) (.ref a) = operate [.ref a, .ref l] (getItem (.ref l) (.ref a))) tWr) :
    wpAny (model pw w) A (subscriptTail value slice (.ref l) (.ref a)) Q E' s := by
  refine tail_any (C.plain hl).isList.typeIs slot_list_getitem.lookup (wpAny_getItem_list_slice (C.plain hl).isList ⟨_, C.obj ho, rfl, rfl⟩ (.int 1 u) .none .none (by simp) ?_ (Nat.le_trans (by rw [List.size_toArray]; exact hz) (by decide))) hs
  have e : slicePick vs.toArray (some 1) none none = (vs.drop 1).toArray := by
    have eb : sliceBounds (some 1) none none vs.toArray.size = (((min 1 vs.length : Nat) : Int), ((vs.length : Nat) : Int), 1) := by
      simp only [sliceBounds, List.size_toArray, Option.getD_none, show (1 : Int) > 0 by decide, if_true, if_neg (show ¬ ((1 : Int) < 0) by decide)]
      congr 1
      kd_p
    unfold slicePick
    rw [eb]
    simp only [sliceRange_one, pick_run]
    congr 1
    show ((vs.drop (min 1 vs.length)).take (vs.length - min 1 vs.length)) = vs.drop 1
    cases vs with
    | nil => rfl
    | cons v r => simp
  rw [e]
  exact h _ _ (C.pushC (.li s.heap.objs.size (vs.drop 1)) _ rfl ⟨_, Heap.get?_push_size _ rfl⟩ (tk := s.toks))
end
section
variable {w : World} {S₀ s : Shared} {cs cs' : List Cell} {fs : List Fact} {A : Around} {E' : Value → Shared → Prop} {Q : Value → Shared → Prop} {env : Env} {R : Result → Shared → Prop}
structure Plain2 : Prop where
  form : ∀ {D : Drawn}, TruOk D → gE (formE D) ∧ gE (.neg (formE D))
  ends : ∀ {g : Drawn} {l : List Drawn} {k : Int}, TruOk g → (∀ D ∈ l, TruOk D) → 12 ≤ k → k ≤ 30 → ∃ b st, proveP k (formE g) (l.map formE) = some (b, st)
  sound : ∀ {g : Drawn} {l : List Drawn} {k : Int} {st : PSt}, TruOk g → (∀ D ∈ l, TruOk D) → proveP k (formE g) (l.map formE) = some (true, st) → ∀ (n : Nat) (bits : Int), n = 1 ∨ n = 2 → 0 ≤ bits → (∀ D ∈ l, truP D n bits D.heads [0] = true) → truP g n bits g.heads [0] = true
theorem TruOk.other {D : Drawn} (h : TruOk D) {bs : List Bool} (hb : bs.length = D.heads.length) : TruOk ⟨bs, D.sign, D.parts⟩ :=
  ⟨⟨by show bs.length ≤ 2; rw [hb]; exact h.ok.hd, h.ok.sg, h.ok.pl, h.ok.pt⟩, fun p hp => by show _ < 1 + (bs.length : Int) ∧ _ < 1 + (bs.length : Int); rw [hb]; exact h.bd p hp⟩
theorem isiBool {b : Bool} (h : Q (.bool true) s) : wpAny (model pw w) A (call (.builtin "isinstance") [.bool b, .type "bool"]) Q E' s :=
  call_isinstance_yes (Tx := "bool") (PySem.typeIs_bool s b) meta_bool (by rw [isSubtype_type]; kernel_rfl) h
noncomputable def worldAV (p : Nat × Int) : AV := .tup [.int p.1, .int p.2]
theorem relL_app {P : Params} {g : PM} : ∀ {as bs : List AV} {us vs : List Value}, RelL P g as us → RelL P g bs vs → RelL P g (as ++ bs) (us ++ vs)
  | [], bs, us, vs, h, k => by subst h; exact k
  | a :: as, bs, us, vs, h, k => by
    obtain ⟨v, r, rfl, y, z⟩ := h
    exact relL1 y (relL_app z k)
theorem relW {P : Params} {g : PM} {p : Addr} {a b : Int} {n : Nat} {ta tb : Tok} (Y : ∀ f ∈ fs, f.ok P g) (ho : Fact.ob p (tupObj [.int a ta, .int b tb]) ∈ fs) (ha : a = n) : RelV P g (worldAV (n, b)) (.ref p) := by
  show RelV P g (.tup [.int (n : Int), .int b]) (.ref p)
  rw [← ha]
  exact relT (Y _ ho) (relL1 relVi (relL1 relVi relL0))
theorem St.appL2 {us vs : List Value} {as bs : List AV} (C : St w S₀ cs fs s) (h : Fact.l us as ∈ fs) (k : Fact.l vs bs ∈ fs) : St w S₀ cs (.l (us ++ vs) (as ++ bs) :: fs) s := C.fact fun g Y => relL_app (Y _ h) (Y _ k)
theorem St.world {p : Addr} {a b : Int} {n : Nat} {ta tb : Tok} (C : St w S₀ cs fs s) (ho : Fact.ob p (tupObj [.int a ta, .int b tb]) ∈ fs) (ha : a = n) : St w S₀ cs (.v (.ref p) (worldAV (n, b)) :: fs) s := C.fact fun g Y => by
  show RelV w.params g (.tup [.int (n : Int), .int b]) (.ref p)
  rw [← ha]
  exact relT (Y _ ho) (relL1 relVi (relL1 relVi relL0))
theorem St.drop1 {vs : List Value} {as : List AV} (C : St w S₀ cs fs s) (h : Fact.l vs as ∈ fs) : St w S₀ cs (.l (vs.drop 1) (as.drop 1) :: fs) s := C.fact fun g Y => by
  have k := Y _ h
  show RelL w.params g (as.drop 1) (vs.drop 1)
  cases as with
  | nil =>
    have k : RelL w.params g [] vs := k
    subst k
    exact relL0
  | cons a r =>
    have k : RelL w.params g (a :: r) vs := k
    obtain ⟨v, q, rfl, _, k2⟩ := k
    exact k2
theorem stW {x : Str} {c : Addr} {v : Value} {wcell : Cell} {pre post : List Cell} {Q : Unit → Shared → Prop} (C : St w S₀ (pre ++ (wcell :: post)) fs s) (hw : wcell = ceC c ∨ ∃ v, wcell = cvC c v) (h : ∀ s', St w S₀ (pre ++ (cvC c v :: post)) fs s' → Q () s') (hc : autoParam (some c = env.cells.lookup x) tXr)
    (hk : autoParam (FnK env) tKr) (hx : autoParam (some .cell = env.kindOf x) tXr) : wpAny (model pw w) A (storeName env x v) Q E' s := by
  rcases hw with rfl | ⟨v0, rfl⟩
  · exact stC0 C (Upd.appR .head) h hc hk hx
  · exact stC C (Upd.appR .head) h hc hk hx
inductive OLstR (w : World) (S₀ : Shared) (cs : List Cell) (fs : List Fact) (s : Shared) (a : Addr) (xs : List AV) : Prop | mk (vs : List Value) (C : St w S₀ cs (.li a vs :: .l vs xs :: fs) s)
theorem St.openLstR {a : Addr} {xs : List AV} (C : St w S₀ cs fs s) (h : Fact.v (.ref a) (.lst xs) ∈ fs) : OLstR w S₀ cs fs s a xs := by
  obtain ⟨b, vs, e, C⟩ := C.openLst h
  cases e
  exact ⟨vs, C⟩
inductive OWorld (w : World) (S₀ : Shared) (cs : List Cell) (fs : List Fact) (s : Shared) (v : Value) (p : Nat × Int) : Prop | mk (wo : Addr) (t1 t2 : Tok) (e : v = .ref wo) (C : St w S₀ cs (.ob wo (tupObj [.int p.1 t1, .int p.2 t2]) :: fs) s)
theorem St.openWorld {v : Value} {p : Nat × Int} (C : St w S₀ cs (.v v (worldAV p) :: fs) s) : OWorld w S₀ cs fs s v p := by
  obtain ⟨g, X, Y⟩ := C
  obtain ⟨a, vs, rfl, h1, kk0⟩ := relTup (Y _ (.head _))
  obtain ⟨v0, r, rfl, k0, kk1⟩ := relCons kk0
  obtain ⟨t0, rfl⟩ := relInt k0
  obtain ⟨v1, r, rfl, k0, kk2⟩ := relCons kk1
  obtain ⟨t1, rfl⟩ := relInt k0
  cases relNil kk2
  exact ⟨a, t0, t1, rfl, g, X, fun f hf => (List.mem_cons.mp hf).elim (fun q => q ▸ h1) fun hf => Y f (.tail _ hf)⟩
inductive LG (gd : Addr) (gD : Drawn) (F : List Fact) (c0 : List Cell) (i : Nat) (ys : List Value) (cs' : List Cell) (fs' : List Fact) : Prop
  | mk (hc : cs' = c0) (hf1 : Fact.v (.ref gd) (drawnAV gD) ∈ fs') (hf2 : ∀ f ∈ F, f ∈ fs') (Ds : List Drawn) (hl : Ds.length = i) (ho : ∀ D ∈ Ds, TruOk D) (hy : Fact.l ys (Ds.map drawnAV) ∈ fs')
inductive LQ (w : World) (S₀ : Shared) (hb L gd : Addr) (k : Int) (tk : Tok) (F : List Fact) (R : List Cell) (s : Shared) : Prop
  | mk (ga : Addr) (gvs : List Value) (Ds : List Drawn) (c : Int) (m : List (Str × Value)) (fs : List Fact) (h1 : Fact.li ga gvs ∈ fs) (h2 : Fact.l gvs (Ds.map drawnAV) ∈ fs) (h3 : ∀ D ∈ Ds, TruOk D) (h4 : Ds.length ≤ 3) (h5 : ∀ f ∈ F, f ∈ fs)
    (k1 : m.lookup ("given" : Str) = some (.ref ga)) (k2 : m.lookup ("goal" : Str) = some (.ref gd)) (k3 : m.lookup ("looks" : Str) = some (.int k tk)) (C : St w S₀ (boxC hb c :: .ns L m :: R) fs s)
inductive LH (hb : Addr) (R : List Cell) (F : List Fact) (i : Nat) (zs : List Value) (cs' : List Cell) (fs' : List Fact) : Prop
  | mk (bs : List Bool) (c : Int) (hc : cs' = boxC hb c :: R) (hl : bs.length = i) (hf : ∀ f ∈ F, f ∈ fs') (hz : Fact.l zs (bs.map fun b => .str (hS b)) ∈ fs')
inductive LR (w : World) (S₀ : Shared) (c0 : Cell) (L ga gd : Addr) (sr fi : Int) (R : List Cell) (fs : List Fact) (s : Shared) : Prop
  | mk (t5 t6 : Tok) (m : List (Str × Value)) (h1 : m.lookup ("given" : Str) = some (.ref ga)) (h2 : m.lookup ("goal" : Str) = some (.ref gd)) (C : St w S₀ (c0 :: .ns L m :: ceC (L+1+1+1+1+1) :: cvC (L+1+1+1+1) (.int sr t6) :: cvC (L+1+1+1) (.int fi t5) :: R) fs s)
inductive LW (c0 : List Cell) (F : List Fact) (i : Nat) (ys : List Value) (cs' : List Cell) (fs' : List Fact) : Prop
  | mk (hc : cs' = c0) (hf : ∀ f ∈ F, f ∈ fs') (ws : List (Nat × Int)) (h1 : ∀ p ∈ ws, p.1 = 2 ∧ 0 ≤ p.2) (h2 : ws.length = i) (hy : Fact.l ys (ws.map worldAV) ∈ fs')
inductive LZ (e : Addr) (a b : Cell) (R : List Cell) (F : List Fact) (i : Nat) (cs' : List Cell) (fs' : List Fact) : Prop
  | mk (x : Cell) (hw : x = ceC e ∨ ∃ v, x = cvC e v) (hc : cs' = a :: b :: x :: R) (hf : ∀ f ∈ F, f ∈ fs')
theorem call_law {sc : Addr} {svs : List Value} {ns : List Int} (PL : Plain2) (C : St w S₀ cs fs s) (r : Room A 600) (hl : Fact.li sc svs ∈ fs) (hv : Fact.l svs (ns.map .int) ∈ fs) (hn : ns.length ≤ 63)
    (h : ∀ fs' s', (∀ f ∈ fs, f ∈ fs') → St w S₀ cs fs' s' → Q (.bool true) s') : wpAny (model pw w) A (call (.ref 1492) [.ref sc]) Q E' s := by
  refine wpAny_call (callFC (n := 599) (binds := [("script", .ref sc)]) (lm := []) (cc := fun L => [ceC (L+1+1+1+1+1), ceC (L+1+1+1+1), ceC (L+1+1+1), ceC (L+1+1), cvC (L+1) (.ref sc)]) ok1492 C r (binds0 (by kernel_rfl)) (by kernel_rfl) (by kernel_rfl) (fun L => by kernel_rfl) (by kernel_rfl) (fun L => by kernel_rfl) fun L A' s' r' C => ?_)
  have ng__law_box := g__law_box; have ng__law_drawn := g__law_drawn; have ng__law_take := g__law_take; have ng__law_formula := g__law_formula; have nb_isinstance := b_isinstance; have nb_bool := b_bool; have nb_range := b_range; have ng_TableauProver := g_TableauProver; have nb_all := b_all; have ng__law_true := g__law_true
  walk_at "B"
  dsimp only [List.cons_append, List.nil_append] at C
  kd_p1
  rename_i C
  refine call_box (k := 0) C (r'.le (by kd_p)) (by kd_in) (by kd_in) hn (by decide) fun hb s1 C => ?_
  have hb0 := boxP_nn ns 0
  walk_at "zC"
  generalize boxP ns 0 = c0 at C hb0
  kd_p1
  rename_i C
  refine mulI C (.of_left (intBits_le_64 (by decide) (by decide))) fun t1 s2 C => ?_
  obtain ⟨k, hk, hk12, hk30⟩ : ∃ k : Int, k = 12 + 2 * c0.fmod 10 ∧ 12 ≤ k ∧ k ≤ 30 := ⟨_, rfl, by have := @fmod_in c0 10 (by decide); kd_p, by have := @fmod_in c0 10 (by decide); kd_p⟩
  kd_p1
  rename_i tk _ _ _ _ _ _ C
  refine call_box (k := 1) C (r'.le (by kd_p)) (by kd_in) (by kd_in) hn (by decide) fun gb s3 C => ?_
  kd_p1
  rename_i C
  refine call_drawn C (r'.le (by kd_p)) ⟨by decide, by decide⟩ (by decide) fun gd fs1 s4 f1 C => ?_
  have hgok : TruOk (drawnP (boxP ns 1) 7) := drawnP_tru
  walk_at "zC"
  generalize drawnP (boxP ns 1) 7 = gD at C hgok
  have hl1 := f1 _ hl
  have hv1 := f1 _ hv
  kd_p1
  refine Assign_Comp (cl := [("script", L+1)]) rfl (by exact rfl) ?_
  kd_p1
  rename_i tg sg C
  obtain ⟨ng, hng, hng2⟩ : ∃ ng : Nat, (c0.fdiv 10).fmod 3 = (ng : Int) ∧ ng ≤ 2 := ⟨_, (Int.toNat_of_nonneg (fmod_in (by decide)).1).symm, Nat.le_of_lt_succ (toN (k := 3) (fmod_in (by decide)).1 (fmod_in (by decide)).2)⟩
  rw [hng]
  clear hng
  walk_at "zC"
  rw [← hk] at C
  walk_at "zC"
  generalize (c0.fdiv 10).fdiv 3 = c1 at C
  refine callRange C fun rg u1 u2 s5 C => ?_
  refine iterR (n := ng) C (.head _) (small1 hng2) (size1 hng2) fun it s6 C => ?_
  have hgd := ofC C (p := fun F => Fact.v (.ref gd) (drawnAV gD) ∈ F ∧ ∀ f ∈ fs1, f ∈ F) ⟨by kd_in, by walk_at "w"⟩
  let __R0 : List Cell := cvC (L+1+1) (.ref hb) :: cvC (L+1) (.ref sc) :: cs
  let __R1 : List Cell := ceC (L+1+1+1+1+1) :: ceC (L+1+1+1+1) :: ceC (L+1+1+1) :: __R0
  let __c0 : List Cell := boxC hb c1 :: .ns L [("goal", .ref gd), ("looks", .int k tk)] :: __R1
  let __I : Nat → List Value → List Cell → List Fact → Prop := LG gd gD fs1 __c0
  refine compW (n := ng) (I := __I) (drwR r'.hand) ?_ (by kd_p) ⟨rfl, .tail _ hgd.1, fun f k => .tail _ (hgd.2 f k), [], rfl, (fun D hD => by cases hD), .head _⟩ C.nilL ?_ ?_
  · intro i ys cs' fs' hI
    obtain ⟨hc, _⟩ := hI
    rw [hc]
    exact ⟨trivial, _, .head _⟩
  · intro i v ys L2 m acc cs' fs' s7 E7 hi
    revert v
    refine turnR (x := (i : Int)) (by kd_p) fun tk2 hI C => ?_
    walk_at "k"
    obtain ⟨hc, hf1, hf2, Ds, hDl, hDo, hys⟩ := hI
    replace C := C.eq3 hc
    have hl' := hf2 _ hl1
    have hv' := hf2 _ hv1
    refine lotR ?_
    kd_p1
    refine wpAny_tests_nil ?_
    kd_p1
    rename_i C
    rw [show (2 : Int) + (i : Int) = ((2 + i : Nat) : Int) by kd_p]
    refine call_box (k := 2 + i) C (r'.le (by kd_p)) (by kd_in) (by kd_in) hn (by kd_p) fun b2 s8 C => ?_
    walk_at "zC"
    generalize boxP ns (2 + i) = c2 at C
    kd_p1
    rename_i C
    refine tail_ints C [7, 3] (by kd_p) (by show (i : Int) < ((2 : Nat) : Int); kd_p) (by decide) (fun g Y => relL1 relVi (relL1 relVi relL0)) fun tm s9 C => ?_
    obtain ⟨mi, hmi, hm0, hm7⟩ : ∃ mi : Int, ([7, 3] : List Int).getD (i : Int).toNat 0 = mi ∧ SmallP mi ∧ mi ≤ 7 := by
      rcases (by kd_p : i = 0 ∨ i = 1) with rfl | rfl
      · exact ⟨7, rfl, ⟨by decide, by decide⟩, by decide⟩
      · exact ⟨3, rfl, ⟨by decide, by decide⟩, by decide⟩
    rw [hmi]
    kd_p1
    rename_i C
    refine call_drawn C (r'.le (by kd_p)) hm0 hm7 fun dd fs2 s10 f2 C => ?_
    replace C := C.snoc (vs := ys) (.tail _ (f2 _ hys)) (.head _)
    refine ⟨_, _, _, ⟨rfl, .tail _ (.tail _ (f2 _ hf1)), fun f k => .tail _ (.tail _ (f2 _ (hf2 f k))), Ds ++ [drawnP c2 mi], by rw [List.length_append, hDl]; rfl, ?_, ?_⟩, C⟩
    · intro D hD
      rcases List.mem_append.mp hD with hD | hD
      · exact hDo D hD
      · rw [List.mem_singleton.mp hD]; exact drawnP_tru
    · rw [List.map_append]; exact .head _
  · intro ys acc L2 m cs' fs' s7 hy2 hI C
    walk_at "k"
    obtain ⟨hc, hf1, hf2, Ds, hDl, hDo, hys⟩ := hI
    rw [hc] at C
    kd_p1
    refine stL (L := L) C (.tail (.tail (.tail .head))) fun s8 C => ⟨m, _, fs', _, .head _, C, fun s9 C => ?_⟩
    replace C := C.freezeL
    have hys2 : ys.length = Ds.length := by have := C.len (.tail _ hys); rwa [List.length_map] at this
    let __Q : Flow → Shared → Prop := fun f s1 => f = .next ∧ LQ w S₀ hb L gd k tk fs' __R1 s1
    refine wpAny_execs_cons (wpAny_mono (Q := __Q) ?_ (fun f s1 hx => ?_) (fun _ _ e => e))
    · kd_p1
      have h02 := @fmod_in c1 2 (by decide)
      cases hq : (c1.fmod 2 == (0 : Int)) with
      | false =>
        kd_p1
        rename_i C
        exact ⟨acc, ys, Ds, _, _, _, by kd_in, by kd_in, hDo, by kd_p, by walk_at "w", by rfl, by rfl, by rfl, C⟩
      | true =>
        generalize c1.fdiv 2 = c2 at *
        rename_i _ _ _ C
        obtain ⟨ha, hvs, ts, pa, pvs, C⟩ := C.openDrawn (.tail _ hf1)
        have hvl := C.len (.tail _ (.tail _ (.head _)))
        rw [List.length_map] at hvl
        have hg2 := hgok.ok.hd
        kd_p1
        refine ListComp_ (cl := [("head", L+1+1)]) (by exact rfl) ?_
        kd_p1
        rename_i it2 s10 C
        let __F : List Fact := .ob gd (tupObj [.ref ha, .str (sgS gD.sign) ts, .ref pa]) :: .li ha hvs :: .l hvs (gD.heads.map fun b => .str (hS b)) :: .li pa pvs :: .l pvs (gD.parts.map partAV) :: .li acc ys :: fs'
        let __R2 : List Cell := .ns L [("given", .ref acc), ("goal", .ref gd), ("looks", .int k tk)] :: __R1
        let __I : Nat → List Value → List Cell → List Fact → Prop := LH hb __R2 __F
        refine compW (n := hvs.length) (I := __I)
          (drwL (l := ha) (vs := hvs) r'.hand) ?_ (by kd_p) ⟨[], c2, rfl, rfl, (by walk_at "w"), .head _⟩ C.nilL ?_ ?_
        · intro i zs cs' fs3 hI
          obtain ⟨bs, c3, hc, _, hf3, _⟩ := hI
          rw [hc]
          exact ⟨.inr (hf3 _ (by kd_in)), _, .head _⟩
        · intro i v zs L3 m3 acc3 cs' fs3 s11 E11 hi hvi hI C
          walk_at "k"
          obtain ⟨bs, c3, hc, hbl, hf3, hzs⟩ := hI
          replace C := C.eq3 hc
          refine lotL C (.tail _ (.tail _ (.head _))) ?_
          kd_p1
          refine wpAny_tests_nil ?_
          kd_p1
          rename_i C
          have h03 := @fmod_in c3 2 (by decide)
          refine tail_strs C [hS true, hS false] (by kd_p) (by show c3.fmod 2 < ((2 : Nat) : Int); kd_p) (by decide) (fun g Y => relL1 relVs (relL1 relVs relL0)) fun tw s12 C => ?_
          obtain ⟨bw, hbw⟩ : ∃ bw : Bool, [hS true, hS false].getD (c3.fmod 2).toNat "" = hS bw := by
            rcases (by kd_p : c3.fmod 2 = 0 ∨ c3.fmod 2 = 1) with e | e
            · rw [e]; exact ⟨true, rfl⟩
            · rw [e]; exact ⟨false, rfl⟩
          rw [hbw]
          replace C := C.strV (x := hS bw) (t := tw)
          replace C := C.snoc (vs := zs) (.tail _ hzs) (.head _)
          refine ⟨_, _, _, ⟨bs ++ [bw], _, rfl, by rw [List.length_append, hbl]; rfl, (fun f kk => .tail _ (.tail _ (hf3 f kk))), ?_⟩, C⟩
          rw [List.map_append]; exact .head _
        · intro zs al L3 m3 cs' fs3 s11 hz2 hI C s12 C
          walk_at "k"
          obtain ⟨bs, c3, hc, hbl, hf3, hzs⟩ := hI
          replace C := C.eq1 hc
          replace C := C.frz (bs.map fun b => .str (hS b)) fun g Y => Y _ hzs
          have f1' : Fact.ob gd (tupObj [.ref ha, .str (sgS gD.sign) ts, .ref pa]) ∈ fs3 := hf3 _ (by kd_in)
          have f2' : Fact.li pa pvs ∈ fs3 := hf3 _ (by kd_in)
          have f3' : Fact.l pvs (gD.parts.map partAV) ∈ fs3 := hf3 _ (by kd_in)
          have f4' : Fact.li acc ys ∈ fs3 := hf3 _ (by kd_in)
          have f5' : ∀ f ∈ fs', f ∈ fs3 := fun f kk => hf3 _ (by kd_in)
          have hys3 := f5' _ hys
          kd_p1
          rename_i td s13 _ nl s14 _ us s15 _ sl s16 C
          refine tailSl1 C (.head _) (.inr (by kd_in)) (by kd_p) fun q1 s17 C => ?_
          kd_p1
          rename_i C
          refine addL C (.inl (.tail _ (.head _))) (.inl (.head _)) (by simp; kd_p) fun q2 s18 C => ?_
          replace C := C.freezeL.drop.drop
          replace C := C.drop1 (vs := ys) (as := Ds.map drawnAV) (by kd_in)
          have hbl2 : bs.length = gD.heads.length := by kd_p
          replace C := C.fact (f := .v (.ref td) (drawnAV ⟨bs, gD.sign, gD.parts⟩)) fun g Y => by
            show RelV w.params g (.tup _) (.ref td)
            have y1 : Fact.ok w.params g (.li pa pvs) := Y _ (by kd_in)
            have y0 : Fact.ok w.params g (.ob td (tupObj [.ref al, .str (sgS gD.sign) ts, .ref pa])) := Y _ (by kd_in)
            obtain ⟨n, hn⟩ := y1
            refine relT y0 (relL1 (relY Y (show Fact.v (.ref al) (.lst (bs.map fun b => .str (hS b))) ∈ _ by kd_in)) (relL1 relVs (relL1 ?_ relL0)))
            exact Exists.intro pa ⟨pvs, n, rfl, hn, Y _ (show Fact.l pvs (gD.parts.map partAV) ∈ _ by kd_in)⟩
          replace C := C.consL (vs := ys.drop 1) (as := (Ds.map drawnAV).drop 1) (v := .ref td) (a := drawnAV ⟨bs, gD.sign, gD.parts⟩) (by kd_in) (.head _)
          kd_p1
          rename_i C
          refine ⟨q2, [.ref td] ++ ys.drop 1, ⟨bs, gD.sign, gD.parts⟩ :: Ds.drop 1, c3, _, _, by kd_in, ?_, ?_, ?_, (by intro f kk; have := f5' f kk; kd_in), by rfl, by rfl, by rfl, C⟩
          · rw [List.map_cons, List.map_drop]; exact .head _
          · intro D hD
            rcases List.mem_cons.mp hD with rfl | hD
            · exact hgok.other hbl2
            · exact hDo D (List.mem_of_mem_drop hD)
          · simp only [List.length_cons, List.length_drop]; kd_p
    · obtain ⟨rfl, hx⟩ := hx
      dsimp only
      obtain ⟨ga, gvs, Ds2, c2, m2, fs2, hga, hgv, hDo2, hDl2, f2, k1, k2, k3, C⟩ := hx
      have hgv2 : gvs.length = Ds2.length := by have := C.len hgv; rwa [List.length_map] at this
      have hgd2 := f2 _ hf1
      clear hys hDo hDl
      refine wpAny_execs_cons (Assign_Tuple_swapped (names := ["asked", "told_of"]) ?_ (by rfl) (by rfl))
      kd_p1
      rename_i C
      refine call_form C (r'.le (by kd_p)) (by kd_in) hgok.ok fun as fs3 s8 f3 C => ?_
      have hga3 := f3 _ hga
      have hgv3 := f3 _ hgv
      have hgd3 := f3 _ hgd2
      kd_p1
      refine ListComp_ (cl := []) (by exact rfl) ?_
      kd_p1
      rename_i it2 s9 C
      let __c2 : List Cell := boxC hb c2 :: .ns L m2 :: __R1
      let __I : Nat → List Value → List Cell → List Fact → Prop := LC __c2 (.v (.ref as) (.e (formE gD)) :: fs3) fun i => ((Ds2.map formE).take i).map .e
      refine compW (n := gvs.length) (I := __I)
        (drwL (l := ga) (vs := gvs) r'.hand) ?_ (by kd_p) ⟨rfl, (by walk_at "w"), .head _⟩ C.nilL ?_ ?_
      · intro i ys cs' fs' hI
        obtain ⟨hc, hf, hy⟩ := hI
        rw [hc]
        exact ⟨.inr (hf _ (.tail _ hga3)), _, .head _⟩
      · intro i v ys L4 m4 acc4 cs' fs5 s10 E10 hi hvi hI C
        walk_at "k"
        obtain ⟨hc, hf5, hy⟩ := hI
        replace C := C.eq3 hc
        obtain ⟨D, hD⟩ : ∃ D, Ds2[i]? = some D := ⟨_, List.getElem?_eq_getElem (by kd_p)⟩
        replace C := C.item (hf5 _ (.tail _ hgv3)) hvi (a := drawnAV D) (by rw [List.getElem?_map, hD]; rfl)
        obtain ⟨pq, _, rfl, _⟩ := C.openTup (.head _)
        refine lotL C (.tail _ (.tail _ (.head _))) ?_
        kd_p1
        refine wpAny_tests_nil ?_
        kd_p1
        rename_i C
        refine call_form C (r'.le (by kd_p)) (by kd_in) (hDo2 D (List.mem_of_getElem? hD)).ok fun a fs6 s11 f6 C => ?_
        replace C := C.snoc (vs := ys) (as := ((Ds2.map formE).take i).map .e) (.tail _ (f6 _ (by kd_in))) (.head _)
        refine ⟨_, _, _, ⟨rfl, (by intro f kk; have := f6 f (by have := hf5 f kk; kd_in); kd_in), ?_⟩, C⟩
        rw [List.take_add_one, List.getElem?_map, hD, List.map_append]
        exact .head _
      · intro ys ta L4 m4 cs' fs5 s10 hy2 hI C s11 C
        walk_at "k"
        obtain ⟨hc, hf5, hy⟩ := hI
        replace C := C.eq1 hc
        rw [List.take_of_length_le (by rw [List.length_map]; kd_p)] at hy
        replace C := C.freezeL
        kd_p1
        rename_i tp s12 C
        refine asSw2 C (.head _) r'.hand (.head _) fun s13 C => ?_
        have hfa : Fact.v (.ref as) (.e (formE gD)) ∈ fs5 := hf5 _ (.head _)
        have hf3 : ∀ f ∈ fs3, f ∈ fs5 := fun f kk => hf5 f (.tail _ kk)
        kd_p1
        rename_i C
        refine mk_TP C (r'.le (by kd_p)) fun pa pd pt s14 C => ?_
        kd_p1
        rename_i C
        obtain ⟨b, pst, hpr⟩ := PL.ends hgok hDo2 hk12 hk30
        refine wpAny_call (code_prove C (r'.le (by kd_p)) (by kd_in) (by kd_in) (by kd_in) (show Fact.l ys ((Ds2.map formE).map .e) ∈ _ by kd_in) (fun e he => ?_) (by rw [List.length_map]; kd_p) hpr fun fs6 s15 f6 C => ?_)
        · rcases List.mem_cons.mp he with rfl | he
          · exact (PL.form hgok).2
          · obtain ⟨D, hD, rfl⟩ := List.mem_map.mp he
            exact (PL.form (hDo2 D hD)).1
        kd_p1
        refine isiBool ?_
        kd_p1
        cases b with
        | false =>
          kd_p1
          rename_i C
          exact h fs6 _ (fun f kk => f6 f (by have := hf3 f (f3 f (f2 f (hf2 f (f1 f kk)))); kd_in)) (C.weakC (cs' := cs) (by walk_at "s"))
        | true =>
          kd_p1
          rename_i C
          refine mulI C (.of_left (intBits_le_64 (by decide) (by decide))) fun t8 s16 C => ?_
          have hfi := @fmod_in c2 64 (by decide)
          have hst := @fmod_in (c2.fdiv 64) 32 (by decide)
          walk_at "zC"
          walk_at "zG"
          generalize c2.fmod 64 = fi at *
          have har : ∀ x : Int, 0 ≤ x ∧ x < 32 → 1 ≤ 1 + 2 * x ∧ 1 + 2 * x ≤ 63 := fun x hx => by clear C hfi hst; lia
          obtain ⟨sr, hsr, hsr1, hsr2⟩ : ∃ sr : Int, sr = 1 + 2 * (c2.fdiv 64).fmod 32 ∧ 1 ≤ sr ∧ sr ≤ 63 := ⟨_, rfl, har _ hst⟩
          clear har
          kd_p1
          rename_i C
          walk_at "zC"
          rw [← hsr] at C
          walk_at "zC"
          generalize ((c2.fdiv 64).fdiv 32) = c9 at C
          have hf6 : ∀ f ∈ fs5, f ∈ fs6 := fun f kk => f6 f (by kd_in)
          have hga6 : Fact.li ga gvs ∈ fs6 := hf6 _ (hf3 _ hga3)
          have hgv6 : Fact.l gvs (Ds2.map drawnAV) ∈ fs6 := hf6 _ (hf3 _ hgv3)
          have hgd6 : Fact.v (.ref gd) (drawnAV gD) ∈ fs6 := hf6 _ (hf3 _ hgd3)
          refine asT2 C (.head _) r'.hand (.head _) rfl fun s18 C => ?_
          iterate 4 walk_at "y"
          rename_i s19 C
          have hx : LR w S₀ (boxC hb c9) L ga gd sr fi __R0 fs6 s19 := ⟨_, _, _, by exact k1, by exact k2, C.weakF (by walk_at "w")⟩
          obtain ⟨t5, t6, m3, hm3g, hm3d, C⟩ := hx
          let __R4 : List Cell := cvC (L+1+1+1+1) (.int sr t6) :: cvC (L+1+1+1) (.int fi t5) :: __R0
          let __c3 : List Cell := boxC hb c9 :: .ns L m3 :: ceC (L+1+1+1+1+1) :: __R4
          dsimp only
          kd_p1
          rename_i wl s22 C
          replace C := C.frz (([(1, 0), (1, 1), (1, 4), (1, 5)] : List (Nat × Int)).map worldAV) fun g Y => relL1 (relW Y (.tail _ (.tail _ (.tail _ (.head _)))) rfl) (relL1 (relW Y (.tail _ (.tail _ (.head _))) rfl) (relL1 (relW Y (.tail _ (.head _)) rfl) (relL1 (relW Y (.head _) rfl) relL0)))
          obtain ⟨wvs, C⟩ := C.openLstR (.head _)
          let __F : List Fact := .li wl wvs :: .l wvs (([(1, 0), (1, 1), (1, 4), (1, 5)] : List (Nat × Int)).map worldAV) :: fs6
          replace C := C.weakF (fs' := __F) (by walk_at "w")
          have hwl := C.len (.tail _ (.head _))
          refine ListComp_ (cl := [("stride", L+1+1+1+1), ("first", L+1+1+1)]) (by exact rfl) ?_
          kd_p1
          rename_i C
          refine callRange C fun rg2 u5 u6 s20 C => ?_
          refine iterR (n := 24) C (.head _) (by decide) (by decide) fun it3 s21 C => ?_
          let __I : Nat → List Value → List Cell → List Fact → Prop := LW __c3 __F
          refine compW (n := 24) (I := __I) (drwR r'.hand) ?_ (by decide) ⟨rfl, (fun f kk => .tail _ (.tail _ kk)), [], (fun p hp => by cases hp), rfl, .head _⟩ C.nilL ?_ ?_
          · intro i ys cs' fs' hI
            obtain ⟨hc, _⟩ := hI
            rw [hc]
            exact ⟨trivial, _, .head _⟩
          · intro i v ys L5 m5 acc5 cs' fs7 s23 E23 hi
            revert v
            refine turnR rfl fun tk5 hI C => ?_
            walk_at "k"
            obtain ⟨hc, hf7, ws, hws, hwi, hys⟩ := hI
            replace C := C.eq3 hc
            refine lotR ?_
            kd_p1
            refine wpAny_tests_nil ?_
            kd_p1
            rename_i C
            refine mulI C (.of_left (intBits_le_64 (by kd_p) (by kd_p))) fun t9 s24 C => ?_
            kd_p1
            rename_i C
            have hx := @fmod_in (fi + sr * (0 + (i : Int) * 1)) 64 (by decide)
            walk_at "zC"
            generalize (fi + sr * (0 + (i : Int) * 1)).fmod 64 = x at C hx
            replace C := C.world (n := 2) (.head _) rfl
            replace C := C.snoc (vs := ys) (.tail _ (.tail _ hys)) (.head _)
            refine ⟨_, _, _, ⟨rfl, (by intro f kk; have := hf7 f kk; kd_in), ws ++ [(2, x)], ?_, by rw [List.length_append, hwi]; rfl, ?_⟩, C⟩
            · intro p hp
              rcases List.mem_append.mp hp with hp | hp
              · exact hws p hp
              · rw [List.mem_singleton.mp hp]; exact ⟨rfl, hx.1⟩
            · rw [List.map_append]; exact .head _
          · intro ys wb L5 m5 cs' fs7 s23 hy5 hI C s24 C
            walk_at "k"
            obtain ⟨hc, hf7, ws, hws, hwi, hys⟩ := hI
            replace C := C.eq1 hc
            have hys2 := C.len hys
            rw [List.length_map] at hys2
            kd_p1
            rename_i C
            refine addL C (.inr (hf7 _ (.head _))) (.inl (.head _)) ?_ fun wc s25 C => ?_
            · rw [hwl, hys2]; simp only [List.length_map, List.length_cons, List.length_nil]; kd_p
            replace C := C.freezeL.drop
            replace C := C.appL2 (us := wvs) (vs := ys) (.tail _ (hf7 _ (.tail _ (.head _)))) (.tail _ hys)
            walk_at "zC"
            rw [← List.map_append] at C
            obtain ⟨wz, hwz, hwzo⟩ : ∃ wz : List (Nat × Int), wz = ([(1, 0), (1, 1), (1, 4), (1, 5)] : List (Nat × Int)) ++ ws ∧ ∀ p ∈ wz, (p.1 = 1 ∨ p.1 = 2) ∧ 0 ≤ p.2 := by
              refine ⟨_, rfl, fun p hp => ?_⟩
              rcases List.mem_append.mp hp with hp | hp
              · simp only [List.mem_cons, List.not_mem_nil, or_false] at hp
                rcases hp with rfl | rfl | rfl | rfl <;> exact ⟨.inl rfl, by decide⟩
              · exact ⟨.inr (hws p hp).1, (hws p hp).2⟩
            walk_at "zC"
            rw [← hwz] at C
            kd_p1
            rename_i it4 s26 C
            have hf8 : ∀ f ∈ fs6, f ∈ fs7 := fun f kk => hf7 f (.tail _ (.tail _ kk))
            have hwzl : (wvs ++ ys).length = wz.length := by have := C.len (.head _); rwa [List.length_map] at this
            have hsound := fun (n : Nat) (bits : Int) => PL.sound (st := pst) hgok hDo2 hpr n bits
            clear hpr
            let __F2 : List Fact := .l (wvs ++ ys) (wz.map worldAV) :: .li wc (wvs ++ ys) :: fs7
            let __I : Nat → List Cell → List Fact → Prop := LZ (L+1+1+1+1+1) (boxC hb c9) (.ns L m3) __R4 __F2
            refine forW (I := __I)
              (drwL (l := wc) (vs := wvs ++ ys) r'.hand) ?_ ⟨_, .inl rfl, rfl, fun f kk => kk⟩ C ?_ ?_
            · intro i cs' fs' hI
              obtain ⟨wcell, _, hc, hf9⟩ := hI
              rw [hc]
              exact ⟨.inr (hf9 _ (.tail _ (.head _))), _, .head _⟩
            · intro i v cs' fs9 s27 E27 hi hvi hI C
              walk_at "k"
              obtain ⟨wcell, hwc, hc, hf9⟩ := hI
              replace C := C.eq1 hc
              obtain ⟨p, hp⟩ : ∃ p, wz[i]? = some p := ⟨_, List.getElem?_eq_getElem (by kd_p)⟩
              obtain ⟨hp1, hp2⟩ := hwzo p (List.mem_of_getElem? hp)
              have hp12 : p.1 ≤ 2 := by kd_p
              replace C := C.item (hf9 _ (.head _)) hvi (a := worldAV p) (by rw [List.getElem?_map, hp]; rfl)
              obtain ⟨wo, ta1, ta2, e, C2⟩ := C.openWorld
              clear C
              subst e
              have C := C2
              have hf10 : ∀ f ∈ fs6, f ∈ fs9 := fun f kk => hf9 f (.tail _ (.tail _ (hf8 f kk)))
              have hga9 := hf10 _ hga6
              have hgv9 := hf10 _ hgv6
              have hgd9 := hf10 _ hgd6
              refine lotL C (.head _) ?_
              show wpAny _ _ (assign _ _ _) _ _ _
              refine wpAny_assign_Name (stW (pre := [_, _, _]) C hwc ?_)
              intro s28 C
              dsimp only [List.cons_append, List.nil_append] at C
              kd_p1
              refine ListComp_ (cl := [("world", L+1+1+1+1+1)]) (by exact rfl) ?_
              kd_p1
              rename_i it5 s29 C
              walk_at "zC"
              let __F3 : List Fact := .ob wo (tupObj [.int p.1 ta1, .int p.2 ta2]) :: fs9
              let __c5 : List Cell := itC it4 wc (i + 1) :: boxC hb c9 :: .ns L m3 :: cvC (L+1+1+1+1+1) (.ref wo) :: __R4
              let __I : Nat → List Value → List Cell → List Fact → Prop := LT __c5 __F3 fun j => ((Ds2.take j).map fun D => truP D p.1 p.2 D.heads [0]).map .bool
              refine compW (n := gvs.length) (I := __I) (drwL (l := ga) (vs := gvs) r'.hand) ?_ (by kd_p) ⟨rfl, (fun f kk => kk), rfl⟩ C ?_ ?_
              · intro j zs cs'' fs'' hI
                obtain ⟨hc, hf11, _⟩ := hI
                rw [hc]
                exact ⟨.inr (hf11 _ (.tail _ hga9)), _, .head _⟩
              · intro j v zs L6 m6 acc6 cs'' fs11 s30 E30 hj hvj hI C
                walk_at "k"
                obtain ⟨hc, hf11, hz⟩ := hI
                replace C := C.eq3 hc
                obtain ⟨D, hD⟩ : ∃ D, Ds2[j]? = some D := ⟨_, List.getElem?_eq_getElem (by kd_p)⟩
                replace C := C.item (hf11 _ (.tail _ hgv9)) hvj (a := drawnAV D) (by rw [List.getElem?_map, hD]; rfl)
                obtain ⟨pq, _, rfl, _⟩ := C.openTup (.head _)
                have hwo := hf11 _ (.head _)
                refine lotL C (.tail _ (.tail _ (.head _))) ?_
                kd_p1
                refine wpAny_tests_nil ?_
                kd_p1
                rename_i tz _ _ nl s31 C
                replace C := C.freezeL
                replace C := C.intF (x := 0) (t := tz)
                replace C := C.oneL (u := .int 0 tz) (x := .int 0) (.head _)
                refine call_tru (th := [0]) (hDo2 D (List.mem_of_getElem? hD)) hp12 D.heads [] rfl C (r'.le ?_) (by kd_in) (by kd_in) (by kd_in) (by exact .head _) rfl (by intro x hx; rw [List.mem_singleton.mp hx]; decide) fun fs12 s32 f12 C => ?_
                · have := (hDo2 D (List.mem_of_getElem? hD)).ok.hd
                  kd_p
                · refine ⟨_, _, _, ⟨rfl, (by intro f kk; exact f12 f (by have := hf11 f kk; kd_in)), ?_⟩, C⟩
                  rw [hz, List.take_add_one, hD, List.map_append, List.map_append]
                  rfl
              · intro zs ac6 L6 m6 cs'' fs11 s30 hz6 hI C s31 C
                walk_at "k"
                obtain ⟨hc, hf11, hz⟩ := hI
                rw [List.take_of_length_le (by kd_p)] at hz
                replace C := C.eq1 hc
                subst hz
                have hgd11 := hf11 _ (.tail _ hgd9)
                have hwo := hf11 _ (.head _)
                kd_p1
                rename_i C
                refine allB C r'.hand (.tail _ (.head _)) (.inl (.head _)) fun s32 C => ?_
                kd_p1
                cases hall : (Ds2.map fun D => truP D p.1 p.2 D.heads [0]).all id with
                | false =>
                  kd_p1
                  rename_i C
                  exact ⟨_, fs11, ⟨_, .inr ⟨.ref wo, rfl⟩, rfl, fun f kk => hf11 f (.tail _ (hf9 f kk))⟩, C.drop⟩
                | true =>
                  have hg : truP gD p.1 p.2 gD.heads [0] = true := hsound p.1 p.2 hp1 hp2 fun D hD => by
                    have := List.all_eq_true.mp hall _ (List.mem_map_of_mem hD)
                    exact this
                  kd_p1
                  rename_i tz _ _ nl s33 C
                  replace C := C.freezeL
                  replace C := C.intF (x := 0) (t := tz)
                  replace C := C.oneL (u := .int 0 tz) (x := .int 0) (.head _)
                  refine call_tru (th := [0]) hgok hp12 gD.heads [] rfl C (r'.le ?_) (by kd_in) (by kd_in) (by kd_in) (by exact .head _) rfl (by intro x hx; rw [List.mem_singleton.mp hx]; decide) fun fs12 s34 f12 C => ?_
                  · have := hgok.ok.hd
                    kd_p
                  rw [hg]
                  kd_p1
                  rename_i C
                  exact ⟨_, fs12, ⟨_, .inr ⟨.ref wo, rfl⟩, rfl, fun f kk => f12 f (by have := hf11 f (.tail _ (hf9 f kk)); kd_in)⟩, C.drop⟩
            · intro cs' fs9 s27 hI C
              walk_at "k"
              obtain ⟨wcell, hwc, hc, hf9⟩ := hI
              rw [hc] at C
              kd_p1
              rename_i C
              exact h fs9 _ (fun f kk => hf9 f (.tail _ (.tail _ (hf8 f (hf6 f (hf3 f (f3 f (f2 f (hf2 f (f1 f kk)))))))))) (C.weakC (cs' := cs) (by walk_at "s"))
end
noncomputable def val (ρ : Str → Int) : E → Int
  | .con x => ρ x
  | .iv x => ρ x
  | _ => 0
noncomputable def hdE : E → Str
  | .con x => x
  | .iv x => x
  | .app f _ => hdE f
  | _ => ""
noncomputable def upd (ρ : Str → Int) (x : Str) (d : Int) : Str → Int := fun y => if y = x then d else ρ y
noncomputable abbrev Pr := Str → List Int → Bool
noncomputable def semA (pr : Pr) (ρ : Str → Int) (e : E) : Bool := pr (hdE e) ((argsE e).map (val ρ))
noncomputable def sem (pr : Pr) (n : Nat) : (Str → Int) → E → Prop
  | _, .con _ => False
  | _, .iv _ => False
  | ρ, .app f a => semA pr ρ (.app f a) = true
  | ρ, .neg t => ¬ sem pr n ρ t
  | ρ, .and a b => sem pr n ρ a ∧ sem pr n ρ b
  | ρ, .or a b => sem pr n ρ a ∨ sem pr n ρ b
  | ρ, .imp a b => sem pr n ρ a → sem pr n ρ b
  | ρ, .all x t => ∀ d : Int, 0 ≤ d → d < n → sem pr n (upd ρ x d) t
  | ρ, .ex x t => ∃ d : Int, 0 ≤ d ∧ d < n ∧ sem pr n (upd ρ x d) t
noncomputable def nms : E → List Str
  | .con x => [x]
  | .iv x => [x]
  | .app f a => nms f ++ nms a
  | .neg t => nms t
  | .and a b => nms a ++ nms b
  | .or a b => nms a ++ nms b
  | .imp a b => nms a ++ nms b
  | .all x t => x :: nms t
  | .ex x t => x :: nms t
noncomputable def conOk : E → Prop
  | .con x => x ∉ bndN
  | .iv _ => True
  | .app f a => hdE f ∉ bndN ∧ conOk f ∧ conOk a
  | .neg t => conOk t
  | .and a b => conOk a ∧ conOk b
  | .or a b => conOk a ∧ conOk b
  | .imp a b => conOk a ∧ conOk b
  | .all _ t => conOk t
  | .ex _ t => conOk t
theorem val_congr {ρ ρ' : Str → Int} : ∀ {e : E}, (∀ x ∈ nms e, ρ x = ρ' x) → val ρ e = val ρ' e
  | .con x, h => h x (.head _)
  | .iv x, h => h x (.head _)
  | .app _ _, _ => rfl | .neg _, _ => rfl | .and _ _, _ => rfl | .or _ _, _ => rfl | .imp _ _, _ => rfl | .all _ _, _ => rfl | .ex _ _, _ => rfl
theorem argsE_nms : ∀ {e : E}, ∀ a ∈ argsE e, ∀ x ∈ nms a, x ∈ nms e
  | .app f b, a, ha, x, hx => by
    rcases List.mem_append.mp ha with ha | ha
    · exact List.mem_append_left _ (argsE_nms a ha x hx)
    · rw [List.mem_singleton.mp ha] at hx; exact List.mem_append_right _ hx
  | .con _, _, ha, _, _ => by cases ha
  | .iv _, _, ha, _, _ => by cases ha
  | .neg _, _, ha, _, _ => by cases ha
  | .and _ _, _, ha, _, _ => by cases ha
  | .or _ _, _, ha, _, _ => by cases ha
  | .imp _ _, _, ha, _, _ => by cases ha
  | .all _ _, _, ha, _, _ => by cases ha
  | .ex _ _, _, ha, _, _ => by cases ha
theorem semA_congr {pr : Pr} {ρ ρ' : Str → Int} {e : E} (h : ∀ x ∈ nms e, ρ x = ρ' x) : semA pr ρ e = semA pr ρ' e := by
  unfold semA
  congr 1
  exact List.map_congr_left fun a ha => val_congr fun x hx => h x (argsE_nms a ha x hx)
theorem upd_congr {ρ ρ' : Str → Int} {x : Str} {d : Int} {l : List Str} (h : ∀ y ∈ x :: l, ρ y = ρ' y) : ∀ y ∈ l, upd ρ x d y = upd ρ' x d y := fun y hy => by
  unfold upd
  split
  · rfl
  · exact h y (.tail _ hy)
theorem sem_congr {pr : Pr} {n : Nat} : ∀ {e : E} {ρ ρ' : Str → Int}, (∀ x ∈ nms e, ρ x = ρ' x) → (sem pr n ρ e ↔ sem pr n ρ' e)
  | .con _, _, _, _ => Iff.rfl
  | .iv _, _, _, _ => Iff.rfl
  | .app f a, ρ, ρ', h => by
    show semA pr ρ (.app f a) = true ↔ semA pr ρ' (.app f a) = true
    rw [semA_congr h]
  | .neg t, ρ, ρ', h => not_congr (sem_congr (e := t) h)
  | .and a b, ρ, ρ', h => and_congr (sem_congr (e := a) fun x hx => h x (List.mem_append_left _ hx)) (sem_congr (e := b) fun x hx => h x (List.mem_append_right _ hx))
  | .or a b, ρ, ρ', h => or_congr (sem_congr (e := a) fun x hx => h x (List.mem_append_left _ hx)) (sem_congr (e := b) fun x hx => h x (List.mem_append_right _ hx))
  | .imp a b, ρ, ρ', h => imp_congr (sem_congr (e := a) fun x hx => h x (List.mem_append_left _ hx)) (sem_congr (e := b) fun x hx => h x (List.mem_append_right _ hx))
  | .all x t, ρ, ρ', h => forall_congr' fun d => imp_congr_right fun _ => imp_congr_right fun _ => sem_congr (e := t) (upd_congr h)
  | .ex x t, ρ, ρ', h => exists_congr fun d => and_congr_right fun _ => and_congr_right fun _ => sem_congr (e := t) (upd_congr h)
noncomputable def okY (y : E) : Prop := ∃ m, nameE y = some m ∧ m ∉ bndN
theorem okY_okA {y : E} (h : okY y) : okA y := by
  obtain ⟨m, h1, h2⟩ := h
  exact ⟨⟨m, h1⟩, fun x hx e => by subst e; cases h1; exact h2 hx⟩
theorem val_upd {ρ : Str → Int} {y : E} {x : Str} {d : Int} (h : okY y) (hx : x ∈ bndN) : val (upd ρ x d) y = val ρ y := by
  obtain ⟨m, h1, h2⟩ := h
  have k : (if m = x then d else ρ m) = ρ m := if_neg fun (e : m = x) => h2 (e ▸ hx)
  cases y <;> first | (cases h1; exact k) | cases h1
theorem val_sub {ρ : Str → Int} {y : E} {x : Str} : ∀ {e : E}, (nameE e).isSome → val ρ (sub x y e) = val (upd ρ x (val ρ y)) e := by
  intro e he
  cases e with
  | con n => unfold sub; show val ρ (if _ then _ else _) = (if n = x then _ else _); by_cases h : n = x <;> simp [h, val]
  | iv n => unfold sub; show val ρ (if _ then _ else _) = (if n = x then _ else _); by_cases h : n = x <;> simp [h, val]
  | _ => cases he
theorem hdE_sub {x : Str} {y : E} : ∀ {f : E}, hdE f ≠ x → hdE (sub x y f) = hdE f
  | .con n, h => by
    have h : n ≠ x := h
    unfold sub
    rw [if_neg (by simpa using h)]
  | .iv n, h => by
    have h : n ≠ x := h
    unfold sub
    rw [if_neg (by simpa using h)]
  | .app f b, h => hdE_sub (f := f) h
  | .neg _, _ => rfl | .and _ _, _ => rfl | .or _ _, _ => rfl | .imp _ _, _ => rfl
  | .all z t, _ => by unfold sub; split <;> rfl
  | .ex z t, _ => by unfold sub; split <;> rfl
theorem upd_same {ρ : Str → Int} {x : Str} {a b : Int} : upd (upd ρ x a) x b = upd ρ x b := by
  funext z; unfold upd; split <;> rfl
theorem upd_comm {ρ : Str → Int} {x y : Str} {a b : Int} (h : x ≠ y) : upd (upd ρ x a) y b = upd (upd ρ y b) x a := by
  funext z; unfold upd
  by_cases h1 : z = x
  · subst h1; simp [h]
  · simp [h1]
theorem sem_sub {pr : Pr} {n : Nat} {x : Str} {y : E} (hy : okY y) (hx : x ∈ bndN) : ∀ {t : E} {ρ : Str → Int} {bs : List Str}, wfE t → clE bs t → conOk t → (sem pr n ρ (sub x y t) ↔ sem pr n (upd ρ x (val ρ y)) t)
  | .con _, _, _, h, _, _ => h.elim
  | .iv _, _, _, h, _, _ => h.elim
  | .app f a, ρ, bs, h, _, k => by
    show semA pr ρ (sub x y (.app f a)) = true ↔ semA pr (upd ρ x (val ρ y)) (.app f a) = true
    obtain ⟨m, hm, _⟩ := hy
    have e : semA pr ρ (sub x y (.app f a)) = semA pr (upd ρ x (val ρ y)) (.app f a) := by
      unfold semA
      rw [argsE_sub hm, hdE_sub (f := .app f a) (fun e => k.1 (e ▸ hx)), List.map_map]
      congr 1
      refine List.map_congr_left fun b hb => ?_
      obtain ⟨c, hc⟩ := h.2.2 b hb
      exact val_sub (by rw [hc]; rfl)
    rw [e]
  | .neg t, _, bs, h, c, k => not_congr (sem_sub hy hx (t := t) (bs := bs) h c k)
  | .and a b, _, _, h, c, k => and_congr (sem_sub hy hx h.1 c.1 k.1) (sem_sub hy hx h.2 c.2 k.2)
  | .or a b, _, _, h, c, k => or_congr (sem_sub hy hx h.1 c.1 k.1) (sem_sub hy hx h.2 c.2 k.2)
  | .imp a b, _, _, h, c, k => imp_congr (sem_sub hy hx h.1 c.1 k.1) (sem_sub hy hx h.2 c.2 k.2)
  | .all z t, ρ, bs, h, c, k => by
    unfold sub
    split
    · rename_i e
      obtain rfl := beq_iff_eq.mp e
      show (∀ d : Int, _ → _ → _) ↔ (∀ d : Int, _ → _ → _)
      simp only [upd_same]
    · rename_i e
      have e : z ≠ x := fun q => e (beq_iff_eq.mpr q)
      refine forall_congr' fun d => imp_congr_right fun _ => imp_congr_right fun _ => ?_
      rw [sem_sub hy hx (t := t) h c.2 k, val_upd hy c.1, upd_comm e]
  | .ex z t, ρ, bs, h, c, k => by
    unfold sub
    split
    · rename_i e
      obtain rfl := beq_iff_eq.mp e
      show (∃ d : Int, _ ∧ _ ∧ _) ↔ (∃ d : Int, _ ∧ _ ∧ _)
      simp only [upd_same]
    · rename_i e
      have e : z ≠ x := fun q => e (beq_iff_eq.mpr q)
      refine exists_congr fun d => and_congr_right fun _ => and_congr_right fun _ => ?_
      rw [sem_sub hy hx (t := t) h c.2 k, val_upd hy c.1, upd_comm e]
theorem nms_sub {x : Str} {y : E} : ∀ {e : E}, ∀ w ∈ nms (sub x y e), w ∈ nms e ∨ w ∈ nms y
  | .con n, w, h => by unfold sub at h; split at h <;> first | exact .inr h | exact .inl h
  | .iv n, w, h => by unfold sub at h; split at h <;> first | exact .inr h | exact .inl h
  | .app f a, w, h => (List.mem_append.mp h).elim (fun h => (nms_sub w h).imp_left fun h => List.mem_append_left _ h) (fun h => (nms_sub w h).imp_left fun h => List.mem_append_right _ h)
  | .neg t, w, h => nms_sub (e := t) w h
  | .and f a, w, h => (List.mem_append.mp h).elim (fun h => (nms_sub w h).imp_left fun h => List.mem_append_left _ h) (fun h => (nms_sub w h).imp_left fun h => List.mem_append_right _ h)
  | .or f a, w, h => (List.mem_append.mp h).elim (fun h => (nms_sub w h).imp_left fun h => List.mem_append_left _ h) (fun h => (nms_sub w h).imp_left fun h => List.mem_append_right _ h)
  | .imp f a, w, h => (List.mem_append.mp h).elim (fun h => (nms_sub w h).imp_left fun h => List.mem_append_left _ h) (fun h => (nms_sub w h).imp_left fun h => List.mem_append_right _ h)
  | .all z t, w, h => by
    unfold sub at h
    split at h
    · exact .inl h
    · exact (List.mem_cons.mp h).elim (fun e => .inl (e ▸ .head _)) fun h => (nms_sub w h).imp_left fun h => .tail _ h
  | .ex z t, w, h => by
    unfold sub at h
    split at h
    · exact .inl h
    · exact (List.mem_cons.mp h).elim (fun e => .inl (e ▸ .head _)) fun h => (nms_sub w h).imp_left fun h => .tail _ h
theorem okY_con {y : E} (h : okY y) : conOk y := by
  obtain ⟨m, h1, h2⟩ := h
  cases y <;> first | (cases h1; exact h2) | trivial | cases h1
theorem conOk_sub {x : Str} {y : E} (hy : okY y) (hx : x ∈ bndN) : ∀ {e : E}, conOk e → conOk (sub x y e)
  | .con n, h => by unfold sub; split <;> first | exact okY_con hy | exact h
  | .iv n, h => by unfold sub; split <;> first | exact okY_con hy | exact h
  | .app f a, h => ⟨by show hdE (sub x y f) ∉ bndN; rw [hdE_sub fun e => h.1 (e ▸ hx)]; exact h.1, conOk_sub hy hx h.2.1, conOk_sub hy hx h.2.2⟩
  | .neg t, h => conOk_sub hy hx (e := t) h
  | .and f a, h => ⟨conOk_sub hy hx h.1, conOk_sub hy hx h.2⟩
  | .or f a, h => ⟨conOk_sub hy hx h.1, conOk_sub hy hx h.2⟩
  | .imp f a, h => ⟨conOk_sub hy hx h.1, conOk_sub hy hx h.2⟩
  | .all z t, h => by unfold sub; split <;> first | exact h | exact conOk_sub hy hx (e := t) h
  | .ex z t, h => by unfold sub; split <;> first | exact h | exact conOk_sub hy hx (e := t) h
theorem eqE_val {ρ : Str → Int} : ∀ {a b : E}, eqE a b = true → hdE a = hdE b ∧ (argsE a).map (val ρ) = (argsE b).map (val ρ) ∧ val ρ a = val ρ b := by
  intro a
  induction a with
  | con m => intro b h; cases b <;> first | (have e := beq_iff_eq.mp (show (m == _) = true from h); subst e; exact ⟨rfl, rfl, rfl⟩) | exact nomatch (show false = true from h)
  | iv m => intro b h; cases b <;> first | (have e := beq_iff_eq.mp (show (m == _) = true from h); subst e; exact ⟨rfl, rfl, rfl⟩) | exact nomatch (show false = true from h)
  | app f x ih1 ih2 =>
    intro b h
    cases b <;> try exact nomatch (show false = true from h)
    rename_i g y
    obtain ⟨h1, h2⟩ := Bool.and_eq_true_iff.mp (show (eqE f g && eqE x y) = true from h)
    obtain ⟨a1, a2, a3⟩ := ih1 h1
    obtain ⟨b1, b2, b3⟩ := ih2 h2
    exact ⟨a1, by show (argsE f ++ [x]).map _ = (argsE g ++ [y]).map _; rw [List.map_append, List.map_append, a2]; simp [b3], rfl⟩
  | _ => intro b h; cases b <;> exact nomatch (show false = true from h)
theorem eqE_semA {pr : Pr} {ρ : Str → Int} {a b : E} (h : eqE a b = true) : semA pr ρ a = semA pr ρ b := by
  obtain ⟨h1, h2, _⟩ := eqE_val (ρ := ρ) h
  unfold semA; rw [h1, h2]
noncomputable def baseN : List Str := ["rex", "tom", "dog", "old", "sees", "x", "y"]
noncomputable def nmOk (c : Int) (x : Str) : Prop := x ∈ baseN ∨ ∃ j, 1 ≤ j ∧ j ≤ c ∧ x = zN j
theorem nmOk.le {c d : Int} {x : Str} (h : nmOk c x) (k : c ≤ d) : nmOk d x := h.imp_right fun ⟨j, h1, h2, h3⟩ => ⟨j, h1, Int.le_trans h2 k, h3⟩
theorem zN_base {k : Int} (h0 : 0 ≤ k) (h1 : k < 64) {x : Str} (hx : x ∈ baseN) : zN k ≠ x := by
  intro e
  obtain ⟨n, rfl⟩ := Int.eq_ofNat_of_zero_le h0
  have z := List.all_eq_true.mp (show ((List.range 64).all fun k => baseN.all fun x => zN k != x) = true by kernel_rfl) n (List.mem_range.mpr (by lia))
  exact bne_iff_ne.mp (List.all_eq_true.mp z x hx) e
theorem bnd_base {x : Str} (h : x ∈ bndN) : x ∈ baseN := show x ∈ ([("rex" : Str), "tom", "dog", "old", "sees"] : List Str) ++ bndN from List.mem_append_right _ h
theorem zE_okY {k : Int} (h0 : 0 ≤ k) (h1 : k < 64) : okY (zE k) := ⟨zN k, rfl, fun h => zN_base h0 h1 (bnd_base h) rfl⟩
theorem nmOk_new {c : Int} (h0 : 0 ≤ c) (h1 : c < 59) {x : Str} (h : nmOk c x) : x ≠ zN (c + 1) := by
  rcases h with h | ⟨j, a, b, rfl⟩
  · exact fun e => zN_base (by lia) (by lia) h e.symm
  · intro e
    have := zN_inj (by lia) (by lia) (by lia) (by lia) e
    lia
structure FO (c : Int) (e : E) : Prop where
  wf : wfE e
  cl : clE [] e
  co : conOk e
  nm : ∀ w ∈ nms e, nmOk c w
theorem FO.le {c d : Int} {e : E} (h : FO c e) (k : c ≤ d) : FO d e := ⟨h.wf, h.cl, h.co, fun w hw => (h.nm w hw).le k⟩
structure FY (c : Int) (y : E) : Prop where
  ok : okY y
  nm : ∀ w ∈ nms y, nmOk c w
theorem FY.le {c d : Int} {e : E} (h : FY c e) (k : c ≤ d) : FY d e := ⟨h.ok, fun w hw => (h.nm w hw).le k⟩
theorem zE_FY {c : Int} (h0 : 0 ≤ c) (h1 : c < 59) : FY (c + 1) (zE (c + 1)) := ⟨zE_okY (by lia) (by lia), fun w hw => .inr ⟨c + 1, by lia, Int.le_refl _, List.mem_singleton.mp hw⟩⟩
noncomputable def memP (P : PAg) (e : E) : Prop := (∃ l ∈ P.1, e ∈ l) ∨ ∃ q ∈ P.2, e = .all q.1 q.2.1
theorem memP_fresh {P : PAg} {e : E} (h : memP (freshP P) e) : memP P e := h.imp_right fun ⟨q, hq, he⟩ => by
  obtain ⟨p, hp, rfl⟩ := List.mem_map.mp hq
  exact ⟨p, hp, he⟩
theorem memP_clone {P : PAg} {e : E} (h : memP (cloneP P) e) : memP P e := h.imp_right fun ⟨q, hq, he⟩ => by
  obtain ⟨p, hp, rfl⟩ := List.mem_map.mp hq
  exact ⟨p, hp, he⟩
theorem memP_add {P : PAg} {q : PAll} {e : E} (h : memP (addAllP P q) e) : memP P e ∨ e = .all q.1 q.2.1 := by
  rcases h with h | ⟨p, hp, he⟩
  · exact .inl (.inl h)
  · rcases List.mem_append.mp hp with hp | hp
    · exact .inl (.inr ⟨p, hp, he⟩)
    · rw [List.mem_singleton.mp hp] at he; exact .inr he
theorem mem_modify {ls : List (List E)} {k : Nat} {e : E} {l : List E} (h : l ∈ ls.modify k (· ++ [e])) : ∀ x ∈ l, (∃ l' ∈ ls, x ∈ l') ∨ x = e := by
  intro x hx
  obtain ⟨i, hi⟩ := List.mem_iff_getElem?.mp h
  rw [List.getElem?_modify] at hi
  obtain ⟨l', h1, h2⟩ := Option.map_eq_some_iff.mp hi
  have hm := List.mem_of_getElem? h1
  split at h2
  · subst h2
    rcases List.mem_append.mp hx with hx | hx
    · exact .inl ⟨_, hm, hx⟩
    · exact .inr (List.mem_singleton.mp hx)
  · subst h2; exact .inl ⟨_, hm, hx⟩
theorem memP_put {P : PAg} {f e : E} (h : memP (putP P f) e) : memP P e ∨ e = f := by
  by_cases ha : ∃ x t, f = .all x t
  · obtain ⟨x, t, rfl⟩ := ha
    exact memP_add (q := (x, t, some [], false)) h
  · have e1 : putP P f = (P.1.modify (catE f).toNat (· ++ [f]), P.2) := by
      cases f <;> first | rfl | exact absurd ⟨_, _, rfl⟩ ha
    rw [e1] at h
    rcases h with ⟨l, hl, he⟩ | h
    · exact (mem_modify hl e he).imp_left .inl
    · exact .inl (.inr h)
theorem memP_pop {P : PAg} {k : Nat} {e : E} {ls : List (List E)} (hf : firstNE P.1 = some (k, e, ls)) : memP P e ∧ (∃ l ∈ P.1, e ∈ l) ∧ ∀ f, memP (ls, P.2) f → memP P f := by
  obtain ⟨l1, l, l2, h1, rfl, rfl, _⟩ := firstNE_spec hf
  have hz : ∃ l ∈ P.1, e ∈ l := ⟨l ++ [e], by rw [h1]; simp, by simp⟩
  refine ⟨.inl hz, hz, fun f h => ?_⟩
  rcases h with ⟨m, hm, hx⟩ | h
  · refine .inl ?_
    rw [h1]
    rcases List.mem_append.mp hm with hm | hm
    · exact ⟨m, List.mem_append_left _ hm, hx⟩
    · rcases List.mem_cons.mp hm with rfl | hm
      · exact ⟨m ++ [e], by simp, List.mem_append_left _ hx⟩
      · exact ⟨m, List.mem_append_right _ (.tail _ hm), hx⟩
  · exact .inr h
theorem memP_popA {P : PAg} {l1 l2 : List PAll} {q : PAll} (hf : splitX P.2 = some (l1, q, l2)) : memP P (.all q.1 q.2.1) ∧ ∀ f, memP (P.1, l1 ++ l2) f → memP P f := by
  obtain ⟨h1, _⟩ := splitX_spec hf
  refine ⟨.inr ⟨q, by rw [h1]; simp, rfl⟩, fun f h => ?_⟩
  rcases h with h | ⟨p, hp, he⟩
  · exact .inl h
  · refine .inr ⟨p, ?_, he⟩
    rw [h1]
    rcases List.mem_append.mp hp with hp | hp
    · exact List.mem_append_left _ hp
    · exact List.mem_append_right _ (.tail _ hp)
structure Sc (c : Int) (P : PAg) (acc : List E) (ats : List (E × Bool)) : Prop where
  f : ∀ e, memP P e → FO c e
  a : ∀ y ∈ acc, FY c y
  t : ∀ p ∈ ats, ∀ w ∈ nms p.1, nmOk c w
section
variable {c d : Int} {P : PAg} {acc : List E} {ats : List (E × Bool)} {e : E} {q : PAll}
theorem Sc.le (h : Sc c P acc ats) (k : c ≤ d) : Sc d P acc ats := ⟨fun e he => (h.f e he).le k, fun y hy => (h.a y hy).le k, fun p hp w hw => (h.t p hp w hw).le k⟩
theorem Sc.put (h : Sc c P acc ats) (k : FO c e) : Sc c (putP P e) acc ats := ⟨fun f hf => (memP_put hf).elim (h.f f) fun e => e ▸ k, h.a, h.t⟩
theorem Sc.fresh (h : Sc c P acc ats) : Sc c (freshP P) acc ats := ⟨fun f hf => h.f f (memP_fresh hf), h.a, h.t⟩
theorem Sc.clone (h : Sc c P acc ats) : Sc c (cloneP P) acc ats := ⟨fun f hf => h.f f (memP_clone hf), h.a, h.t⟩
theorem Sc.add (h : Sc c P acc ats) (k : FO c (.all q.1 q.2.1)) : Sc c (addAllP P q) acc ats := ⟨fun f hf => (memP_add hf).elim (h.f f) fun e => e ▸ k, h.a, h.t⟩
theorem Sc.addA {x : Str} {t : E} {u : Option (List E)} {b : Bool} (h : Sc c P acc ats) (k : FO c (.all x t)) : Sc c (addAllP P (x, t, u, b)) acc ats := h.add k
theorem Sc.un {ys : List E} (h : Sc c P acc ats) (k : ∀ y ∈ ys, FY c y) : Sc c P (unE acc ys) ats := ⟨h.f, fun y hy => (unE_mem hy).elim (h.a y) (k y), h.t⟩
theorem Sc.unP {p : E × Bool} (h : Sc c P acc ats) (k : ∀ w ∈ nms p.1, nmOk c w) : Sc c P acc (Tbx.unP ats [p]) := ⟨h.f, h.a, fun y hy => (unP_mem hy).elim (h.t y) fun hy => List.mem_singleton.mp hy ▸ k⟩
end
theorem FO.sub {c : Int} {x : Str} {t y : E} (h : FO c (.all x t)) (hy : FY c y) : FO c (Tbx.sub x y t) := by
  have hx : x ∈ bndN := h.cl.1
  have ho := okY_okA hy.ok
  obtain ⟨m, hm⟩ := ho.1
  exact ⟨wfE_sub hm (show wfE t from h.wf), clE_sub ho h.cl.2, conOk_sub hy.ok hx (show conOk t from h.co), fun w hw => (nms_sub w hw).elim (fun k => h.nm w (.tail _ k)) (hy.nm w)⟩
theorem FO.exAll {c : Int} {x : Str} {t : E} (h : FO c (.ex x t)) : FO c (.all x t) := ⟨h.wf, h.cl, h.co, h.nm⟩
theorem args_FY {c : Int} : ∀ {e : E}, (∀ y ∈ argsE e, ∃ n, nameE y = some n) → clE [] e → conOk e → (∀ w ∈ nms e, nmOk c w) → ∀ y ∈ argsE e, FY c y
  | .app f a, h1, h2, h3, h4, y, hy => by
    rcases List.mem_append.mp hy with k | k
    · exact args_FY (e := f) (fun z hz => h1 z (List.mem_append_left _ hz)) h2.1 h3.2.1 (fun w hw => h4 w (List.mem_append_left _ hw)) y k
    · obtain rfl := List.mem_singleton.mp k
      refine ⟨?_, fun w hw => h4 w (List.mem_append_right _ hw)⟩
      obtain ⟨n, hn⟩ := h1 y hy
      refine ⟨n, hn, fun hb => ?_⟩
      cases y with
      | con m => cases hn; exact h3.2.2 hb
      | iv m => cases hn; exact List.not_mem_nil (h2.2 hb)
      | _ => cases hn
  | .con _, _, _, _, _, _, hy => by cases hy
  | .iv _, _, _, _, _, _, hy => by cases hy
  | .neg _, _, _, _, _, _, hy => by cases hy
  | .and _ _, _, _, _, _, _, hy => by cases hy
  | .or _ _, _, _, _, _, _, hy => by cases hy
  | .imp _ _, _, _, _, _, _, hy => by cases hy
  | .all _ _, _, _, _, _, _, hy => by cases hy
  | .ex _ _, _, _, _, _, _, hy => by cases hy
section
variable (pr : Pr) (n : Nat)
noncomputable def vl (ρ : Str → Int) : Prop := ∀ x, 0 ≤ ρ x ∧ ρ x < n
structure Tr (ρ : Str → Int) (P : PAg) (ats : List (E × Bool)) : Prop where
  f : ∀ e, memP P e → sem pr n ρ e
  t : ∀ p ∈ ats, semA pr ρ p.1 = !p.2
end
section
variable {pr : Pr} {n : Nat} {ρ : Str → Int} {c d : Int} {P : PAg} {acc : List E} {ats : List (E × Bool)} {e : E} {q : PAll}
theorem Tr.put (h : Tr pr n ρ P ats) (k : sem pr n ρ e) : Tr pr n ρ (putP P e) ats := ⟨fun f hf => (memP_put hf).elim (h.f f) fun e => e ▸ k, h.t⟩
theorem Tr.fresh (h : Tr pr n ρ P ats) : Tr pr n ρ (freshP P) ats := ⟨fun f hf => h.f f (memP_fresh hf), h.t⟩
theorem Tr.clone (h : Tr pr n ρ P ats) : Tr pr n ρ (cloneP P) ats := ⟨fun f hf => h.f f (memP_clone hf), h.t⟩
theorem Tr.add (h : Tr pr n ρ P ats) (k : sem pr n ρ (.all q.1 q.2.1)) : Tr pr n ρ (addAllP P q) ats := ⟨fun f hf => (memP_add hf).elim (h.f f) fun e => e ▸ k, h.t⟩
theorem Tr.addA {x : Str} {t : E} {u : Option (List E)} {b : Bool} (h : Tr pr n ρ P ats) (k : sem pr n ρ (.all x t)) : Tr pr n ρ (addAllP P (x, t, u, b)) ats := h.add k
theorem Tr.unP {p : E × Bool} (h : Tr pr n ρ P ats) (k : semA pr ρ p.1 = !p.2) : Tr pr n ρ P (Tbx.unP ats [p]) := ⟨h.f, fun y hy => (unP_mem hy).elim (h.t y) fun hy => List.mem_singleton.mp hy ▸ k⟩
theorem Tr.congr {ρ' : Str → Int} (S : Sc c P acc ats) (k : ∀ x, nmOk c x → ρ x = ρ' x) (h : Tr pr n ρ P ats) : Tr pr n ρ' P ats :=
  ⟨fun f hf => (sem_congr fun x hx => k x ((S.f f hf).nm x hx)).mp (h.f f hf), fun p hp => (semA_congr fun x hx => k x (S.t p hp x hx)) ▸ h.t p hp⟩
theorem val_vl (h : vl n ρ) {y : E} (hy : okY y) : 0 ≤ val ρ y ∧ val ρ y < n := by
  obtain ⟨m, hm, _⟩ := hy
  cases y <;> first | exact h _ | cases hm
theorem sem_inst {x : Str} {t y : E} (hv : vl n ρ) (hf : FO c (.all x t)) (hy : okY y) (h : sem pr n ρ (.all x t)) : sem pr n ρ (sub x y t) :=
  (sem_sub hy hf.cl.1 (t := t) hf.wf hf.cl.2 hf.co).mpr (h _ (val_vl hv hy).1 (val_vl hv hy).2)
theorem any_semA {b : Bool} (h : Tr pr n ρ P ats) (k : (ats.any fun p => kP.eq p (e, b)) = true) : semA pr ρ e = !b := by
  obtain ⟨p, hp, hq⟩ := List.any_eq_true.mp k
  obtain ⟨h1, h2⟩ := Bool.and_eq_true_iff.mp (show (eqE p.1 e && (p.2 == b)) = true from hq)
  rw [← eqE_semA h1, h.t p hp, beq_iff_eq.mp h2]
end
noncomputable def Good (rec : Rec) : Prop := ∀ {P acc ats st st'}, 0 ≤ st.1 → Sc st.1 P acc ats → rec P acc ats st = some (true, st') → ∀ {pr : Pr} {n : Nat} {ρ : Str → Int}, vl n ρ → Tr pr n ρ P ats → False
theorem orS_good {rec : Rec} (G : Good rec) (hl : RecLe rec) {P1 P2 : PAg} {acc : List E} {ats : List (E × Bool)} {st st' : PSt} (h0 : 0 ≤ st.1) (S1 : Sc st.1 P1 acc ats) (S2 : Sc st.1 P2 acc ats) (e : orS rec P1 P2 acc ats st = some (true, st')) {pr : Pr} {n : Nat} {ρ : Str → Int} (hv : vl n ρ)
    (h : Tr pr n ρ P1 ats ∨ Tr pr n ρ P2 ats) : False := by
  unfold orS at e
  split at e
  · rename_i st1 e1
    rcases h with h | h
    · exact G h0 S1 e1 hv h
    · have := (hl e1).2
      exact G (Int.le_trans h0 this) (S2.le this) e hv h
  · cases e
  · cases e
theorem stepE_good {rec : Rec} (G : Good rec) (hl : RecLe rec) {f : E} {P : PAg} {acc : List E} {ats : List (E × Bool)} {st st' : PSt} (h0 : 0 ≤ st.1) (S : Sc st.1 P acc ats) (F : FO st.1 f) (e : stepE rec f P acc ats st = some (true, st')) {pr : Pr} {n : Nat} {ρ : Str → Int} (hv : vl n ρ)
    (h : Tr pr n ρ P ats) (hf : sem pr n ρ f) : False := by
  unfold stepE at e
  split at e
  · rename_i f x
    split at e
    · rename_i k
      have z := any_semA h k
      rw [show semA pr ρ (.app f x) = true from hf] at z
      cases z
    · exact G h0 ((S.fresh.un (args_FY F.wf.2.2 F.cl F.co F.nm)).unP F.nm) e hv (h.fresh.unP hf)
  · rename_i f x
    have hz : semA pr ρ (.app f x) = false := by
      cases k : semA pr ρ (.app f x) with
      | false => rfl
      | true => exact absurd k hf
    split at e
    · rename_i k
      have z := any_semA h k
      rw [hz] at z
      cases z
    · have Fw : wfE (.app f x) := F.wf
      exact G h0 ((S.fresh.un (args_FY Fw.2.2 F.cl F.co F.nm)).unP F.nm) e hv (h.fresh.unP hz)
  · rename_i t
    exact G h0 (S.put (e := t) ⟨F.wf, F.cl, F.co, F.nm⟩) e hv (h.put (Classical.byContradiction hf))
  · rename_i x t
    refine G h0 (S.put (e := .ex x (.neg t)) ⟨F.wf, F.cl, F.co, F.nm⟩) e hv (h.put ?_)
    obtain ⟨d, hd⟩ := Classical.not_forall.mp hf
    obtain ⟨h1, hd⟩ := Classical.not_imp.mp hd
    obtain ⟨h2, hd⟩ := Classical.not_imp.mp hd
    exact ⟨d, h1, h2, hd⟩
  · rename_i x t
    refine G h0 (S.add (q := (x, .neg t, none, false)) ⟨F.wf, F.cl, F.co, F.nm⟩) e hv (h.add ?_)
    exact fun d h1 h2 h3 => hf ⟨d, h1, h2, h3⟩
  · rename_i a b
    exact G h0 ((S.put (e := a) ⟨F.wf.1, F.cl.1, F.co.1, fun w hw => F.nm w (List.mem_append_left _ hw)⟩).put (e := b) ⟨F.wf.2, F.cl.2, F.co.2, fun w hw => F.nm w (List.mem_append_right _ hw)⟩) e hv ((h.put hf.1).put hf.2)
  · rename_i a b
    have F1 : FO st.1 (.or a b) := ⟨F.wf, F.cl, F.co, F.nm⟩
    exact G h0 ((S.put (e := .neg a) ⟨F1.wf.1, F1.cl.1, F1.co.1, fun w hw => F.nm w (List.mem_append_left _ hw)⟩).put (e := .neg b) ⟨F1.wf.2, F1.cl.2, F1.co.2, fun w hw => F.nm w (List.mem_append_right _ hw)⟩) e hv
      ((h.put (e := .neg a) fun k => hf (.inl k)).put (e := .neg b) fun k => hf (.inr k))
  · rename_i a b
    have F1 : FO st.1 (.imp a b) := ⟨F.wf, F.cl, F.co, F.nm⟩
    obtain ⟨k1, k2⟩ := Classical.not_imp.mp hf
    exact G h0 ((S.put (e := a) ⟨F1.wf.1, F1.cl.1, F1.co.1, fun w hw => F.nm w (List.mem_append_left _ hw)⟩).put (e := .neg b) ⟨F1.wf.2, F1.cl.2, F1.co.2, fun w hw => F.nm w (List.mem_append_right _ hw)⟩) e hv
      ((h.put k1).put (e := .neg b) k2)
  · rename_i a b
    refine orS_good G hl h0 (S.put (e := a) ⟨F.wf.1, F.cl.1, F.co.1, fun w hw => F.nm w (List.mem_append_left _ hw)⟩) (S.clone.put (e := b) ⟨F.wf.2, F.cl.2, F.co.2, fun w hw => F.nm w (List.mem_append_right _ hw)⟩) e (pr := pr) hv ?_
    exact hf.imp (fun k => h.put k) fun k => h.clone.put k
  · rename_i a b
    refine orS_good G hl h0 (S.put (e := .neg a) ⟨F.wf.1, F.cl.1, F.co.1, fun w hw => F.nm w (List.mem_append_left _ hw)⟩) (S.clone.put (e := b) ⟨F.wf.2, F.cl.2, F.co.2, fun w hw => F.nm w (List.mem_append_right _ hw)⟩) e (pr := pr) hv ?_
    by_cases k : sem pr n ρ a
    · exact .inr (h.clone.put (hf k))
    · exact .inl (h.put (e := .neg a) k)
  · rename_i a b
    have F1 : FO st.1 (.and a b) := ⟨F.wf, F.cl, F.co, F.nm⟩
    refine orS_good G hl h0 (S.put (e := .neg a) ⟨F1.wf.1, F1.cl.1, F1.co.1, fun w hw => F.nm w (List.mem_append_left _ hw)⟩) (S.clone.put (e := .neg b) ⟨F1.wf.2, F1.cl.2, F1.co.2, fun w hw => F.nm w (List.mem_append_right _ hw)⟩) e (pr := pr) hv ?_
    by_cases k : sem pr n ρ a
    · exact .inr (h.clone.put (e := .neg b) fun k2 => hf ⟨k, k2⟩)
    · exact .inl (h.put (e := .neg a) k)
  · rename_i x t
    split at e
    · rename_i hc
      have Y := zE_FY h0 hc
      obtain ⟨d, d0, d1, hd⟩ := hf
      have S' : Sc (st.1 + 1) P acc ats := S.le (by lia)
      have FA : FO (st.1 + 1) (.all x t) := F.exAll.le (by lia)
      have hx : x ∈ bndN := F.cl.1
      have hne : ∀ w, nmOk st.1 w → ρ w = upd ρ (zN (st.1 + 1)) d w := fun w hw => (if_neg (nmOk_new h0 hc hw)).symm
      refine G (st := (st.1 + 1, st.2)) (by show 0 ≤ st.1 + 1; lia) ((S'.put (FA.sub Y)).fresh.un fun y hy => List.mem_singleton.mp hy ▸ Y) e (ρ := upd ρ (zN (st.1 + 1)) d) (fun w => ?_) (((h.congr S hne).put ?_).fresh)
      · unfold upd; split
        · exact ⟨d0, d1⟩
        · exact hv w
      · refine (sem_sub Y.ok hx (t := t) FA.wf FA.cl.2 FA.co).mpr ?_
        have e1 : val (upd ρ (zN (st.1 + 1)) d) (zE (st.1 + 1)) = d := if_pos rfl
        rw [e1]
        refine (sem_congr fun w hw => ?_).mp hd
        unfold upd
        split
        · rfl
        · exact (if_neg (nmOk_new h0 hc (F.nm w (.tail _ hw)))).symm
    · cases e
  · cases e
theorem stepA_good {rec : Rec} (G : Good rec) {q : PAll} {P : PAg} {acc : List E} {ats : List (E × Bool)} {st st' : PSt} (h0 : 0 ≤ st.1) (S : Sc st.1 P acc ats) (F : FO st.1 (.all q.1 q.2.1)) (e : stepA rec q P acc ats st = some (true, st')) {pr : Pr} {n : Nat} {ρ : Str → Int} (hv : vl n ρ)
    (h : Tr pr n ρ P ats) (hf : sem pr n ρ (.all q.1 q.2.1)) : False := by
  unfold stepA at e
  split at e
  · split at e
    · rename_i hc
      have Y := zE_FY h0 hc
      have S' : Sc (st.1 + 1) P acc ats := S.le (by lia)
      have FA : FO (st.1 + 1) (.all q.1 q.2.1) := F.le (by lia)
      exact G (st := (st.1 + 1, st.2)) (by show 0 ≤ st.1 + 1; lia) ((((S'.put (FA.sub Y)).addA FA).fresh).un fun y hy => List.mem_singleton.mp hy ▸ Y) e hv (((h.put (sem_inst hv FA Y.ok hf)).addA hf).fresh)
    · cases e
  · split at e
    · rename_i v r hr
      have hm : v ∈ acc := by
        have : v ∈ acc.filter (fun v => !(usedA q).any fun y => eqE y v) := by rw [hr]; exact .head _
        exact (List.mem_filter.mp this).1
      have Y := S.a v hm
      exact G h0 ((S.put (F.sub Y)).addA F) e hv ((h.put (sem_inst hv F Y.ok hf)).addA hf)
    · exact G h0 (S.addA F) e hv (h.addA hf)
theorem att_good (m : Nat) : Good (att m) := by
  induction m with
  | zero => intro P acc ats st st' _ _ e; cases e
  | succ m ih =>
    intro P acc ats st st' h0 S e pr n ρ hv h
    unfold att at e
    split at e
    · cases e
    · split at e
      · rename_i k f ls hp
        obtain ⟨z1, _, z2⟩ := memP_pop hp
        exact stepE_good ih (att_le m) (st := (st.1, st.2.map (· - 1))) h0 ⟨fun x hx => S.f x (z2 x hx), S.a, S.t⟩ (S.f _ z1) e hv ⟨fun x hx => h.f x (z2 x hx), h.t⟩ (h.f _ z1)
      · split at e
        · rename_i l1 q l2 hp
          obtain ⟨z1, z2⟩ := memP_popA hp
          exact stepA_good ih (st := (st.1, st.2.map (· - 1))) h0 ⟨fun x hx => S.f x (z2 x hx), S.a, S.t⟩ (S.f _ z1) e hv ⟨fun x hx => h.f x (z2 x hx), h.t⟩ (h.f _ z1)
        · cases e
noncomputable def NA (P : PAg) : Prop := ∀ l ∈ P.1, ∀ e ∈ l, ∀ x t, e ≠ .all x t
theorem NA.put {P : PAg} {f : E} (h : NA P) : NA (putP P f) := by
  by_cases ha : ∃ x t, f = .all x t
  · obtain ⟨x, t, rfl⟩ := ha; exact h
  · have e1 : putP P f = (P.1.modify (catE f).toNat (· ++ [f]), P.2) := by
      cases f <;> first | rfl | exact absurd ⟨_, _, rfl⟩ ha
    rw [e1]
    intro l hl e he x t q
    rcases mem_modify hl e he with ⟨l', h1, h2⟩ | k
    · exact h l' h1 e h2 x t q
    · exact ha ⟨x, t, k ▸ q⟩
theorem NA.pop {P : PAg} {k : Nat} {e : E} {ls : List (List E)} (h : NA P) (hf : firstNE P.1 = some (k, e, ls)) : NA (ls, P.2) := by
  obtain ⟨l1, l, l2, h1, rfl, rfl, _⟩ := firstNE_spec hf
  intro m hm x hx
  have hm : m ∈ l1 ++ l :: l2 := hm
  have h2 : ∀ m ∈ l1 ++ (l ++ [e]) :: l2, ∀ x ∈ m, ∀ z t, x ≠ .all z t := h1 ▸ h
  rcases List.mem_append.mp hm with hm | hm
  · exact h2 m (List.mem_append_left _ hm) x hx
  · rcases List.mem_cons.mp hm with rfl | hm
    · exact h2 (m ++ [e]) (by simp) x (List.mem_append_left _ hx)
    · exact h2 m (List.mem_append_right _ (.tail _ hm)) x hx
noncomputable def Ends (rec : Rec) : Prop := ∀ {P acc ats} {c k : Int}, 0 ≤ c → Sc c P acc ats → NA P → c + k ≤ 40 → ∃ b c' k', rec P acc ats (c, some k) = some (b, (c', some k')) ∧ c' + k' ≤ c + k
theorem orS_ends {rec : Rec} (G : Ends rec) (hl : RecLe rec) {P1 P2 : PAg} {acc : List E} {ats : List (E × Bool)} {c k : Int} (h0 : 0 ≤ c) (S1 : Sc c P1 acc ats) (S2 : Sc c P2 acc ats) (N1 : NA P1) (N2 : NA P2) (hc : c + k ≤ 40) :
    ∃ b c' k', orS rec P1 P2 acc ats (c, some k) = some (b, (c', some k')) ∧ c' + k' ≤ c + k := by
  obtain ⟨b, c1, k1, e, h1⟩ := G h0 S1 N1 hc
  unfold orS
  rw [e]
  cases b with
  | false => exact ⟨_, _, _, rfl, h1⟩
  | true =>
    have hle : c ≤ c1 := (hl e).2
    obtain ⟨b, c2, k2, e2, h2⟩ := G (Int.le_trans h0 hle) (S2.le hle) N2 (Int.le_trans h1 hc)
    exact ⟨b, c2, k2, e2, Int.le_trans h2 h1⟩
theorem stepE_ends {rec : Rec} (G : Ends rec) (hl : RecLe rec) {f : E} {P : PAg} {acc : List E} {ats : List (E × Bool)} {c k : Int} (h0 : 0 ≤ c) (hk : 0 ≤ k) (S : Sc c P acc ats) (F : FO c f) (N : NA P) (hf : ∀ x t, f ≠ .all x t) (hc : c + k ≤ 39) :
    ∃ b c' k', stepE rec f P acc ats (c, some k) = some (b, (c', some k')) ∧ c' + k' ≤ c + k + 1 := by
  have W : ∀ {r : Option (Bool × PSt)}, (∃ b c' k', r = some (b, (c', some k')) ∧ c' + k' ≤ c + k) → ∃ b c' k', r = some (b, (c', some k')) ∧ c' + k' ≤ c + k + 1 := fun ⟨b, c', k', h1, h2⟩ => ⟨b, c', k', h1, by lia⟩
  have hc4 : c + k ≤ 40 := by lia
  unfold stepE
  split
  · split
    · exact ⟨_, _, _, rfl, by lia⟩
    · exact W (G h0 ((S.fresh.un (args_FY F.wf.2.2 F.cl F.co F.nm)).unP F.nm) N hc4)
  · rename_i f x
    have Fw : wfE (.app f x) := F.wf
    split
    · exact ⟨_, _, _, rfl, by lia⟩
    · exact W (G h0 ((S.fresh.un (args_FY Fw.2.2 F.cl F.co F.nm)).unP F.nm) N hc4)
  · rename_i t
    exact W (G h0 (S.put (e := t) ⟨F.wf, F.cl, F.co, F.nm⟩) N.put hc4)
  · rename_i x t
    exact W (G h0 (S.put (e := .ex x (.neg t)) ⟨F.wf, F.cl, F.co, F.nm⟩) N.put hc4)
  · rename_i x t
    exact W (G h0 (S.add (q := (x, .neg t, none, false)) ⟨F.wf, F.cl, F.co, F.nm⟩) N hc4)
  · rename_i a b
    exact W (G h0 ((S.put (e := a) ⟨F.wf.1, F.cl.1, F.co.1, fun w hw => F.nm w (List.mem_append_left _ hw)⟩).put (e := b) ⟨F.wf.2, F.cl.2, F.co.2, fun w hw => F.nm w (List.mem_append_right _ hw)⟩) N.put.put hc4)
  · rename_i a b
    have F1 : FO c (.or a b) := ⟨F.wf, F.cl, F.co, F.nm⟩
    exact W (G h0 ((S.put (e := .neg a) ⟨F1.wf.1, F1.cl.1, F1.co.1, fun w hw => F.nm w (List.mem_append_left _ hw)⟩).put (e := .neg b) ⟨F1.wf.2, F1.cl.2, F1.co.2, fun w hw => F.nm w (List.mem_append_right _ hw)⟩) N.put.put hc4)
  · rename_i a b
    have F1 : FO c (.imp a b) := ⟨F.wf, F.cl, F.co, F.nm⟩
    exact W (G h0 ((S.put (e := a) ⟨F1.wf.1, F1.cl.1, F1.co.1, fun w hw => F.nm w (List.mem_append_left _ hw)⟩).put (e := .neg b) ⟨F1.wf.2, F1.cl.2, F1.co.2, fun w hw => F.nm w (List.mem_append_right _ hw)⟩) N.put.put hc4)
  · rename_i a b
    exact W (orS_ends G hl h0 (S.put (e := a) ⟨F.wf.1, F.cl.1, F.co.1, fun w hw => F.nm w (List.mem_append_left _ hw)⟩) (S.clone.put (e := b) ⟨F.wf.2, F.cl.2, F.co.2, fun w hw => F.nm w (List.mem_append_right _ hw)⟩) N.put (NA.put (P := cloneP P) N) hc4)
  · rename_i a b
    exact W (orS_ends G hl h0 (S.put (e := .neg a) ⟨F.wf.1, F.cl.1, F.co.1, fun w hw => F.nm w (List.mem_append_left _ hw)⟩) (S.clone.put (e := b) ⟨F.wf.2, F.cl.2, F.co.2, fun w hw => F.nm w (List.mem_append_right _ hw)⟩) N.put (NA.put (P := cloneP P) N) hc4)
  · rename_i a b
    have F1 : FO c (.and a b) := ⟨F.wf, F.cl, F.co, F.nm⟩
    exact W (orS_ends G hl h0 (S.put (e := .neg a) ⟨F1.wf.1, F1.cl.1, F1.co.1, fun w hw => F.nm w (List.mem_append_left _ hw)⟩) (S.clone.put (e := .neg b) ⟨F1.wf.2, F1.cl.2, F1.co.2, fun w hw => F.nm w (List.mem_append_right _ hw)⟩) N.put (NA.put (P := cloneP P) N) hc4)
  · rename_i x t
    rw [if_pos (show c < 59 by lia)]
    have Y := zE_FY h0 (show c < 59 by lia)
    have S' : Sc (c + 1) P acc ats := S.le (by lia)
    have FA : FO (c + 1) (.all x t) := F.exAll.le (by lia)
    obtain ⟨b, c', k', e, h1⟩ := G (k := k) (by lia) (((S'.put (FA.sub Y)).fresh).un fun y hy => List.mem_singleton.mp hy ▸ Y) (show NA (freshP _) from N.put) (by lia)
    exact ⟨b, c', k', e, by lia⟩
  · exfalso
    rename_i g1 g2 g3 g4 g5 g6 g7 g8 g9 g10 g11 g12
    have w := F.wf
    cases f with
    | con _ => exact w
    | iv _ => exact w
    | app _ _ => exact g1 _ _ rfl
    | and _ _ => exact g6 _ _ rfl
    | or _ _ => exact g9 _ _ rfl
    | imp _ _ => exact g10 _ _ rfl
    | all _ _ => exact hf _ _ rfl
    | ex _ _ => exact g12 _ _ rfl
    | neg t =>
      cases t with
      | con _ => exact w
      | iv _ => exact w
      | app _ _ => exact g2 _ _ rfl
      | neg _ => exact g3 _ rfl
      | all _ _ => exact g4 _ _ rfl
      | ex _ _ => exact g5 _ _ rfl
      | or _ _ => exact g7 _ _ rfl
      | imp _ _ => exact g8 _ _ rfl
      | and _ _ => exact g11 _ _ rfl
theorem stepA_ends {rec : Rec} (G : Ends rec) {q : PAll} {P : PAg} {acc : List E} {ats : List (E × Bool)} {c k : Int} (h0 : 0 ≤ c) (hk : 0 ≤ k) (S : Sc c P acc ats) (F : FO c (.all q.1 q.2.1)) (N : NA P) (hc : c + k ≤ 39) :
    ∃ b c' k', stepA rec q P acc ats (c, some k) = some (b, (c', some k')) ∧ c' + k' ≤ c + k + 1 := by
  have W : ∀ {r : Option (Bool × PSt)}, (∃ b c' k', r = some (b, (c', some k')) ∧ c' + k' ≤ c + k) → ∃ b c' k', r = some (b, (c', some k')) ∧ c' + k' ≤ c + k + 1 := fun ⟨b, c', k', h1, h2⟩ => ⟨b, c', k', h1, by lia⟩
  have hc4 : c + k ≤ 40 := by lia
  unfold stepA
  split
  · rw [if_pos (show c < 59 by lia)]
    have Y := zE_FY h0 (show c < 59 by lia)
    have S' : Sc (c + 1) P acc ats := S.le (by lia)
    have FA : FO (c + 1) (.all q.1 q.2.1) := F.le (by lia)
    obtain ⟨b, c', k', e, h1⟩ := G (k := k) (by lia) ((((S'.put (FA.sub Y)).addA (u := some (unE (usedA q) [zE (c + 1)])) (b := q.2.2.2) FA).fresh).un fun y hy => List.mem_singleton.mp hy ▸ Y) (show NA (freshP (addAllP _ _)) from N.put) (by lia)
    exact ⟨b, c', k', e, by lia⟩
  · split
    · rename_i v r hr
      have hm : v ∈ acc := by
        have : v ∈ acc.filter (fun v => !(usedA q).any fun y => eqE y v) := by rw [hr]; exact .head _
        exact (List.mem_filter.mp this).1
      have Y := S.a v hm
      exact W (G h0 ((S.put (F.sub Y)).addA F) (show NA (addAllP _ _) from N.put) hc4)
    · exact W (G h0 (S.addA F) (show NA (addAllP _ _) from N) hc4)
theorem att_ends (m : Nat) : Ends (att m) := by
  induction m with
  | zero => intro P acc ats c k _ _ _ _; exact ⟨false, c, k, rfl, Int.le_refl _⟩
  | succ m ih =>
    intro P acc ats c k h0 S N hc
    unfold att
    by_cases ho : overL (some (k - 1)) = true
    · exact ⟨false, c, k - 1, if_pos ho, by lia⟩
    have hk : 0 ≤ k - 1 := by
      have : ¬ (decide (k - 1 < 0) = true) := ho
      simpa using this
    refine (if_neg ho : (if overL _ = true then _ else _) = _) ▸ ?_
    dsimp only [Option.map_some]
    have Z : ∀ {r : Option (Bool × PSt)}, (∃ b c' k', r = some (b, (c', some k')) ∧ c' + k' ≤ c + (k - 1) + 1) → ∃ b c' k', r = some (b, (c', some k')) ∧ c' + k' ≤ c + k := fun ⟨b, c', k', h1, h2⟩ => ⟨b, c', k', h1, by lia⟩
    split
    · rename_i j f ls hp
      obtain ⟨z1, ⟨l, hl, hfl⟩, z2⟩ := memP_pop hp
      exact Z (stepE_ends ih (att_le m) h0 hk ⟨fun x hx => S.f x (z2 x hx), S.a, S.t⟩ (S.f _ z1) (N.pop hp) (N l hl f hfl) (by lia))
    · split
      · rename_i l1 q l2 hp
        obtain ⟨z1, z2⟩ := memP_popA hp
        exact Z (stepA_ends ih h0 hk ⟨fun x hx => S.f x (z2 x hx), S.a, S.t⟩ (S.f _ z1) (show NA (P.1, l1 ++ l2) from N) (by lia))
      · exact ⟨false, c, k - 1, rfl, by lia⟩
theorem str3 : ("rex" : Str) ∉ bndN ∧ ("dog" : Str) ∉ bndN ∧ ("sees" : Str) ∉ bndN ∧ ("rex" : Str) ∈ baseN ∧ ("dog" : Str) ∈ baseN ∧ ("sees" : Str) ∈ baseN ∧ ("x" : Str) ∈ baseN ∧ ("y" : Str) ∈ baseN := by decide +kernel
theorem strN : ("rex" : Str) ≠ "x" ∧ ("rex" : Str) ≠ "y" ∧ ("x" : Str) ≠ "y" ∧ ("sees" : Str) ≠ "dog" := by decide +kernel
structure NmE (a : E) : Prop where
  nm : ∃ n, nameE a = some n
  si : simE a = true
  de : depE a = 0
  hg : hgt a = 0
  co : conOk a
  ba : ∀ w ∈ nms a, w ∈ baseN
theorem nmE_ok : ∀ k, NmE (nmE k)
  | 0 => ⟨⟨_, rfl⟩, rfl, rfl, rfl, str3.1, fun w hw => by rw [List.mem_singleton.mp hw]; exact str3.2.2.2.1⟩
  | 1 => ⟨⟨_, rfl⟩, rfl, rfl, rfl, trivial, fun w hw => by rw [List.mem_singleton.mp hw]; exact str3.2.2.2.2.2.2.1⟩
  | _ + 2 => ⟨⟨_, rfl⟩, rfl, rfl, rfl, trivial, fun w hw => by rw [List.mem_singleton.mp hw]; exact str3.2.2.2.2.2.2.2⟩
noncomputable def bsH : Nat → List Str
  | 0 => [] | 1 => ["x"] | _ => ["y", "x"]
theorem nmE_cl {k h : Nat} (hk : k < 1 + h) (hh : h ≤ 2) : clE (bsH h) (nmE k) := by
  rcases (by lia : h = 0 ∨ h = 1 ∨ h = 2) with rfl | rfl | rfl
  · obtain rfl : k = 0 := by lia
    trivial
  · rcases (by lia : k = 0 ∨ k = 1) with rfl | rfl
    · trivial
    · exact fun _ => .head _
  · rcases (by lia : k = 0 ∨ k = 1 ∨ k = 2) with rfl | rfl | rfl
    · trivial
    · exact fun _ => .tail _ (.head _)
    · exact fun _ => .head _
structure PcOk (h : Nat) (m : Nat) (e : E) : Prop where
  wf : wfE e
  hg : hgt e ≤ m
  cl : clE (bsH h) e
  co : conOk e
  ba : ∀ w ∈ nms e, w ∈ baseN
theorem PcOk.neg {h m : Nat} {e : E} (k : PcOk h m e) : PcOk h (m + 1) (.neg e) := ⟨k.wf, Nat.succ_le_succ k.hg, k.cl, k.co, k.ba⟩
theorem PcOk.le {h m n : Nat} {e : E} (k : PcOk h m e) (z : m ≤ n) : PcOk h n e := ⟨k.wf, Nat.le_trans k.hg z, k.cl, k.co, k.ba⟩
theorem app2 {l1 l2 L : List Str} (h1 : ∀ w ∈ l1, w ∈ L) (h2 : ∀ w ∈ l2, w ∈ L) : ∀ w ∈ l1 ++ l2, w ∈ L := fun w hw => (List.mem_append.mp hw).elim (h1 w) (h2 w)
theorem one1 {s : Str} {L : List Str} (h : s ∈ L) : ∀ w ∈ [s], w ∈ L := fun w hw => List.mem_singleton.mp hw ▸ h
theorem atomP_ok {word : Int} {i j h : Nat} (hi : i < 1 + h) (hj : j < 1 + h) (hh : h ≤ 2) : PcOk h 2 (atomP word (nmE i) (nmE j)) := by
  have A := nmE_ok i
  have B := nmE_ok j
  have ca := nmE_cl hi hh
  have cb := nmE_cl hj hh
  revert A B ca cb
  generalize nmE i = a
  generalize nmE j = b
  intro A B ca cb
  unfold atomP
  split
  · refine ⟨⟨⟨_, _, rfl⟩, ⟨by simp [simE, A.si], by simp [depE, A.de]⟩, fun y hy => ?_⟩, by simp [hgt, A.hg], ⟨trivial, ca⟩, ⟨str3.2.1, str3.2.1, A.co⟩, app2 (one1 str3.2.2.2.2.1) A.ba⟩
    rw [List.mem_singleton.mp hy]; exact A.nm
  · refine ⟨⟨⟨_, _, rfl⟩, ⟨by simp [simE, A.si, B.si], by simp [depE, A.de, B.de]⟩, fun y hy => ?_⟩, by simp [hgt, A.hg, B.hg], ⟨⟨trivial, ca⟩, cb⟩, ⟨str3.2.2.1, ⟨str3.2.2.1, str3.2.2.1, A.co⟩, B.co⟩, app2 (app2 (one1 str3.2.2.2.2.2.1) A.ba) B.ba⟩
    have hy : y ∈ [a, b] := hy
    simp only [List.mem_cons, List.not_mem_nil, or_false] at hy
    rcases hy with rfl | rfl
    · exact A.nm
    · exact B.nm
theorem partE_ok {q : Int × Int × Int × Int} {h : Nat} (hq : PartOk q) (hb : q.2.2.1 < 1 + (h : Int) ∧ q.2.2.2 < 1 + (h : Int)) (hh : h ≤ 2) : PcOk h 3 (partE q) := by
  have hi : q.2.2.1.toNat < 1 + h := toN1 hb.1
  have hj : q.2.2.2.toNat < 1 + h := toN1 hb.2
  have z := atomP_ok (word := q.2.1) hi hj hh
  unfold partE
  dsimp only
  split
  · exact z.neg
  · exact z.le (by lia)
theorem signE_ok {h k : Nat} {a b : E} (A : PcOk h 3 a) (B : k ≠ 0 → PcOk h 3 b) : PcOk h 4 (signE k a b) := by
  have two : ∀ {k}, PcOk h 3 b → PcOk h 4 (signE (k + 1) a b) := fun {k} B => by
    match k with
    | 0 => exact ⟨⟨A.wf, B.wf⟩, Nat.succ_le_succ (Nat.max_le.mpr ⟨A.hg, B.hg⟩), ⟨A.cl, B.cl⟩, ⟨A.co, B.co⟩, app2 A.ba B.ba⟩
    | 1 => exact ⟨⟨A.wf, B.wf⟩, Nat.succ_le_succ (Nat.max_le.mpr ⟨A.hg, B.hg⟩), ⟨A.cl, B.cl⟩, ⟨A.co, B.co⟩, app2 A.ba B.ba⟩
    | k + 2 => exact ⟨⟨A.wf, B.wf⟩, Nat.succ_le_succ (Nat.max_le.mpr ⟨A.hg, B.hg⟩), ⟨A.cl, B.cl⟩, ⟨A.co, B.co⟩, app2 A.ba B.ba⟩
  match k with
  | 0 => exact A.le (by lia)
  | k + 1 => exact two (B (by lia))
theorem getD_parts {D : Drawn} {i : Nat} (h : i < D.parts.length) : (D.parts.map partE).getD i (.con "") = partE D.parts[i] := by
  rw [List.getD_eq_getElem?_getD, List.getElem?_map, List.getElem?_eq_getElem h]; rfl
theorem bodyD_ok {D : Drawn} (T : TruOk D) : PcOk D.heads.length 4 (bodyD D) := by
  have hp := T.ok.pl
  have one : ∀ i, (h : i < D.parts.length) → PcOk D.heads.length 3 ((D.parts.map partE).getD i (.con "")) := fun i h => by
    rw [getD_parts h]
    exact partE_ok (T.ok.pt _ (List.getElem_mem h)) (T.bd _ (List.getElem_mem h)) T.ok.hd
  refine signE_ok (one 0 (by rw [hp]; split <;> decide)) fun hk => one 1 (by rw [hp, if_neg hk]; decide)
theorem qE_wf {b : Bool} {x : Str} {t : E} (h : wfE t) : wfE (qE b x t) := by unfold qE; split <;> exact h
theorem qE_hg {b : Bool} {x : Str} {t : E} {m : Nat} (h : hgt t ≤ m) : hgt (qE b x t) ≤ m + 1 := by unfold qE; split <;> exact Nat.succ_le_succ h
theorem qE_cl {b : Bool} {x : Str} {t : E} {bs : List Str} (hx : x ∈ bndN) (h : clE (x :: bs) t) : clE bs (qE b x t) := by unfold qE; split <;> exact ⟨hx, h⟩
theorem qE_co {b : Bool} {x : Str} {t : E} (h : conOk t) : conOk (qE b x t) := by unfold qE; split <;> exact h
theorem qE_ba {b : Bool} {x : Str} {t : E} (hx : x ∈ bndN) (h : ∀ w ∈ nms t, w ∈ baseN) : ∀ w ∈ nms (qE b x t), w ∈ baseN := by
  have e : nms (qE b x t) = x :: nms t := by unfold qE; split <;> rfl
  rw [e]
  exact fun w hw => (List.mem_cons.mp hw).elim (fun e => e ▸ bnd_base hx) (h w)
theorem formE_ok {D : Drawn} (T : TruOk D) : PcOk 0 6 (formE D) := by
  have B := bodyD_ok T
  have hh := T.ok.hd
  unfold formE
  revert B hh
  generalize bodyD D = e
  generalize D.heads = hs
  intro B hh
  have hx : ("x" : Str) ∈ bndN := .head _
  have hy : ("y" : Str) ∈ bndN := .tail _ (.head _)
  match hs, hh with
  | [], _ => exact B.le (by lia)
  | [a], _ => exact ⟨qE_wf B.wf, Nat.le_trans (qE_hg B.hg) (by lia), qE_cl hx B.cl, qE_co B.co, qE_ba hx B.ba⟩
  | [a, b], _ => exact ⟨qE_wf (qE_wf B.wf), qE_hg (qE_hg B.hg), qE_cl hx (qE_cl hy B.cl), qE_co (qE_co B.co), qE_ba hx (qE_ba hy B.ba)⟩
theorem PcOk.gE {m : Nat} {e : E} (h : PcOk 0 m e) (hm : m ≤ 12) : gE e := ⟨h.wf, Nat.le_trans h.hg hm, h.cl⟩
theorem PcOk.FO {m : Nat} {e : E} (h : PcOk 0 m e) : FO 0 e := ⟨h.wf, h.cl, h.co, fun w hw => .inl (h.ba w hw)⟩
theorem memP_puts {e : E} : ∀ {es : List E} {P : PAg}, memP (es.foldl putP P) e → memP P e ∨ e ∈ es
  | [], _, h => .inl h
  | f :: es, P, h => by
    rcases memP_puts (P := putP P f) h with h | h
    · exact (memP_put h).imp_right fun (k : e = f) => by rw [k]; exact .head _
    · exact .inr (.tail _ h)
theorem memP_emp {e : E} (h : memP empP e) : False := by
  rcases h with ⟨l, hl, he⟩ | ⟨q, hq, _⟩
  · rw [(List.mem_replicate.mp hl).2] at he; cases he
  · cases hq
theorem NA.puts : ∀ {es : List E} {P : PAg}, NA P → NA (es.foldl putP P)
  | [], _, h => h
  | f :: es, P, h => NA.puts (P := putP P f) h.put
theorem NA.emp : NA empP := fun l hl e he => by rw [(List.mem_replicate.mp hl).2] at he; cases he
theorem memP_start {e0 e : E} {es : List E} (h : memP (es.foldl putP (putP empP (.neg e0))) e) : e = .neg e0 ∨ e ∈ es := by
  rcases memP_puts h with h | h
  · exact .inl ((memP_put h).resolve_left fun k => memP_emp k)
  · exact .inr h
theorem Sc_start {e0 : E} {es : List E} (h0 : FO 0 (.neg e0)) (h : ∀ e ∈ es, FO 0 e) : Sc 0 (es.foldl putP (putP empP (.neg e0))) [] [] :=
  ⟨fun e he => (memP_start he).elim (fun k => k ▸ h0) (h e), fun y hy => (by cases hy), fun p hp => (by cases hp)⟩
theorem prove_ends {k : Int} {e0 : E} {es : List E} (h0 : FO 0 (.neg e0)) (h : ∀ e ∈ es, FO 0 e) (hk : 12 ≤ k) (hk2 : k ≤ 30) : ∃ b st, proveP k e0 es = some (b, st) := by
  obtain ⟨b, c, j, e, _⟩ := att_ends 201 (c := 0) (k := k) (Int.le_refl _) (Sc_start h0 h) (NA.emp.put.puts) (by lia)
  refine ⟨b, (c, some j), ?_⟩
  unfold proveP lookO
  rw [if_neg (by lia)]
  exact e
theorem prove_good {k : Int} {e0 : E} {es : List E} {st : PSt} (h0 : FO 0 (.neg e0)) (h : ∀ e ∈ es, FO 0 e) (hp : proveP k e0 es = some (true, st)) {pr : Pr} {n : Nat} {ρ : Str → Int} (hv : vl n ρ) (hs : ∀ e ∈ es, sem pr n ρ e) : sem pr n ρ e0 := by
  refine Classical.byContradiction fun hn => ?_
  exact att_good 201 (st := (0, lookO k)) (Int.le_refl _) (Sc_start h0 h) hp hv ⟨fun e he => (memP_start he).elim (fun k => k ▸ hn) (hs e), fun p hp => by cases hp⟩
noncomputable def bitB (bits d : Int) : Bool := (bits.fdiv (2 ^ d.toNat)).fmod 2 == 1
noncomputable def prB (bits : Int) : Pr := fun h l => if h = "dog" then bitB bits (l.getD 0 0) else bitB bits (2 + 2 * l.getD 0 0 + l.getD 1 0)
theorem semA_atomP {bits word : Int} {a b : E} {ρ : Str → Int} : ∃ f x, atomP word a b = .app f x ∧ semA (prB bits) ρ (.app f x) = bitB bits (if word = 0 then val ρ a else 2 + 2 * val ρ a + val ρ b) := by
  unfold atomP
  by_cases h : word = 0
  · rw [if_pos h, if_pos h]
    refine ⟨_, _, rfl, ?_⟩
    show (if ("dog" : Str) = "dog" then bitB bits (val ρ a) else bitB bits (2 + 2 * val ρ a + ([val ρ a] : List Int).getD 1 0)) = _
    exact if_pos rfl
  · rw [if_neg h, if_neg h]
    refine ⟨_, _, rfl, ?_⟩
    show (if ("sees" : Str) = "dog" then bitB bits (val ρ a) else bitB bits (2 + 2 * val ρ a + val ρ b)) = _
    exact if_neg strN.2.2.2
theorem sem_part {n : Nat} {bits : Int} {ρ : Str → Int} {th : List Int} {q : Int × Int × Int × Int} (hq : 0 ≤ q.1 ∧ q.1 < 2) (h1 : val ρ (nmE q.2.2.1.toNat) = th.getD q.2.2.1.toNat 0) (h2 : val ρ (nmE q.2.2.2.toNat) = th.getD q.2.2.2.toNat 0) : leafD bits th q = true ↔ sem (prB bits) n ρ (partE q) := by
  obtain ⟨f, x, e, hs⟩ := @semA_atomP bits q.2.1 (nmE q.2.2.1.toNat) (nmE q.2.2.2.toNat) ρ
  rw [h1, h2] at hs
  have hl : leafD bits th q = (semA (prB bits) ρ (.app f x) == (q.1 == 0)) := by rw [hs]; rfl
  rw [hl]
  unfold partE
  dsimp only
  rw [e]
  rcases (by lia : q.1 = 0 ∨ q.1 = 1) with k | k
  · rw [k]
    show (semA (prB bits) ρ (.app f x) == true) = true ↔ semA (prB bits) ρ (.app f x) = true
    simp
  · rw [k]
    show (semA (prB bits) ρ (.app f x) == false) = true ↔ ¬ semA (prB bits) ρ (.app f x) = true
    simp
theorem sem_sign {pr : Pr} {n : Nat} {ρ : Str → Int} {k : Nat} {a b : Bool} {x y : E} (ha : a = true ↔ sem pr n ρ x) (hb : k ≠ 0 → (b = true ↔ sem pr n ρ y)) : signB k a b = true ↔ sem pr n ρ (signE k x y) := by
  match k with
  | 0 => exact ha
  | 1 => show (a && b) = true ↔ _ ∧ _; rw [Bool.and_eq_true, ha, hb (by decide)]
  | 2 => show (a || b) = true ↔ _ ∨ _; rw [Bool.or_eq_true, ha, hb (by decide)]
  | k + 3 =>
    have hb := hb (by lia)
    show (b || !a) = true ↔ (sem pr n ρ x → sem pr n ρ y)
    rw [← ha, ← hb]
    cases a <;> cases b <;> simp
theorem sem_body {D : Drawn} (T : TruOk D) {n : Nat} {bits : Int} {ρ : Str → Int} {th : List Int} (hr : ∀ k, k < 1 + D.heads.length → val ρ (nmE k) = th.getD k 0) : leafP D bits th = true ↔ sem (prB bits) n ρ (bodyD D) := by
  have hp := T.ok.pl
  have one : ∀ i, i < D.parts.length → ((D.parts.map (leafD bits th)).getD i false = true ↔ sem (prB bits) n ρ ((D.parts.map partE).getD i (.con ""))) := fun i h => by
    have P := T.ok.pt _ (List.getElem_mem h)
    have B := T.bd _ (List.getElem_mem h)
    rw [getD_parts h, List.getD_eq_getElem?_getD, List.getElem?_map, List.getElem?_eq_getElem h]
    exact sem_part P.1 (hr _ (toN1 B.1)) (hr _ (toN1 B.2))
  exact sem_sign (one 0 (by rw [hp]; split <;> decide)) fun hk => one 1 (by rw [hp, if_neg hk]; decide)
theorem sem_q {pr : Pr} {n : Nat} {ρ : Str → Int} {b : Bool} {x : Str} {t : E} : sem pr n ρ (qE b x t) ↔ (if b then (∀ d : Int, 0 ≤ d → d < n → sem pr n (upd ρ x d) t) else ∃ d : Int, 0 ≤ d ∧ d < n ∧ sem pr n (upd ρ x d) t) := by
  unfold qE; cases b <;> exact Iff.rfl
theorem upd_at {ρ : Str → Int} {z : Str} {d : Int} : upd ρ z d z = d := if_pos rfl
theorem upd_no {ρ : Str → Int} {y z : Str} {d : Int} (h : y ≠ z) : upd ρ z d y = ρ y := if_neg h
theorem sem_wrap {D : Drawn} (T : TruOk D) {n : Nat} {bits : Int} : ∀ (hs : List Bool) {th : List Int} {ρ : Str → Int}, th.length + hs.length = 1 + D.heads.length → 1 ≤ th.length → (∀ k, k < th.length → val ρ (nmE k) = th.getD k 0) →
    (truP D n bits hs th = true ↔ sem (prB bits) n ρ (wrapE (th.length - 1) hs (bodyD D)))
  | [], th, ρ, h, _, hr => sem_body T fun k hk => hr k (by simp at h; lia)
  | b :: hs, th, ρ, h, h1, hr => by
    have hd := T.ok.hd
    simp only [List.length_cons] at h
    have ih : ∀ x : Nat, (truP D n bits hs (th ++ [(x : Int)]) = true ↔ sem (prB bits) n (upd ρ (vN (th.length - 1)) x) (wrapE (th.length - 1 + 1) hs (bodyD D))) := fun x => by
      have z := sem_wrap T (n := n) (bits := bits) hs (th := th ++ [(x : Int)]) (ρ := upd ρ (vN (th.length - 1)) x) (by simp; lia) (by simp) fun k hk => by
        have hk : k < th.length + 1 := by simpa using hk
        by_cases e : k = th.length
        · subst e
          have hg : (th ++ [(x : Int)]).getD th.length 0 = x := by simp
          rw [hg]
          rcases (by lia : th.length = 1 ∨ th.length = 2) with q | q <;> rw [q]
          · exact upd_at (z := "x")
          · exact upd_at (z := "y")
        · have hg : (th ++ [(x : Int)]).getD k 0 = th.getD k 0 := by
            rw [List.getD_eq_getElem?_getD, List.getD_eq_getElem?_getD, List.getElem?_append_left (by lia)]
          rw [hg, ← hr k (by lia)]
          rcases (by lia : th.length = 1 ∨ th.length = 2) with q | q
          · obtain rfl : k = 0 := by lia
            rw [q]; exact upd_no strN.1
          · rw [q]
            rcases (by lia : k = 0 ∨ k = 1) with rfl | rfl
            · exact upd_no strN.2.1
            · exact upd_no strN.2.2.1
      rw [show (th ++ [(x : Int)]).length - 1 = th.length - 1 + 1 by simp; lia] at z
      exact z
    show _ ↔ sem _ _ _ (qE b _ _)
    rw [sem_q]
    unfold truP
    cases b with
    | true =>
      simp only [if_true]
      rw [List.all_map, List.all_eq_true]
      constructor
      · intro k d d0 d1
        obtain ⟨x, rfl⟩ := Int.eq_ofNat_of_zero_le d0
        exact (ih x).mp (k x (List.mem_range.mpr (by lia)))
      · intro k x hx
        exact (ih x).mpr (k x (by lia) (by have := List.mem_range.mp hx; lia))
    | false =>
      simp only [if_false, Bool.false_eq_true]
      rw [List.any_map, List.any_eq_true]
      constructor
      · rintro ⟨x, hx, k⟩
        exact ⟨x, by lia, by have := List.mem_range.mp hx; lia, (ih x).mp k⟩
      · rintro ⟨d, d0, d1, k⟩
        obtain ⟨x, rfl⟩ := Int.eq_ofNat_of_zero_le d0
        exact ⟨x, List.mem_range.mpr (by lia), (ih x).mpr k⟩
theorem sem_form {D : Drawn} (T : TruOk D) {n : Nat} {bits : Int} : truP D n bits D.heads [0] = true ↔ sem (prB bits) n (fun _ => 0) (formE D) := by
  refine sem_wrap T D.heads (th := [0]) (ρ := fun _ => 0) (by simp [Nat.add_comm]) (by decide) fun k hk => ?_
  obtain rfl : k = 0 := by simp at hk; exact hk
  rfl
theorem plain2 : Plain2 where
  form := fun T => ⟨(formE_ok T).gE (by decide), (formE_ok T).neg.gE (by decide)⟩
  ends := fun {g l k} Tg Tl h1 h2 => prove_ends (formE_ok Tg).neg.FO (fun e he => by
    obtain ⟨D, hD, rfl⟩ := List.mem_map.mp he
    exact (formE_ok (Tl D hD)).FO) h1 h2
  sound := fun {g l k st} Tg Tl hp n bits hn hb hl => by
    refine (sem_form Tg).mpr (prove_good (n := n) (formE_ok Tg).neg.FO (fun e he => ?_) hp (fun x => ⟨Int.le_refl _, ?_⟩) fun e he => ?_)
    · obtain ⟨D, hD, rfl⟩ := List.mem_map.mp he
      exact (formE_ok (Tl D hD)).FO
    · show (0 : Int) < n
      rcases hn with rfl | rfl <;> decide
    · obtain ⟨D, hD, rfl⟩ := List.mem_map.mp he
      exact (sem_form (Tl D hD)).mp (hl D hD)
end
theorem relL_ints {P : Params} {g : PM} : ∀ {vs : List Value} {ns : List Int}, IntsAre vs ns → RelL P g (ns.map .int) vs
  | _, _, .nil => relL0
  | _, _, .cons x t h => relL1 relVi (relL_ints h)
theorem get284 {P : Params} {h : Heap} (S : Hs (S7 P) h) : h.get? 284 = some (tabObj #[]) ∧ h.get? 298 = some (tabObj #[]) := by
  have G1 : Hs (GS1 P) h := fun p hp => S p (by simp only [S7, S6, S5, S4, S3, S2, List.mem_append]; simp only [hp, true_or, or_true])
  rw [gs1_eq] at G1
  exact ⟨G1 (284, o284 P) (List.mem_append_right _ (.head _)), G1 (298, o298 P) (List.mem_append_right _ (.tail _ (List.mem_append_right _ (.head _))))⟩
theorem st_start {w : World} {s₁ : Shared} {l : Addr} {its : List Value} {ns : List Int} (S : Hs (S7 w.params) s₁.heap) (V : Hs (V7 w.params) s₁.heap) (hl : s₁.heap.get? l = some { cls := .type "list", data := .seq its.toArray }) (hv : volA l = false) (hI : IntsAre its ns) :
    St w s₁ [] [.li l its, .l its (ns.map .int)] s₁ := by
  obtain ⟨z1, z2⟩ := get284 S
  refine ⟨fun a => if volA a = true then none else s₁.heap.get? a, ⟨kk_hs S V, rfl, fun a o e v => ?_, fun a o e => ?_, fun a v => ?_, (fun c hc => by cases hc), (fun c hc => by cases hc), List.nodup_nil, fun v hv => ?_, (fun c hc => by cases hc), Nat.le_refl _⟩, fun f hf => ?_⟩
  · show (if volA a = true then none else s₁.heap.get? a) = some o; rw [if_neg (by rw [v]; exact Bool.false_ne_true)]; exact e
  · have e : (if volA a = true then none else s₁.heap.get? a) = some o := e
    split at e
    · cases e
    · exact e
  · exact if_pos v
  · simp only [vols, List.mem_cons, List.not_mem_nil, or_false] at hv
    rcases hv with rfl | rfl
    · exact ⟨#[], z1, by trivial, .inl rfl⟩
    · exact ⟨#[], z2, by trivial, .inl rfl⟩
  · simp only [List.mem_cons, List.not_mem_nil, or_false] at hf
    rcases hf with rfl | rfl
    · refine ⟨0, ?_⟩
      show (if volA l = true then none else s₁.heap.get? l) = _
      rw [if_neg (by rw [hv]; exact Bool.false_ne_true)]
      exact hl
    · exact relL_ints hI
theorem st_old {w : World} {s₁ s' : Shared} {cs : List Cell} {fs : List Fact} (S : Hs (S7 w.params) s₁.heap) (V : Hs (V7 w.params) s₁.heap) (C : St w s₁ cs fs s') : OldK s₁.heap s'.heap := by
  obtain ⟨z1, z2⟩ := get284 S
  have K := hs_in (kk_hs S V)
  obtain ⟨g, X, Y⟩ := C
  have tab : ∀ v ∈ vols, ∃ ps, s'.heap.get? v.t = some (tabObj ps) := fun v hv => let ⟨ps, e, _⟩ := X.tab v hv; ⟨ps, e⟩
  obtain ⟨p1, e1⟩ := tab _ (.head _)
  obtain ⟨p2, e2⟩ := tab _ (.tail _ (.head _))
  have one : ∀ (a c : Addr) (ps : Array Value) (o : Obj), s₁.heap.get? a = some (tabObj #[]) → codeHdIn (KK w.params) c a = true → s'.heap.get? a = some (tabObj ps) → s₁.heap.get? a = some o → asItWas s₁.heap s'.heap a o := fun a c ps o z hc e ho => by
    rw [z] at ho
    cases ho
    exact .inr (.inl ⟨((codeHd_of_K K hc).tab z).isCodeTable, rfl, #[], ps, rfl, by rw [e, Array.empty_append]⟩)
  refine ⟨fun b o e => ?_, fun b o e => ?_⟩
  · cases hv : volA b with
    | false => exact .inl (X.sub _ _ (X.base b o e hv))
    | true =>
      unfold volA at hv
      rcases Bool.or_eq_true_iff.mp hv with q | q
      · obtain rfl := beq_iff_eq.mp q
        exact one 284 288 p1 o z1 (code284 _) e1 e
      · obtain rfl := beq_iff_eq.mp q
        exact one 298 302 p2 o z2 (code298 _) e2 e
  · cases hv : volA b with
    | false => exact ⟨o, X.sub _ _ (X.base b o e hv)⟩
    | true =>
      unfold volA at hv
      rcases Bool.or_eq_true_iff.mp hv with q | q
      · obtain rfl := beq_iff_eq.mp q
        exact ⟨_, e1⟩
      · obtain rfl := beq_iff_eq.mp q
        exact ⟨_, e2⟩
theorem room_caller : Room callerA 600 := ⟨rfl, by decide +kernel, by decide +kernel⟩
theorem law02_call (PL : Plain2) (w : World) (s₀ s₁ : Shared) (args : List WData) (vals : List Value) (as : List Addr) (hsz : s₀.heap.objs.size = 1493) (S : Hs (S7 w.params) s₁.heap) (V : Hs (V7 w.params) s₁.heap) (hpre : lw.row.toRowW.claim.pre args = true) (hlay : WData.layableAll args = true)
    (L : Laid lw.row.toRowW.claim.records w s₀ s₁ args vals as) : wpAny (model pw w) callerA (PySem.call (.ref 1492) vals) (fun v s' => GoodWG lw.row.toRowW.claim (classAt s₀.heap) (ExcName.means s₀.heap) args s₁ (.ok (.ret v)) s')
          (fun e s' => GoodWG lw.row.toRowW.claim (classAt s₀.heap) (ExcName.means s₀.heap) args s₁ (.error e) s') s₁ := by
  have hrd := L.reads
  have hwl := L.well
  have hgens := L.gens
  have hlo : ∀ a ∈ as, (a == sysModules) = false := L.low (by rw [hsz]; decide)
  wrow_args hpre hlay hrd hwl hlo
  rename_i ns _ _ _ _ _ _ _ l its _ hL _ _ _ hI _ hcond _
  obtain ⟨hat, _⟩ := script_at L
  rw [hsz] at hat
  have ho := script_obj L hL
  have C := st_start S V ho (by rw [hat]; rfl) hI
  refine call_law PL C room_caller (.head _) (.tail _ (.head _)) (by omega) fun fs' s' hf C' => ?_
  obtain ⟨g, X, _⟩ := id C'
  refine ⟨.inl ⟨.bool true, .bool true, [], rfl, fun cls => ?_, .bool true, ?_, unshared_nil⟩, st_old S V C', ?_, ?_⟩
  · rfl
  · wrow_post
  · rw [X.sh]
  · rw [X.sh, hgens]; exact AllBare.empty
theorem law02 (PL : Plain2) (k1 : lw.row.wellSaid = true) (hw : lw.row.toRowW.promised) : lw.row.Holds := law_row k1 hw (law02_call PL)
end Tbx
end
theorem PySem.Challenge.cw_au0015_02_holds : PySem.Challenge.rw_au0015_02.Holds := by
  exact Tbx.law_said fun said => Tbx.law02 Tbx.plain2 said Tbx.law_wit
